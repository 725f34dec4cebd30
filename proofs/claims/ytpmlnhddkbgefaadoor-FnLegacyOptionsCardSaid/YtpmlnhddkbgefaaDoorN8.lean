/- spec.lgOnes, by hand (the print of it is 115 kB): pieces without those that say nothing, and without two dots at the beginning or behind others. spec.LgName: a name of pieces as it is written, and as it is told; by hand (a region that draws makes memory and reads it). spec.LgName in the form of a printed function. -/
import Derived.Test.YtpmlnhddkbgefaaDoorLgS
import Derived.Test.YtpmlnhddkbgefaaDoorPLgNamex1
import Derived.Test.YtpmlnhddkbgefaaDoorN1
import Derived.Test.YtpmlnhddkbgefaaDoorM6
import Derived.Test.YtpmlnhddkbgefaaDoorWMore
import Derived.Deep.RegionWith
import Derived.Test.YtpmlnhddkbgefaaDoorN2
namespace Go.Proofs.YtpmlnhddkbgefaaDoor
set_option linter.unusedVariables false
set_option linter.unusedSimpArgs false
open Go.RowKit Go.Proofs.YtpmlnhddkbgefaaDoorW.PrintWords Go.Proofs.YtpmlnhddkbgefaaDoorW.PrintLast Go.Proofs.YtpmlnhddkbgefaaDoorW.PrintMore Go.Proofs.YtpmlnhddkbgefaaDoor.PLgName

def ones : Bool → List S106 → List S106
  | _, [] => []
  | d, p :: ps => if (p.f0 < 0 ∧ p.f1.toList = ([] : List UInt8)) ∨ (p.f0 = 18 ∧ d = true) then ones d ps else p :: ones (p.f0 == 18) ps
theorem escs_f : spec_LgEscapes.f = some (Dm.escTab.map fun x => ⟨bs x.1, bs x.2⟩) := rfl
theorem rdP (ps : List S106) (i : Nat) (h : i < ps.length) : rd_T106 ps (i : Int) = ps[i] := by
  unfold rd_T106
  rw [Int.toNat_natCast, List.getD_eq_getElem?_getD, List.getElem?_eq_getElem h]; rfl
def pcells (xs : List S106) : List Value := xs.flatMap fun p => [.int .i64 p.f0, .string p.f1]
theorem pc_info : (Tryd.prog.info? 106).map (fun i => (i.zero, i.size, i.bytes)) = some (some (.agg #[(.int .i64 0), (.string ⟨#[]⟩)]), 2, 24) := by kernel_rfl
/-- The list as it is made. -/
def OX (w0 : World) (xs : List S106) (v : Value) (w : World) : Prop :=
  w.ownsRow w0.heap.size 106 2 v xs.length (pcells xs) ∧ Below w0.heap.size w0 w
theorem OX.form {w0 w : World} {xs : List S106} {v : Value} (h : OX w0 xs v w) : ∃ a n c, v = .slice a n c := by
  rcases h.1.2 with ⟨hv, _⟩ | ⟨g, cap, cur, hv, _⟩
  · exact ⟨_, _, _, hv⟩
  · exact ⟨_, _, _, hv⟩
theorem OX.alloc {w0 w : World} {xs : List S106} {v : Value} (h : OX w0 xs v w) (o : Obj) : OX w0 xs v (w.alloc o) := ⟨h.1.alloc o, h.2.alloc h.2.size o⟩
theorem OX.drew {w0 w : World} {xs : List S106} {v : Value} (h : OX w0 xs v w) : OX w0 xs v w.drew := ⟨h.1, h.2.drew⟩
theorem OX.below {w0 w w' : World} {xs : List S106} {v : Value} (h : OX w0 xs v w) (hb : Below w.heap.size w w') : OX w0 xs v w' := by
  refine ⟨⟨h.1.1, ?_⟩, h.2.trans (hb.mono h.2.size)⟩
  rcases h.1.2 with hv | ⟨g, cap, cur, hv, hbg, hg, hr⟩
  · exact .inl hv
  · exact .inr ⟨g, cap, cur, hv, hbg, (hb.block g (Array.getElem?_eq_some_iff.1 hg).1).trans hg, hr⟩
theorem OX.next {w0 w w2 : World} {xs : List S106} {v v' : Value} {p : S106} {o : Obj} (h : OX w0 xs v w) (hown : w2.ownsRow w0.heap.size 106 2 v' (xs.length + 1) (pcells xs ++ [.int .i64 p.f0, .string p.f1])) (hg : (w.alloc o).grownBy w2 v.ownBlock) : OX w0 (xs ++ [p]) v' w2 := by
  refine ⟨by simpa [pcells] using hown, (h.2.alloc h.2.size o).grown hg (by have := h.2.size; rw [World.size_alloc]; omega) (fun k hk => (h.1.lt k hk).1)⟩
theorem pcells_at : ∀ (xs : List S106) (j : Nat) (p : S106), xs[j]? = some p → (pcells xs)[j * 2]? = some (.int .i64 p.f0) ∧ (pcells xs)[j * 2 + 1]? = some (.string p.f1) := by
  intro xs
  induction xs with
  | nil => intro j p h; simp at h
  | cons x xs ih =>
    intro j p h
    cases j with
    | zero => simp at h; subst h; exact ⟨rfl, rfl⟩
    | succ j =>
      have := ih j p (by simpa using h)
      show ((Value.int .i64 x.f0) :: (Value.string x.f1) :: pcells xs)[(j + 1) * 2]? = _ ∧ ((Value.int .i64 x.f0) :: (Value.string x.f1) :: pcells xs)[(j + 1) * 2 + 1]? = _
      rw [show (j + 1) * 2 = j * 2 + 1 + 1 by omega, show j * 2 + 1 + 1 + 1 = (j * 2 + 1) + 1 + 1 by omega]
      simpa using this
theorem ox_end {w0 w : World} {xs : List S106} {v : Value} (h : OX w0 xs v w) (hl : xs.length ≤ 1000000) : ∃ A c, v = .slice A xs.length c ∧ xs.length ≤ c ∧ Kd.C k106 w A xs.length xs ∧ Below w0.heap.size w0 w := by
  obtain ⟨h1, h2⟩ := h
  rcases h1.2 with ⟨hv, hn⟩ | ⟨g, cap, cur, hv, _, _, hcap, _⟩
  · exact ⟨none, 0, by rw [hv, hn], by omega, ⟨rfl, by omega, fun hp => by omega⟩, h2⟩
  · refine ⟨some ⟨g, 0, none⟩, cap, hv, hcap, ⟨rfl, by omega, fun hp => ⟨_, rfl, fun j p hj => ⟨[.int .i64 p.f0, .string p.f1], rfl, k106_mk w p, fun i u hu => ?_⟩⟩⟩, h2⟩
    rw [hv] at h1
    obtain ⟨q0, q1⟩ := pcells_at xs j p hj
    have hjl := (List.getElem?_eq_some_iff.1 hj).1
    have hadd : ∀ m, (⟨g, 0, none⟩ : Addr).add m = ⟨g, m, none⟩ := fun m => by simp [Addr.add]; omega
    show w.cell? ((⟨g, 0, none⟩ : Addr).add (j * 2 + i)) = some u
    rw [hadd, h1.cellAt _ (by have : i < 2 := by simpa using (List.getElem?_eq_some_iff.1 hu).1
                              omega)]
    match i, hu with
    | 0, hu => simp at hu; subst hu; exact q0
    | 1, hu => simp at hu; subst hu; exact q1
theorem cell_on {w w' : World} {b : Nat} {v : Value} (h : Below w.heap.size w w') (hc : w.cell? ⟨b, 0, none⟩ = some v) : w'.cell? ⟨b, 0, none⟩ = some v :=
  (World.cell?_of_block (h.block _ (World.block_lt_of_cell? w _ hc))).trans hc
theorem cell_new (w : World) (u v : Value) (T : TypeId) : (w.alloc (.cells #[u, v] T)).cell? ⟨w.heap.size, 0, none⟩ = some u := by rw [Lib.cell_of_heap (heap_alloc_new w _)]; rfl
theorem cell_old {w : World} {b : Nat} {v : Value} (o : Obj) (hc : w.cell? ⟨b, 0, none⟩ = some v) : (w.alloc o).cell? ⟨b, 0, none⟩ = some v :=
  (World.cell?_of_block (Lib.alloc_old w o b (World.block_lt_of_cell? w _ hc))).trans hc
theorem cell_old' {w : World} {a : Addr} {v : Value} (hc : w.cell? a = some v) (o : Obj) : (w.alloc o).cell? a = some v :=
  (World.cell?_of_block (Lib.alloc_old w o a.block (World.block_lt_of_cell? w _ hc))).trans hc
theorem cell_drew {w : World} {b : Nat} {v : Value} (hc : w.cell? ⟨b, 0, none⟩ = some v) : w.drew.cell? ⟨b, 0, none⟩ = some v := hc
theorem str_c0 {w : World} {b : Nat} {u v : Value} {T : TypeId} (h : w.heap[b]? = some (.cells #[u, v] T (0, 0))) : w.cell? ⟨b, 0, none⟩ = some u := by rw [Lib.cell_of_heap h]; rfl
theorem str_c1 {w : World} {b : Nat} {u v : Value} {T : TypeId} (h : w.heap[b]? = some (.cells #[u, v] T (0, 0))) : w.cell? ⟨b, 1, none⟩ = some v := by rw [Lib.cell_of_heap h]; rfl
theorem ones_skip {p : S106} {ps xs R : List S106} {b : Bool} (h : xs ++ ones b (p :: ps) = R) (hc : (p.f0 < 0 ∧ p.f1.toList = ([] : List UInt8)) ∨ (p.f0 = 18 ∧ b = true)) : xs ++ ones b ps = R := by rw [← h]; simp only [ones]; rw [if_pos hc]
theorem ones_take {p : S106} {ps xs R : List S106} {b : Bool} (h : xs ++ ones b (p :: ps) = R) (hc : ¬ ((p.f0 < 0 ∧ p.f1.toList = ([] : List UInt8)) ∨ (p.f0 = 18 ∧ b = true))) : (xs ++ [p]) ++ ones (p.f0 == 18) ps = R := by rw [← h]; simp only [ones]; rw [if_neg hc]; simp
set_option maxHeartbeats 4000000 in
set_option maxRecDepth 100000 in
theorem lgOnes_calls (l : List S106) (A : Option Addr) (c : Nat) (w : World) (hC : Kd.C k106 w A l.length l) (hm : l.length ≤ 1000000) :
    Calls Tryd.prog 62 #[.slice A l.length c] w fun e w' => ∃ A1 c1, e = .returned (.slice A1 (ones true l).length c1) ∧ (ones true l).length ≤ c1 ∧ Kd.C k106 w' A1 (ones true l).length (ones true l) ∧ Below w.heap.size w w' := by
  have hu1 := Tryd.underlying106
  have hu2 := Tryd.underlying56
  obtain ⟨i0, hi0, hz0, hz1, hz2⟩ := info_parts pc_info
  have HC := Lib.hid hC
  obtain ⟨R, hR⟩ : ∃ R, ones true l = R := ⟨_, rfl⟩
  have HR := Lib.hid hR
  rw [hR]
  clear hC hR
  go_enter Tryd.func62, Tryd.ntmps62
  go_wp2_with fail
  go_loopw [3, 4, 11] (fun v3 v4 v11 wr => ∃ (i : Nat) (xs : List S106) (b : Bool), v4 = .bool b ∧ v11 = .int .i64 i ∧ i ≤ l.length ∧ xs.length ≤ i ∧ OX w xs v3 wr ∧ xs ++ ones b (l.drop i) = R) (fun _ _ v11 _ => l.length - (intOf v11).toNat)
  case atStart => exact ⟨0, [], true, rfl, rfl, Nat.zero_le _, Nat.zero_le _, ⟨⟨rfl, .inr ⟨w.heap.size, 0, #[], rfl, Nat.le_refl _, heap_alloc_new w _, Nat.le_refl _, by decide, rfl, rfl⟩⟩, (Below.refl _ w).alloc (Nat.le_refl _) _⟩, by rw [List.drop_zero]; exact HR.out⟩
  case round =>
    obtain ⟨i, xs, b, rfl, rfl, hi, hxl, hox, hS⟩ := hrel
    obtain ⟨a3, n3, c3, rfl⟩ := hox.form
    by_cases hlt : i < l.length
    · have hli : (i : Int) < (l.length : Int) := by omega
      have hwi : IntKind.i64.wrap ((i : Int) + 1) = (i : Int) + 1 := IntWalk.i64_in _ (by omega)
      obtain ⟨ad, rfl, hx0, hx1⟩ := at_T106 (Kd.C_below HC.out hox.2) (i : Int) (by omega) hli
      rw [rdP l i hlt, Int.toNat_natCast] at hx0 hx1
      rw [List.drop_eq_getElem_cons hlt] at hS
      generalize l[i] = p at *
      have hce : (Dm.escTab.length : Int) = 19 := rfl
      have hw18 : IntKind.i64.wrap ((19 : Int) - 1) = 18 := IntWalk.i64_in _ (by omega)
      have HOX := Lib.hid hox
      clear hox
      go_upto_region 6 with (fail)
      go_cut [7] from 15 to 20 (fun v7 wc => v7 = .bool (p.f0 == 18) ∧ OX w xs (.slice a3 n3 c3) wc ∧ wc.heap[wr.heap.size]? = some (.cells #[.int .i64 p.f0, .string p.f1] 106 (0, 0)))
      case first =>
        have HO2 := Lib.hid (HOX.out.alloc (.cells #[.int .i64 p.f0, .string p.f1] 106))
        have HB2 := Lib.hid (heap_alloc_new wr (.cells #[.int .i64 p.f0, .string p.f1] 106))
        go_region_with (go_at_call 33; refine (spec_LgEscapes.calls _ _ escs_f).mono ?_; rintro e w3 ⟨v3, rfl, hr3, hb3⟩; obtain ⟨A3, c4, rfl, hl3, hC3⟩ := Kd.R_reads hr3; have hz3 := cell_on hb3 (by first | exact cell_drew (cell_new wr _ _ _) | exact cell_new wr _ _ _))
        all_goals go_wp2_with fail
        all_goals
          have HQ := Lib.hid (And.intro (OX.below (OX.drew HO2.out) hb3) ((hb3.block wr.heap.size (by show wr.heap.size < (wr.alloc _).heap.size; rw [World.size_alloc]; omega)).trans HB2.out))
          go_meet
          case rel => exact ⟨rfl, HQ.out.1, HQ.out.2⟩
      case rest =>
        obtain ⟨rfl, ho, hblk⟩ := hcut
        have c80 := str_c0 hblk
        have c81 := str_c1 hblk
        clear hblk HOX hx0 hx1 hce hw18
        by_cases k0 : p.f0 < 0
        · have k1 : (p.f0 == 18) = false := beq_eq_false_iff_ne.2 (by omega)
          by_cases k2 : p.f1.toList = ([] : List UInt8)
          · have k3 : p.f1.toList.isEmpty = true := by rw [k2]; rfl
            have HQ := Lib.hid (ones_skip hS (.inl ⟨k0, k2⟩))
            clear hS k2
            go_wp2_with fail
            go_roundw
            case rel => exact ⟨i + 1, xs, b, rfl, rfl, by omega, by omega, ho, HQ.out⟩
            case measure => simp [intOf]; omega
          · have k3 : p.f1.toList.isEmpty = false := by simpa using k2
            have HQ := Lib.hid (by have h_ := ones_take hS (by rintro (h | h); exact k2 h.2; have := h.1; omega); rw [k1] at h_; exact h_)
            clear hS k2
            go_wp2_with (at_builtin; refine wpList_append_own _ rfl _ _ 86 rfl w.heap.size 106 i0 (.agg #[(.int .i64 0), (.string ⟨#[]⟩)]) 2 24 Tryd.underlying86 hi0 hz0 hz1 hz2 rfl (by decide) _ _ _ rfl (ho.1.alloc _) ⟨wc.heap.size, 0, none⟩ 1 1 [.int .i64 p.f0, .string p.f1] rfl rfl (by intro j u hj; rcases j with _ | _ | j; (simp at hj; subst hj; simp [Addr.add]); (simp at hj; subst hj; simp [Addr.add]); (simp at hj)) (by intro u hu; simp at hu; rcases hu with rfl | rfl <;> rfl) (by unfold maxLen; omega) (by omega) (by have := ho.2.size; rw [World.size_alloc]; omega) ?_)
            intro v2 w2 hown hg _
            have HN := Lib.hid (ho.next hown hg)
            obtain ⟨a9, n9, c9, rfl⟩ := HN.out.form
            clear ho hown hg
            go_wp2_with fail
            go_roundw
            case rel => exact ⟨i + 1, xs ++ [p], _, rfl, rfl, by omega, by rw [List.length_append]; simp; omega, HN.out, HQ.out⟩
            case measure => simp [intOf]; omega
        · by_cases k1 : p.f0 = 18
          · have k2 : (p.f0 == 18) = true := by rw [k1]; rfl
            cases b with
            | true =>
            have HQ := Lib.hid (ones_skip hS (.inr ⟨k1, rfl⟩))
            clear hS k1
            go_wp2_with fail
            go_roundw
            case rel => exact ⟨i + 1, xs, true, rfl, rfl, by omega, by omega, ho, HQ.out⟩
            case measure => simp [intOf]; omega
            | false =>
            have HQ := Lib.hid (by have h_ := ones_take hS (by rintro (h | h); exact k0 h.1; exact absurd h.2 (by decide)); rw [k2] at h_; exact h_)
            clear hS k1
            go_wp2_with (at_builtin; refine wpList_append_own _ rfl _ _ 86 rfl w.heap.size 106 i0 (.agg #[(.int .i64 0), (.string ⟨#[]⟩)]) 2 24 Tryd.underlying86 hi0 hz0 hz1 hz2 rfl (by decide) _ _ _ rfl (ho.1.alloc _) ⟨wc.heap.size, 0, none⟩ 1 1 [.int .i64 p.f0, .string p.f1] rfl rfl (by intro j u hj; rcases j with _ | _ | j; (simp at hj; subst hj; simp [Addr.add]); (simp at hj; subst hj; simp [Addr.add]); (simp at hj)) (by intro u hu; simp at hu; rcases hu with rfl | rfl <;> rfl) (by unfold maxLen; omega) (by omega) (by have := ho.2.size; rw [World.size_alloc]; omega) ?_)
            intro v2 w2 hown hg _
            have HN := Lib.hid (ho.next hown hg)
            obtain ⟨a9, n9, c9, rfl⟩ := HN.out.form
            clear ho hown hg
            go_wp2_with fail
            go_roundw
            case rel => exact ⟨i + 1, xs ++ [p], _, rfl, rfl, by omega, by rw [List.length_append]; simp; omega, HN.out, HQ.out⟩
            case measure => simp [intOf]; omega
          · have k2 : (p.f0 == 18) = false := beq_eq_false_iff_ne.2 k1
            have HQ := Lib.hid (by have h_ := ones_take hS (by rintro (h | h); exact k0 h.1; exact k1 h.1); rw [k2] at h_; exact h_)
            clear hS k1
            go_wp2_with (at_builtin; refine wpList_append_own _ rfl _ _ 86 rfl w.heap.size 106 i0 (.agg #[(.int .i64 0), (.string ⟨#[]⟩)]) 2 24 Tryd.underlying86 hi0 hz0 hz1 hz2 rfl (by decide) _ _ _ rfl (ho.1.alloc _) ⟨wc.heap.size, 0, none⟩ 1 1 [.int .i64 p.f0, .string p.f1] rfl rfl (by intro j u hj; rcases j with _ | _ | j; (simp at hj; subst hj; simp [Addr.add]); (simp at hj; subst hj; simp [Addr.add]); (simp at hj)) (by intro u hu; simp at hu; rcases hu with rfl | rfl <;> rfl) (by unfold maxLen; omega) (by omega) (by have := ho.2.size; rw [World.size_alloc]; omega) ?_)
            intro v2 w2 hown hg _
            have HN := Lib.hid (ho.next hown hg)
            obtain ⟨a9, n9, c9, rfl⟩ := HN.out.form
            clear ho hown hg
            go_wp2_with fail
            go_roundw
            case rel => exact ⟨i + 1, xs ++ [p], _, rfl, rfl, by omega, by rw [List.length_append]; simp; omega, HN.out, HQ.out⟩
            case measure => simp [intOf]; omega
    · have hie : i = l.length := by omega
      subst hie
      rw [List.drop_length] at hS
      have hxs : xs = R := by rw [← hS]; simp [ones]
      subst hxs
      have hnl : ¬ (l.length : Int) < (l.length : Int) := by omega
      obtain ⟨A9, c9, hv, hl9, hC9, hb9⟩ := ox_end hox (by omega)
      have HF := Lib.hid (And.intro hl9 (And.intro hC9 hb9))
      rw [hv]
      clear hox hl9 hC9 hb9 hv
      go_wp2_with fail
      go_ret
      exact ⟨A9, c9, rfl, HF.out.1, HF.out.2.1, HF.out.2.2⟩
end Go.Proofs.YtpmlnhddkbgefaaDoor
namespace Go.Proofs.YtpmlnhddkbgefaaDoor
set_option linter.unusedVariables false
set_option linter.unusedSimpArgs false
open Go.RowKit Go.Proofs.YtpmlnhddkbgefaaDoorW.PrintWords Go.Proofs.YtpmlnhddkbgefaaDoorW.PrintLast Go.Proofs.YtpmlnhddkbgefaaDoorW.PrintMore Go.Proofs.YtpmlnhddkbgefaaDoor.PLgName

/-- A piece: what is written of it, and what is told. -/
def pw (p : S106) : List UInt8 := if p.f0 < 0 then p.f1.data.toList else (Dm.escTab.getD p.f0.toNat ([], [])).1
def pt (p : S106) : List UInt8 := if p.f0 < 0 then p.f1.data.toList else (Dm.escTab.getD p.f0.toNat ([], [])).2
def pws (ps : List S106) : List UInt8 := ps.flatMap pw
def pts (ps : List S106) : List UInt8 := ps.flatMap pt
def barred (w : List UInt8) : List UInt8 := if w.head? = some 36 then 95 :: w else w
/-- A piece as the laws make it. -/
def PcOk (p : S106) : Prop := p.f0 < 19 ∧ p.f1.size ≤ 2
theorem rdE (i : Nat) (h : i < 19) : rd_T56 (Dm.escTab.map fun x => ⟨bs x.1, bs x.2⟩) (i : Int) = ⟨bs (Dm.escTab.getD i ([], [])).1, bs (Dm.escTab.getD i ([], [])).2⟩ := by
  have h2 : i < Dm.escTab.length := h
  unfold rd_T56
  rw [Int.toNat_natCast, List.getD_eq_getElem?_getD, List.getElem?_map, List.getD_eq_getElem?_getD, List.getElem?_eq_getElem h2]; rfl
theorem ones_sub (l : List S106) : ∀ b, (ones b l).length ≤ l.length ∧ ∀ p ∈ ones b l, p ∈ l := by
  induction l with
  | nil => intro b; simp [ones]
  | cons p l ih =>
    intro b
    simp only [ones]
    split
    · refine ⟨Nat.le_succ_of_le (ih b).1, fun q hq => List.mem_cons_of_mem _ ((ih b).2 q hq)⟩
    · refine ⟨Nat.succ_le_succ (ih _).1, fun q hq => ?_⟩
      rcases List.mem_cons.1 hq with rfl | hq
      · exact List.mem_cons_self ..
      · exact List.mem_cons_of_mem _ ((ih _).2 q hq)
theorem tab_len : ∀ i : Fin 19, (Dm.escTab.getD i.val ([], [])).1.length ≤ 5 ∧ (Dm.escTab.getD i.val ([], [])).2.length ≤ 5 := by decide
theorem pc_len {p : S106} (h : PcOk p) : (pw p).length ≤ 5 ∧ (pt p).length ≤ 5 := by
  obtain ⟨h1, h2⟩ := h
  unfold pw pt
  by_cases c : p.f0 < 0
  · rw [if_pos c, if_pos c]
    have : p.f1.data.toList.length = p.f1.size := by simp
    omega
  · rw [if_neg c, if_neg c]
    exact tab_len ⟨p.f0.toNat, by omega⟩
theorem pws_take {ps : List S106} {i : Nat} (h : i < ps.length) : pws (ps.take (i + 1)) = pws (ps.take i) ++ pw ps[i] ∧ pts (ps.take (i + 1)) = pts (ps.take i) ++ pt ps[i] := by
  unfold pws pts
  rw [List.take_succ_eq_append_getElem h, List.flatMap_append, List.flatMap_append, List.flatMap_singleton, List.flatMap_singleton]
  exact ⟨rfl, rfl⟩
theorem pws_len (ps : List S106) (h : ∀ p ∈ ps, PcOk p) : (pws ps).length ≤ 5 * ps.length ∧ (pts ps).length ≤ 5 * ps.length := by
  induction ps with
  | nil => simp [pws, pts]
  | cons p ps ih =>
    obtain ⟨h1, h2⟩ := ih fun q hq => h q (List.mem_cons_of_mem _ hq)
    obtain ⟨h3, h4⟩ := pc_len (h p (List.mem_cons_self ..))
    unfold pws pts at *
    constructor
    · simp only [List.flatMap_cons, List.length_append, List.length_cons]; omega
    · simp only [List.flatMap_cons, List.length_append, List.length_cons]; omega
theorem bs_data (a : ByteArray) : bs a.data.toList = a := by apply ByteArray.ext; show a.data.toList.toArray = a.data; simp
theorem bs_cat2 (l m : List UInt8) : bs l ++ bs m = bs (l ++ m) := by
  apply ByteArray.ext
  simp [bs]
theorem str_block {wr w3 : World} {q : Int} {s : ByteArray} (h : Below ((wr.alloc (.cells #[.int .i64 q, .string s] 106)).alloc (.cells #[.string ⟨#[]⟩, .string ⟨#[]⟩] 56)).drew.heap.size ((wr.alloc (.cells #[.int .i64 q, .string s] 106)).alloc (.cells #[.string ⟨#[]⟩, .string ⟨#[]⟩] 56)).drew w3) :
    w3.heap[wr.heap.size + 1]? = some (.cells #[.string ⟨#[]⟩, .string ⟨#[]⟩] 56 (0, 0)) := by
  have h1 := heap_alloc_new (wr.alloc (.cells #[.int .i64 q, .string s] 106)) (.cells #[.string ⟨#[]⟩, .string ⟨#[]⟩] 56)
  simp only [World.size_alloc] at h1
  refine (h.block (wr.heap.size + 1) ?_).trans h1
  show wr.heap.size + 1 < ((wr.alloc _).alloc _).heap.size
  simp only [World.size_alloc]; omega
theorem rel_new {w1 W0 w3 : World} (h : Below w1.heap.size w1 W0) (h3 : Below W0.heap.size W0 w3) (o : Obj) : Below w1.heap.size w1 (w3.alloc o) := (h.trans (h3.mono h.size)).alloc (Nat.le_trans h.size h3.size) o
theorem rel_set {w1 W0 w3 : World} {b : Nat} (h : Below w1.heap.size w1 W0) (h3 : Below W0.heap.size W0 w3) (hb : w1.heap.size ≤ b) (u v : Value) : Below w1.heap.size w1 ((w3.setCell ⟨b, 0, none⟩ u).setCell ⟨b, 1, none⟩ v) :=
  ((h.trans (h3.mono h.size)).setCell (p := ⟨b, 0, none⟩) hb u).setCell (p := ⟨b, 1, none⟩) hb v
theorem set_block {w : World} {b : Nat} {u v x y : Value} {T : TypeId} (h : w.heap[b]? = some (.cells #[u, v] T (0, 0))) : ((w.setCell ⟨b, 0, none⟩ x).setCell ⟨b, 1, none⟩ y).heap[b]? = some (.cells #[x, y] T (0, 0)) := by
  simp [World.setCell, Array.getElem?_modify, h]
set_option maxHeartbeats 4000000 in
set_option maxRecDepth 100000 in
theorem lgName_calls (l : List S106) (A : Option Addr) (c : Nat) (w : World) (hC : Kd.C k106 w A l.length l) (hc : l.length ≤ c) (hm : l.length ≤ 1000000) (hok : ∀ p ∈ l, PcOk p) :
    Calls Tryd.prog 45 #[.slice A l.length c] w fun e w' => e = .returned (.tuple #[.string (bs (barred (pws (ones true l)))), .string (bs (pts (ones true l)))]) ∧ Below w.heap.size w w' := by
  have hu1 := Tryd.underlying106
  have hu2 := Tryd.underlying56
  have HO := Lib.hid (lgOnes_calls l A c w hC hm)
  obtain ⟨hs1, hs2⟩ := ones_sub l true
  have hok2 : ∀ p ∈ ones true l, PcOk p := fun p hp => hok p (hs2 p hp)
  clear hC hc hok hs2
  generalize ones true l = ps at *
  have hpm : ps.length ≤ 1000000 := by omega
  clear hm hs1
  have HOK := Lib.hid hok2
  clear hok2
  go_enter Tryd.func45, Tryd.ntmps45
  go_wp2_with fail
  refine HO.out.mono ?_
  rintro e w1 ⟨A1, c1, rfl, hl1, hC1, hb⟩
  have HC1 := Lib.hid hC1
  have HB1 := Lib.hid hb
  clear hb hC1
  go_wp2_with fail
  go_loopw [4, 5, 12] (fun v4 v5 v12 wr => ∃ i : Nat, i ≤ ps.length ∧ v4 = .string (bs (pws (ps.take i))) ∧ v5 = .string (bs (pts (ps.take i))) ∧ v12 = .int .i64 i ∧ Below w1.heap.size w1 wr) (fun _ _ v12 _ => ps.length - (intOf v12).toNat)
  case atStart => exact ⟨0, Nat.zero_le _, rfl, rfl, rfl, Below.refl _ _⟩
  case round =>
    obtain ⟨i, hi, rfl, rfl, rfl, hb⟩ := hrel
    have HB := Lib.hid hb
    by_cases hlt : i < ps.length
    · have hli : (i : Int) < (ps.length : Int) := by omega
      have hwi : IntKind.i64.wrap ((i : Int) + 1) = (i : Int) + 1 := IntWalk.i64_in _ (by omega)
      obtain ⟨ad, rfl, hx0, hx1⟩ := at_T106 (Kd.C_below HC1.out hb) (i : Int) (by omega) hli
      rw [rdP ps i hlt, Int.toNat_natCast] at hx0 hx1
      obtain ⟨ht1, ht2⟩ := pws_take hlt
      have hpk := HOK.out ps[i] (List.getElem_mem hlt)
      obtain ⟨hn1, hn2⟩ := pws_len (ps.take i) fun p hp => HOK.out p (List.mem_of_mem_take hp)
      rw [List.length_take] at hn1 hn2
      generalize ps[i] = p at *
      obtain ⟨hq1, hq2⟩ := pc_len hpk
      have HT := Lib.hid (And.intro ht1 ht2)
      clear ht1 ht2 hb
      generalize pws (ps.take i) = W1 at *
      generalize pts (ps.take i) = W2 at *
      by_cases c0 : p.f0 < 0
      · have hpe : bs (pw p) = p.f1 ∧ bs (pt p) = p.f1 := by unfold pw pt; rw [if_pos c0, if_pos c0]; exact ⟨bs_data _, bs_data _⟩
        have hps := hpk.2
        have ho1 : ¬ 9223372036854775807 < (bs W1).size + p.f1.size := by rw [bs_size]; omega
        have ho2 : ¬ 9223372036854775807 < (bs W2).size + p.f1.size := by rw [bs_size]; omega
        have HE : Hid (bs W1 ++ p.f1 = bs (pws (ps.take (i + 1))) ∧ bs W2 ++ p.f1 = bs (pts (ps.take (i + 1)))) := Lib.hid (by rw [HT.out.1, HT.out.2, ← bs_cat2, ← bs_cat2, hpe.1, hpe.2]; exact ⟨rfl, rfl⟩)
        clear hpe hps hpk hq1 hq2 hn1 hn2 HT
        go_wp2_with fail
        go_roundw
        case rel => exact ⟨i + 1, by omega, by rw [HE.out.1], by rw [HE.out.2], rfl, HB.out.alloc HB.out.size _⟩
        case measure => simp [intOf]; omega
      · obtain ⟨q, hq⟩ : ∃ q : Nat, p.f0 = (q : Int) := ⟨p.f0.toNat, by omega⟩
        have hq19 : q < 19 := by have := hpk.1; omega
        have hpe : pw p = (Dm.escTab.getD q ([], [])).1 ∧ pt p = (Dm.escTab.getD q ([], [])).2 := by unfold pw pt; rw [if_neg c0, if_neg c0, hq, Int.toNat_natCast]; exact ⟨rfl, rfl⟩
        rw [hpe.1] at hq1
        rw [hpe.2] at hq2
        rw [hpe.1, hpe.2] at HT
        have HRE := Lib.hid (rdE q hq19)
        generalize (Dm.escTab.getD q ([], [])).1 = E1 at *
        generalize (Dm.escTab.getD q ([], [])).2 = E2 at *
        have ho1 : ¬ 9223372036854775807 < (bs W1).size + (bs E1).size := by rw [bs_size, bs_size]; omega
        have ho2 : ¬ 9223372036854775807 < (bs W2).size + (bs E2).size := by rw [bs_size, bs_size]; omega
        have HE : Hid (bs W1 ++ bs E1 = bs (pws (ps.take (i + 1))) ∧ bs W2 ++ bs E2 = bs (pts (ps.take (i + 1)))) := Lib.hid (by rw [HT.out.1, HT.out.2, ← bs_cat2, ← bs_cat2]; exact ⟨rfl, rfl⟩)
        rw [hq] at hx0 c0
        clear hpe hpk hq1 hq2 hn1 hn2 HT
        go_upto_region 8 with (fail)
        go_cut [8] from 27 to 31 (fun v8 wc => ∃ b, v8 = .pointer (some ⟨b, 0, none⟩) ∧ wc.heap[b]? = some (.cells #[.string (bs E1), .string (bs E2)] 56 (0, 0)) ∧ Below w1.heap.size w1 wc)
        case first =>
          have HB2 := Lib.hid (HB.out.alloc HB.out.size (.cells #[.int .i64 q, .string p.f1] 106))
          have e0 := heap_alloc_new wr (.cells #[.int .i64 q, .string p.f1] 106)
          go_region_with (go_at_call 33; refine (spec_LgEscapes.calls _ _ escs_f).mono ?_; rintro e w3 ⟨v3, rfl, hr3, hb3⟩; obtain ⟨A3, c3, rfl, hl3, hC3⟩ := Kd.R_reads hr3; obtain ⟨ad3, rfl, hy0, hy1⟩ := at_T56 hC3 (q : Int) (by omega) (by simp; show q < 19; omega); rw [HRE.out, Int.toNat_natCast] at hy0 hy1; have hz3 := cell_on hb3 (by first | exact cell_drew (cell_new wr _ _ _) | exact cell_new wr _ _ _ | exact cell_drew (cell_old _ (cell_new wr _ _ _)) | exact cell_old _ (cell_new wr _ _ _) | exact cell_old _ (cell_drew (cell_new wr _ _ _)) | trace_state); have hz3a := fun o => cell_old' hz3 o; have hy0a := fun o => cell_old' hy0 o; have hy1a := fun o => cell_old' hy1 o; try (have e3 := str_block hb3; have f30 := Lib.frozen_of_heap e3 0; have f31 := Lib.frozen_of_heap e3 1; have c30 := str_c0 e3; have c31 := str_c1 e3))
          all_goals go_wp2_with fail
          all_goals first
            | (have HQ := Lib.hid (rel_set (b := wr.heap.size + 1) ((HB2.out.alloc HB2.out.size _).drew) hb3 (Nat.le_succ_of_le HB.out.size) (.string (bs E1)) (.string (bs E2))); have HZ := Lib.hid (set_block (x := .string (bs E1)) (y := .string (bs E2)) e3); go_meet; case rel => exact ⟨_, rfl, HZ.out, HQ.out⟩)
            | (have HQ := Lib.hid (fun o => rel_new HB2.out.drew hb3 o); go_meet; case rel => exact ⟨_, rfl, heap_alloc_new _ _, HQ.out _⟩)
        case rest =>
          obtain ⟨b8, rfl, hblk, hb8⟩ := hcut
          have HB8 := Lib.hid hb8
          have c80 := str_c0 hblk
          have c81 := str_c1 hblk
          clear hb8
          go_wp2_with fail
          go_roundw
          case rel => exact ⟨i + 1, by omega, by rw [HE.out.1], by rw [HE.out.2], rfl, HB8.out⟩
          case measure => simp [intOf]; omega
    · have hie : i = ps.length := by omega
      rw [hie, List.take_of_length_le (Nat.le_refl _)]
      have hnl : ¬ (i : Int) < (ps.length : Int) := by omega
      have HBX := Lib.hid (HB1.out.trans (hb.mono HB1.out.size))
      have hz := bs_size (pws ps)
      have hwl := (pws_len ps fun p hp => HOK.out p hp).1
      clear hb hlt
      obtain ⟨W1, hW1⟩ : ∃ W, pws ps = W := ⟨_, rfl⟩
      rw [hW1] at hz hwl ⊢
      have HW := Lib.hid hW1
      clear hW1
      cases W1 with
      | nil =>
        have hte : (bs ([] : List UInt8)).toList.isEmpty = true := by simp [bs]
        go_wp2_with fail
        go_ret2
        exact ⟨by rw [HW.out]; rfl, HBX.out⟩
      | cons x r =>
        have hte : (bs (x :: r)).toList.isEmpty = false := by simp [bs]
        have i0 : (bs (x :: r))[0]'(by rw [hz]; simp) = x := rfl
        have lz0 : (0 : Int) < ((bs (x :: r)).size : Int) := by rw [hz]; simp <;> omega
        by_cases hx : x = 36
        · subst hx
          have n0 : (((36 : UInt8).toNat : Int) == 36) = true := rfl
          have ho : ¬ 9223372036854775807 < (⟨#[95]⟩ : ByteArray).size + (bs (36 :: r)).size := by rw [hz]; show ¬ 9223372036854775807 < 1 + _; omega
          have ho1 : ¬ 9223372036854775807 < 1 + (bs (36 :: r)).size := by rw [hz]; omega
          have hcat : (⟨#[95]⟩ : ByteArray) ++ bs (36 :: r) = bs (95 :: 36 :: r) := bs_cat2 [95] _
          go_wp2_with fail
          go_ret2
          exact ⟨by rw [HW.out]; rfl, HBX.out⟩
        · have hxb : ((x.toNat : Int) == 36) = false := u8_ne (d := 36) hx
          go_wp2_with fail
          go_ret2
          exact ⟨by rw [HW.out, show barred (x :: r) = x :: r from if_neg (by simpa using hx)]; rfl, HBX.out⟩
end Go.Proofs.YtpmlnhddkbgefaaDoor
namespace Go.Proofs.YtpmlnhddkbgefaaDoor
set_option linter.unusedVariables false
set_option linter.unusedSimpArgs false
open Go.RowKit Go.Proofs.YtpmlnhddkbgefaaDoorW.PrintWords Go.Proofs.YtpmlnhddkbgefaaDoorW.PrintLast Go.Proofs.YtpmlnhddkbgefaaDoorW.PrintMore

def spec_LgName.f (l0 : List S106) : Option (ByteArray × ByteArray) :=
  if l0.length ≤ 1000000 ∧ ∀ p ∈ l0, p.f0 < 19 ∧ p.f1.size ≤ 2 then some (bs (barred (pws (ones true l0))), bs (pts (ones true l0))) else none
theorem spec_LgName.calls (A0 : Option Addr) (c0 : Nat) (l0 : List S106) (r1 : ByteArray) (r2 : ByteArray) (w : World) (hr0 : Kd.C k106 w A0 l0.length l0) (hc0 : l0.length ≤ c0) (h : spec_LgName.f l0 = some (r1, r2)) :
    Calls Tryd.prog 45 #[.slice A0 l0.length c0] w fun e w' => e = .returned (.tuple #[.string r1, .string r2]) ∧ Below w.heap.size w w' := by
  unfold spec_LgName.f at h
  by_cases hs : l0.length ≤ 1000000 ∧ ∀ p ∈ l0, p.f0 < 19 ∧ p.f1.size ≤ 2
  · rw [if_pos hs] at h
    simp only [Option.some.injEq, Prod.mk.injEq] at h
    obtain ⟨rfl, rfl⟩ := h
    exact lgName_calls l0 A0 c0 w hr0 hc0 hs.1 hs.2
  · rw [if_neg hs] at h; cases h
end Go.Proofs.YtpmlnhddkbgefaaDoor
