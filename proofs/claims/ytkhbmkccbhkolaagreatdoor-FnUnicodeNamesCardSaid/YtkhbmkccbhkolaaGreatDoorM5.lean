/- What an error is told as: the one that says that a name is not mangled, and the reader's own. The options' list: what the reader makes of it; and what rustToString answers to what is no name of its kind. The thin package's Told, in the form of a printed function. -/
import Derived.Test.YtkhbmkccbhkolaaGreatDoorProg
import Derived.Test.YtkhbmkccbhkolaaGreatDoorM1
import Derived.LaidEql
import Derived.Handy
import Derived.Below
import Derived.RegionTactic
import Derived.Lib.Hide
import Derived.Test.YtkhbmkccbhkolaaGreatDoorTold
import Derived.Test.YtkhbmkccbhkolaaGreatDoorM3
namespace Go.Proofs.YtkhbmkccbhkolaaGreatDoor
set_option linter.unusedVariables false
set_option linter.unusedSimpArgs false
open Go.RowKit

/-- The variable holds a pointer to an error. -/
def NotIs (w : World) : Prop := ∃ a, w.cell? ⟨0, 0, none⟩ = some (.iface 123 (.pointer (some a)))
theorem notIs_below {w w' : World} (h : NotIs w) (hb : Below w.heap.size w w') : NotIs w' := by
  obtain ⟨a, h⟩ := h
  exact ⟨a, (World.cell?_of_block (w := w) (hb.block _ (World.block_lt_of_cell? w _ h))).trans h⟩
instance : Stays NotIs := ⟨notIs_below⟩

theorem eql_same (a : Addr) (w : World) : (binOp .eql 44 (.iface 123 (.pointer (some a))) (.iface 123 (.pointer (some a)))).run Tryz.prog w = .ok (.bool true) w := by
  obtain ⟨i, hi, hc⟩ := Option.map_eq_some_iff.1 (show (Tryz.prog.info? 123).map (·.comparable) = some true by kernel_rfl)
  obtain ⟨j, hj, _⟩ := Option.map_eq_some_iff.1 (show (Tryz.prog.info? 137).map (·.size) = some 1 by kernel_rfl)
  exact run_eql_iface_ptr_same w a Tryz.underlying44 Tryz.underlying123 hi hc hj
theorem eql_other (a : Addr) (v : Value) (w : World) : (binOp .eql 44 (.iface 64 v) (.iface 123 (.pointer (some a)))).run Tryz.prog w = .ok (.bool false) w := by
  have h : ∀ d : Nat, (Op.equalIn (d + 1) 44 (.iface 64 v) (.iface 123 (.pointer (some a)))).run Tryz.prog w = .ok false w := fun d => by
    simp [Op.equalIn, run_underlying Tryz.underlying44]
  simp only [binOp]
  simp [Op.equal, Op.maxDepth, h 9999]
theorem eql_nil (t : TypeId) (v : Value) (w : World) : (binOp .eql 44 (.iface t v) .nilIface).run Tryz.prog w = .ok (.bool false) w := by
  have h : ∀ d : Nat, (Op.equalIn (d + 1) 44 (.iface t v) .nilIface).run Tryz.prog w = .ok false w := fun d => by
    simp [Op.equalIn, run_underlying Tryz.underlying44]
  simp only [binOp]
  simp [Op.equal, Op.maxDepth, h 9999]

set_option maxRecDepth 100000 in
theorem fault_other (v : Value) (w : World) (h : NotIs w) :
    Calls Tryz.prog 17 #[.iface 64 v] w fun e w' => e = .returned (.int .i64 2) ∧ w = w' := by
  obtain ⟨a, hc⟩ := h
  have h1 := eql_other a v
  have h2 := eql_nil 64 v
  go_enter Tryz.func17, Tryz.ntmps17
  go_wp2
  go_ret
  exact ⟨rfl, rfl⟩
set_option maxRecDepth 100000 in
theorem fault_not (a : Addr) (w : World) (hc : w.cell? ⟨0, 0, none⟩ = some (.iface 123 (.pointer (some a)))) :
    Calls Tryz.prog 17 #[.iface 123 (.pointer (some a))] w fun e w' => e = .returned (.int .i64 1) ∧ w = w' := by
  have h1 := eql_same a
  have h2 := eql_nil 123 (.pointer (some a))
  go_enter Tryz.func17, Tryz.ntmps17
  go_wp2
  go_ret
  exact ⟨rfl, rfl⟩
end Go.Proofs.YtkhbmkccbhkolaaGreatDoor
namespace Go.Proofs.YtkhbmkccbhkolaaGreatDoor
set_option linter.unusedVariables false
set_option linter.unusedSimpArgs false
open Go.RowKit Go.Proofs.YtkhbmkccbhkolaaGreatDoorW.PrintWords Go.Proofs.YtkhbmkccbhkolaaGreatDoorW.PrintLast Go.Proofs.YtkhbmkccbhkolaaGreatDoorW.PrintMore

theorem opts_app (s : RS) (L M : List Int) : opts s (L ++ M) = opts (opts s L) M := by unfold opts; rw [List.foldl_append]
theorem opts_dull (s : RS) (b : Bool) (c : Int) (h1 : c ≠ 1) (h2 : isMx c = false) : opts s (one b c) = s := by
  unfold one
  split
  · show optStep s c = s
    unfold optStep
    rw [if_neg h1, if_neg (by rw [h2]; decide)]
  · rfl
theorem opts_L (l : List UInt8) (o0 o1 o2 o3 o4 o5 o6 : Bool) (mx : Int) (h : 0 ≤ mx ∧ mx ≤ 30) : opts (RS.begin l false 0) (optL o0 o1 o2 o3 o4 o5 o6 mx) = RS.begin l o1 (mxOf mx) := by
  have s0 : isMx 0 = false := small_fin ⟨0, by decide⟩
  have s2 : isMx 2 = false := small_fin ⟨2, by decide⟩
  have s3 : isMx 3 = false := small_fin ⟨3, by decide⟩
  have s4 : isMx 4 = false := small_fin ⟨4, by decide⟩
  have s5 : isMx 5 = false := small_fin ⟨5, by decide⟩
  have s6 : isMx 6 = false := small_fin ⟨6, by decide⟩
  unfold optL
  rw [opts_app, opts_dull _ o0 0 (by decide) s0, opts_app]
  have h1 : opts (RS.begin l false 0) (one o1 1) = RS.begin l o1 0 := by cases o1 <;> rfl
  rw [h1, opts_app, opts_dull _ o2 2 (by decide) s2, opts_app, opts_dull _ o3 3 (by decide) s3, opts_app, opts_dull _ o4 4 (by decide) s4, opts_app, opts_dull _ o5 5 (by decide) s5, opts_app, opts_dull _ o6 6 (by decide) s6]
  by_cases h0 : mx = 0
  · rw [if_pos h0, h0]; rfl
  · rw [if_neg h0]
    obtain ⟨k1, k2, k3⟩ := mx_facts (p := mx) (by omega) h.2
    show optStep _ _ = _
    unfold optStep
    rw [if_neg (by omega), if_pos k1, k3]; rfl
theorem mem_one {b : Bool} {c x : Int} (h : x ∈ one b c) : x = c := by
  unfold one at h
  split at h
  · simpa using h
  · cases h
theorem optL_mem {o0 o1 o2 o3 o4 o5 o6 : Bool} {mx x : Int} (h : x ∈ optL o0 o1 o2 o3 o4 o5 o6 mx) : (0 ≤ x ∧ x < 7 ∧ (x = 6 → o6 = true)) ∨ (x = mx * 65536 ∧ mx ≠ 0) := by
  unfold optL at h
  simp only [List.mem_append] at h
  rcases h with h | h | h | h | h | h | h | h
  all_goals first
    | (have := mem_one h; subst this; refine .inl ⟨by decide, by decide, ?_⟩; intro e; first | (exact absurd e (by decide)) | (unfold one at h; cases o6 with | true => rfl | false => cases h))
    | (split at h
       · cases h
       · rename_i h0; exact .inr ⟨by simpa using h, h0⟩)
theorem optL_six (o0 o1 o2 o3 o4 o5 o6 : Bool) (mx : Int) (h : 0 ≤ mx ∧ mx ≤ 30) : o6 = decide ((6 : Int) ∈ optL o0 o1 o2 o3 o4 o5 o6 mx) := by
  cases o6 with
  | true => exact (decide_eq_true (by unfold optL one; simp)).symm
  | false =>
    refine (decide_eq_false ?_).symm
    intro hm
    rcases optL_mem hm with ⟨_, _, h6⟩ | ⟨h6, h0⟩
    · exact absurd (h6 rfl) (by decide)
    · omega
theorem optL_ok (o0 o1 o2 o3 o4 o5 o6 : Bool) (mx : Int) (h : 0 ≤ mx ∧ mx ≤ 30) : ∀ x ∈ optL o0 o1 o2 o3 o4 o5 o6 mx, x ≠ 1 → isMx x = true → 0 ≤ bits .and .i64 x 2031616 / 65536 ∧ bits .and .i64 x 2031616 / 65536 ≤ 64 := by
  intro x hx _ hm
  rcases optL_mem hx with ⟨h1, h2, _⟩ | ⟨rfl, h0⟩
  · obtain ⟨k, rfl⟩ : ∃ k : Nat, x = (k : Int) := ⟨x.toNat, by omega⟩
    rw [small_fin ⟨k, by omega⟩] at hm; cases hm
  · obtain ⟨_, k2, _⟩ := mx_facts (p := mx) (by omega) h.2
    rw [k2]; omega

/-! ### what is no name of its kind -/
theorem not_end {n : Nat} {v : Value} {W : World} (h0 : W.heap[n]? = some (.cells #[.string ⟨#[]⟩] 9 (0, 0))) (h1 : W.heap[n + 1]? = some (.cells #[.nilIface] 44 (0, 0))) :
    (W.setCell ⟨n, 0, none⟩ (.string ⟨#[]⟩)).cell? ⟨n, 0, none⟩ = some (.string ⟨#[]⟩) ∧
    ((W.setCell ⟨n, 0, none⟩ (.string ⟨#[]⟩)).setCell ⟨n + 1, 0, none⟩ v).cell? ⟨n + 1, 0, none⟩ = some v ∧
    Below n W ((W.setCell ⟨n, 0, none⟩ (.string ⟨#[]⟩)).setCell ⟨n + 1, 0, none⟩ v).drew := by
  have q3 : ¬ n + 1 = n := by omega
  have q4 : ¬ n = n + 1 := by omega
  refine ⟨?_, ?_, (((Below.refl n W).setCell (p := ⟨n, 0, none⟩) (Nat.le_refl _) _).setCell (p := ⟨n + 1, 0, none⟩) (by simp) _).drew⟩
  · simp [World.cell?, World.setCell, Array.getElem?_modify, h0, q3, q4]
  · simp [World.cell?, World.setCell, Array.getElem?_modify, h1, q3, q4]
set_option maxHeartbeats 1000000 in
set_option maxRecDepth 100000 in
theorem rustToString_not (l : List UInt8) (v : Value) (a : Addr) (w : World) (h : isR l = false) (hc : w.cell? ⟨0, 0, none⟩ = some (.iface 123 (.pointer (some a)))) :
    Calls Tryz.prog 21 #[.string (bs l), v] w fun e w' => e = .returned (.tuple #[.string ⟨#[]⟩, .iface 123 (.pointer (some a))]) ∧ Below w.heap.size w w' := by
  have HPR := Lib.hid (fun w => prefix_calls l w)
  rw [h] at HPR
  have hg := World.block_lt_of_cell? w _ hc
  have hX : ∀ k o1 o2, k < w.heap.size → ((w.alloc o1).alloc o2).heap[k]? = w.heap[k]? := fun k o1 o2 hk => by
    rw [Lib.alloc_old _ _ _ (by simp only [World.size_alloc]; omega), Lib.alloc_old _ _ _ hk]
  have c0 := fun o1 o2 => (World.cell?_of_block (w := w) (w' := (w.alloc o1).alloc o2) (a := ⟨0, 0, none⟩) (hX 0 o1 o2 hg)).trans hc
  have e0 : ((w.alloc (.cells #[.string ⟨#[]⟩] 9)).alloc (.cells #[.nilIface] 44)).heap[w.heap.size]? = some (.cells #[.string ⟨#[]⟩] 9 (0, 0)) := by
    rw [Lib.alloc_old _ _ _ (by simp only [World.size_alloc]; omega)]; exact heap_alloc_new w _
  have e1 : ((w.alloc (.cells #[.string ⟨#[]⟩] 9)).alloc (.cells #[.nilIface] 44)).heap[w.heap.size + 1]? = some (.cells #[.nilIface] 44 (0, 0)) := by
    have := heap_alloc_new (w.alloc (.cells #[.string ⟨#[]⟩] 9)) (.cells #[.nilIface] 44)
    simp only [World.size_alloc] at this
    exact this
  have c0 := c0 (.cells #[.string ⟨#[]⟩] 9) (.cells #[.nilIface] 44)
  have HB := Lib.hid (((Below.refl _ w).alloc (Nat.le_refl _) (.cells #[.string ⟨#[]⟩] 9)).alloc (by simp) (.cells #[.nilIface] 44))
  generalize hW : (w.alloc (.cells #[.string ⟨#[]⟩] 9)).alloc (.cells #[.nilIface] 44) = W at *
  have HE := Lib.hid (And.intro e0 e1)
  have hne : w.heap.size ≠ 0 := by omega
  have hne' : 0 ≠ w.heap.size := by omega
  have d0 : W.cell? ⟨w.heap.size, 0, none⟩ = some (.string ⟨#[]⟩) := by rw [Lib.cell_of_heap e0]; rfl
  have d1 : W.cell? ⟨w.heap.size + 1, 0, none⟩ = some .nilIface := by rw [Lib.cell_of_heap e1]; rfl
  have z0 := Lib.frozen_of_heap e0 0
  have z1 := Lib.frozen_of_heap e1 0
  have cx : (W.setCell ⟨w.heap.size, 0, none⟩ (.string ⟨#[]⟩)).cell? ⟨0, 0, none⟩ = some (.iface 123 (.pointer (some a))) :=
    (World.cell?_of_block (w := W) (Below.heap_setCell _ _ _ _ (by show 0 ≠ w.heap.size; omega))).trans c0
  have dx : (W.setCell ⟨w.heap.size, 0, none⟩ (.string ⟨#[]⟩)).cell? ⟨w.heap.size + 1, 0, none⟩ = some .nilIface :=
    (World.cell?_of_block (w := W) (Below.heap_setCell _ _ _ _ (by show w.heap.size + 1 ≠ w.heap.size; omega))).trans d1
  have HWW := Lib.hid hW
  clear h hX hc e0 e1 hW hg
  go_enter_defers Tryz.func21, Tryz.ntmps21
  go_wp2_with (go_at_call 31; refine (HPR.out _).mono ?_; rintro e w1 ⟨rfl, rfl⟩)
  rw [HWW.out]
  go_region
  all_goals go_wp2
  all_goals
    obtain ⟨k0, k1, hb⟩ := not_end (v := .iface 123 (.pointer (some a))) HE.out.1 HE.out.2
    have HP := Lib.hid (HB.out.trans hb)
    clear d0 d1 z0 z1 cx dx c0 HB
    simp [bodyPostD, Leaves, settle, results, Tryz.results21, go_sem, k0, k1]
    exact HP.out
end Go.Proofs.YtkhbmkccbhkolaaGreatDoor
namespace Go.Proofs.YtkhbmkccbhkolaaGreatDoor
set_option linter.unusedVariables false
set_option linter.unusedSimpArgs false
open Go.RowKit Go.Proofs.YtkhbmkccbhkolaaGreatDoorW.PrintWords Go.Proofs.YtkhbmkccbhkolaaGreatDoorW.PrintLast Go.Proofs.YtkhbmkccbhkolaaGreatDoorW.PrintMore

/-- What the walks ask of the variables. -/
def DoorIs (w : World) : Prop := StrIs w ∧ NotIs w
instance : Stays DoorIs := ⟨fun h hb => ⟨Stays.below h.1 hb, Stays.below h.2 hb⟩⟩
instance : HasStr DoorIs := ⟨fun h => h.1⟩

/-- What a reading is told as. -/
def ansOf : PR → Option (ByteArray × Int)
  | .ok s => some (bs (cutMx s.mx s.out), 0)
  | .bad => some (⟨#[]⟩, 2)
  | .unsaid => none
def toldAns (l : List UInt8) (ng lv : Bool) (mx : Int) : Option (ByteArray × Int) :=
  match l with
  | 95 :: 82 :: r => ansOf (toldM r ng lv mx)
  | _ => some (⟨#[]⟩, 1)
def impl_Told.f (a0 : ByteArray) (o0 o1 o2 o3 o4 o5 o6 : Bool) (o7 : Int) : Option (ByteArray × Int) :=
  if a0.size ≤ 4611686018427387904 ∧ 0 ≤ o7 ∧ o7 ≤ 30 then toldAns a0.data.toList o1 o6 (mxOf o7) else none

theorem isR_iff (l : List UInt8) : (isR l = false ∧ ∀ ng lv mx, toldAns l ng lv mx = some (⟨#[]⟩, 1)) ∨ ∃ r, l = 95 :: 82 :: r := by
  match l with
  | [] => exact .inl ⟨rfl, fun _ _ _ => rfl⟩
  | [a] => exact .inl ⟨rfl, fun _ _ _ => by unfold toldAns; split <;> simp_all⟩
  | a :: b :: t =>
    by_cases h : a = 95 ∧ b = 82
    · obtain ⟨rfl, rfl⟩ := h; exact .inr ⟨t, rfl⟩
    · refine .inl ⟨by simp only [isR]; exact decide_eq_false h, fun _ _ _ => ?_⟩
      unfold toldAns
      split
      · rename_i r e; injection e with e1 e2; injection e2 with e2 _; exact absurd ⟨e1, e2⟩ h
      · rfl

/-- RustToString hands it on. -/
theorem rts_calls (l : ByteArray) (v : Value) (w : World) (Post : Ending → World → Prop) (hp : ∀ e w', Post e w' → ∃ s x, e = .returned (.tuple #[s, x]))
    (h : Calls Tryz.prog 21 #[.string l, v] w Post) : Calls Tryz.prog 15 #[.string l, v] w Post := by
  have HP := Lib.hid h
  have HPP := Lib.hid hp
  clear h hp
  go_enter Tryz.func15, Tryz.ntmps15
  go_wp2_with fail
  refine HP.out.mono ?_
  intro e w' hq
  obtain ⟨s, x, rfl⟩ := HPP.out e w' hq
  have HQ := Lib.hid hq
  clear hq
  go_wp2_with fail
  exact HQ.out

theorem neq_nil (t : TypeId) (v : Value) (w : World) : (binOp .neq 44 (.iface t v) .nilIface).run Tryz.prog w = .ok (.bool true) w := by
  have h : ∀ d : Nat, (Op.equalIn (d + 1) 44 (.iface t v) .nilIface).run Tryz.prog w = .ok false w := fun d => by
    simp [Op.equalIn, run_underlying Tryz.underlying44]
  simp only [binOp]
  simp [Op.equal, Op.maxDepth, h 9999]
theorem neq_nils (w : World) : (binOp .neq 44 .nilIface .nilIface).run Tryz.prog w = .ok (.bool false) w := by
  have h : ∀ d : Nat, (Op.equalIn (d + 1) 44 .nilIface .nilIface).run Tryz.prog w = .ok true w := fun d => by
    simp [Op.equalIn, run_underlying Tryz.underlying44]
  simp only [binOp]
  simp [Op.equal, Op.maxDepth, h 9999]

/-- What RustToString comes to, whatever it is. -/
theorem rts_told (r : List UInt8) (o0 o1 o2 o3 o4 o5 o6 : Bool) (o7 : Int) (h : 0 ≤ o7 ∧ o7 ≤ 30) (hl : (95 :: 82 :: r).length ≤ 4611686018427387904) (A : Option Addr) (c : Nat) (w : World) (hT : StrIs w)
    (hC : (Kd.int .i64).C w A (optL o0 o1 o2 o3 o4 o5 o6 o7).length (optL o0 o1 o2 o3 o4 o5 o6 o7)) (X : PR) (hX : X = toldM r o1 o6 (mxOf o7)) (hU : X ≠ .unsaid) :
    Calls Tryz.prog 15 #[.string (bs (95 :: 82 :: r)), .slice A (optL o0 o1 o2 o3 o4 o5 o6 o7).length c] w fun e w' => ToldPost X w e w' := by
  have hc := rustToString_calls r (optL o0 o1 o2 o3 o4 o5 o6 o7) A c w hl hC (optL_ok o0 o1 o2 o3 o4 o5 o6 o7 h) hT o6 (optL_six o0 o1 o2 o3 o4 o5 o6 o7 h) ((noDot r).length + 1) X (by rw [hX, opts_L _ _ _ _ _ _ _ _ _ h]; rfl) hU
  refine rts_calls _ _ w _ ?_ hc
  intro e w' hp
  cases X with
  | unsaid => exact absurd rfl hU
  | ok s => exact ⟨_, _, hp.1⟩
  | bad => obtain ⟨⟨v, h⟩, _⟩ := hp; exact ⟨_, _, h⟩

set_option maxHeartbeats 1000000 in
set_option maxRecDepth 100000 in
theorem told_calls (l : List UInt8) (o0 o1 o2 o3 o4 o5 o6 : Bool) (o7 : Int) (h : 0 ≤ o7 ∧ o7 ≤ 30) (hl : l.length ≤ 4611686018427387904) (w : World) (hT : DoorIs w) (t : ByteArray) (n : Int) (hA : toldAns l o1 o6 (mxOf o7) = some (t, n)) :
    Calls Tryz.prog 11 #[.string (bs l), .agg #[.bool o0, .bool o1, .bool o2, .bool o3, .bool o4, .bool o5, .bool o6, .int .i64 o7]] w fun e w' => e = .returned (.tuple #[.string t, .int .i64 n]) ∧ Below w.heap.size w w' := by
  have hu := Tryz.underlying39
  have HL := Lib.hid (list_calls o0 o1 o2 o3 o4 o5 o6 o7 h)
  have HB1 := Lib.hid ((Below.refl _ w).alloc (Nat.le_refl _) (.cells #[.bool o0, .bool o1, .bool o2, .bool o3, .bool o4, .bool o5, .bool o6, .int .i64 o7] 39))
  have HT := Lib.hid hT
  have HA := Lib.hid hA
  have HH := Lib.hid (And.intro h hl)
  clear hT hA h hl
  go_enter Tryz.func11, Tryz.ntmps11
  go_wp2_with fail
  refine (HL.out _).mono ?_
  rintro e w2 ⟨A, c, rfl, hC, hb2⟩
  have HB2 := Lib.hid (HB1.out.trans (hb2.mono (by simp)))
  have HC := Lib.hid hC
  clear hC hb2 hu
  go_wp2_with fail
  obtain ⟨sT, sN⟩ := (Stays.below HT.out HB2.out : DoorIs w2)
  rcases isR_iff l with ⟨hR, hans⟩ | ⟨r, rfl⟩
  · obtain ⟨a, ha⟩ := sN
    have HR := Lib.hid (rts_calls (bs l) (.slice A (optL o0 o1 o2 o3 o4 o5 o6 o7).length c) w2 _ (fun e w' hp => ⟨_, _, hp.1⟩) (rustToString_not l (.slice A (optL o0 o1 o2 o3 o4 o5 o6 o7).length c) a w2 hR ha))
    have HX : Hid (t = ⟨#[]⟩ ∧ n = 1) := Lib.hid (by have := HA.out; rw [hans] at this; simp only [Option.some.injEq, Prod.mk.injEq] at this; exact ⟨this.1.symm, this.2.symm⟩)
    have HAA := Lib.hid ha
    have h1 := neq_nil 123 (.pointer (some a))
    clear ha hans hR
    refine HR.out.mono ?_
    rintro e w3 ⟨rfl, hb3⟩
    have HF := Lib.hid (fault_not a w3 ((World.cell?_of_block (w := w2) (hb3.block _ (World.block_lt_of_cell? w2 _ HAA.out))).trans HAA.out))
    have HB3 := Lib.hid (HB2.out.trans (hb3.mono HB2.out.size))
    clear hb3
    go_wp2_with (go_at_call 17; refine HF.out.mono ?_; rintro e w4 ⟨rfl, rfl⟩)
    obtain ⟨rfl, rfl⟩ := HX.out
    refine bodyPost_ret (v := .tuple #[.string ⟨#[]⟩, .int .i64 1]) ?_ rfl ⟨rfl, HB3.out⟩
    simp [results, Tryz.results11, go_sem]
  · have hA := HA.out
    simp only [toldAns] at hA
    generalize hX : toldM r o1 o6 (mxOf o7) = X at hA
    have hU : X ≠ .unsaid := by rintro rfl; cases hA
    have HR := Lib.hid (rts_told r o0 o1 o2 o3 o4 o5 o6 o7 HH.out.1 HH.out.2 A c w2 sT HC.out X hX.symm hU)
    have HXX := Lib.hid hA
    clear hA hX HA
    cases X with
    | unsaid => exact absurd rfl hU
    | bad =>
      have HX : Hid (t = ⟨#[]⟩ ∧ n = 2) := Lib.hid (by have := HXX.out; simp only [ansOf, Option.some.injEq, Prod.mk.injEq] at this; exact ⟨this.1.symm, this.2.symm⟩)
      have HNN := Lib.hid sN
      clear hU HXX sT sN
      refine HR.out.mono ?_
      rintro e w3 ⟨⟨v, rfl⟩, hb3⟩
      have h1 := neq_nil 64 v
      have HF := Lib.hid (fault_other v w3 (Stays.below HNN.out hb3))
      have HB3 := Lib.hid (HB2.out.trans (hb3.mono HB2.out.size))
      clear hb3
      go_wp2_with (go_at_call 17; refine HF.out.mono ?_; rintro e w4 ⟨rfl, rfl⟩)
      obtain ⟨rfl, rfl⟩ := HX.out
      refine bodyPost_ret (v := .tuple #[.string ⟨#[]⟩, .int .i64 2]) ?_ rfl ⟨rfl, HB3.out⟩
      simp [results, Tryz.results11, go_sem]
    | ok s =>
      have HX : Hid (t = bs (cutMx s.mx s.out) ∧ n = 0) := Lib.hid (by have := HXX.out; simp only [ansOf, Option.some.injEq, Prod.mk.injEq] at this; exact ⟨this.1.symm, this.2.symm⟩)
      clear hU HXX sT sN
      have h1 := neq_nils
      refine HR.out.mono ?_
      rintro e w3 ⟨rfl, hb3⟩
      have HB3 := Lib.hid (HB2.out.trans (hb3.mono HB2.out.size))
      clear hb3
      go_wp2_with fail
      obtain ⟨rfl, rfl⟩ := HX.out
      refine bodyPost_ret (v := .tuple #[.string (bs (cutMx s.mx s.out)), .int .i64 0]) ?_ rfl ⟨rfl, HB3.out⟩
      simp [results, Tryz.results11, go_sem]

theorem impl_Told.calls (a0 : ByteArray) (o0 o1 o2 o3 o4 o5 o6 : Bool) (o7 : Int) (r1 : ByteArray) (r2 : Int) (w : World) (hT_ : DoorIs w) (h : impl_Told.f a0 o0 o1 o2 o3 o4 o5 o6 o7 = some (r1, r2)) :
    Calls Tryz.prog 11 #[.string a0, .agg #[.bool o0, .bool o1, .bool o2, .bool o3, .bool o4, .bool o5, .bool o6, .int .i64 o7]] w fun e w' => e = .returned (.tuple #[.string r1, .int .i64 r2]) ∧ Below w.heap.size w w' := by
  unfold impl_Told.f at h
  by_cases hs : a0.size ≤ 4611686018427387904 ∧ 0 ≤ o7 ∧ o7 ≤ 30
  · rw [if_pos hs] at h
    have hc := told_calls a0.data.toList o0 o1 o2 o3 o4 o5 o6 o7 hs.2 (by rw [Array.length_toList]; exact hs.1) w hT_ r1 r2 h
    have e : bs a0.data.toList = a0 := by apply ByteArray.ext; show a0.data.toList.toArray = a0.data; simp
    rw [e] at hc
    exact hc
  · rw [if_neg hs] at h; cases h
end Go.Proofs.YtkhbmkccbhkolaaGreatDoor
