/- MaxLength, in the form of a printed function. The list of options that the thin package makes. Printed by tools/gold8.py. -/
import Derived.Test.YtkhbmkccbhkolaaGreatDoorProg
import Derived.RowKit
import Derived.WalkKit
import Derived.WalkSpells
import Derived.Below
import Derived.Test.YtkhbmkccbhkolaaGreatDoorM4
import Derived.Test.YtkhbmkccbhkolaaGreatDoorM3
import Derived.Test.YtkhbmkccbhkolaaGreatDoorM1
import Derived.Test.YtkhbmkccbhkolaaGreatDoorM6
namespace Go.Proofs.YtkhbmkccbhkolaaGreatDoor
set_option linter.unusedVariables false
set_option linter.unusedSimpArgs false
open Go.RowKit

def demangle_MaxLength.f (a0 : Int) : Option Int := if 1 ≤ a0 ∧ a0 ≤ 30 then some (a0 * 65536) else none
theorem demangle_MaxLength.calls (a0 : Int) (r : Int) (w : World) (h : demangle_MaxLength.f a0 = some r) :
    Calls Tryz.prog 22 #[.int .i64 a0] w fun e w' => e = .returned (.int .i64 r) ∧ w = w' := by
  unfold demangle_MaxLength.f at h
  by_cases hs : 1 ≤ a0 ∧ a0 ≤ 30
  · rw [if_pos hs] at h
    injection h with h
    subst h
    obtain ⟨h1, h2⟩ := hs
    have h3 : ¬ a0 ≤ 0 := by omega
    have h4 : ¬ 30 < a0 := by omega
    have h5 : IntKind.i64.wrap (a0 * 65536) = a0 * 65536 := IntWalk.i64_in _ (by omega)
    go_enter Tryz.func22, Tryz.ntmps22
    go_wp2
    go_ret
    exact ⟨rfl, rfl⟩
  · rw [if_neg hs] at h; cases h
end Go.Proofs.YtkhbmkccbhkolaaGreatDoor
namespace Go.Proofs.YtkhbmkccbhkolaaGreatDoor
set_option linter.unusedVariables false
set_option linter.unusedSimpArgs false
open Go.RowKit Go.Proofs.YtkhbmkccbhkolaaGreatDoorW.PrintWords Go.Proofs.YtkhbmkccbhkolaaGreatDoorW.PrintLast Go.Proofs.YtkhbmkccbhkolaaGreatDoorW.PrintMore
def one (b : Bool) (c : Int) : List Int := if b then [c] else []
def optL (o0 o1 o2 o3 o4 o5 o6 : Bool) (mx : Int) : List Int :=
  one o0 0 ++ (one o1 1 ++ (one o2 2 ++ (one o3 3 ++ (one o4 4 ++ (one o5 5 ++ (one o6 6 ++ (if mx = 0 then [] else [mx * 65536])))))))
theorem one_len (b : Bool) (c : Int) : (one b c).length ≤ 1 := by unfold one; split <;> simp
theorem opt_info : (Tryz.prog.info? 51).map (fun i => (i.zero, i.size, i.bytes)) = some (some (.int .i64 0), 1, 8) := by kernel_rfl
/-- The list as it is made: its own row above the block of the options. -/
def OL (O : Array Value) (w0 : World) (xs : List Int) (v : Value) (w : World) : Prop :=
  w.ownsRow (w0.heap.size + 1) 51 1 v xs.length (xs.map (Value.int .i64)) ∧ Below w0.heap.size w0 w ∧ w.heap[w0.heap.size]? = some (.cells O 39 (0, 0)) ∧ xs.length ≤ 100 ∧ w0.heap.size + 1 ≤ w.heap.size
theorem OL.next {O : Array Value} {w0 w w2 : World} {xs : List Int} {v v' : Value} {x : Int} {o : Obj} (h : OL O w0 xs v w) (hown : w2.ownsRow (w0.heap.size + 1) 51 1 v' (xs.length + 1) (xs.map (Value.int .i64) ++ [.int .i64 x])) (hg : (w.alloc o).grownBy w2 v.ownBlock) (hl : xs.length + 1 ≤ 100) :
    OL O w0 (xs ++ [x]) v' w2 := by
  obtain ⟨h1, h2, h3, h4, h5⟩ := h
  have hlt : w0.heap.size < w.heap.size := by omega
  refine ⟨by simpa using hown, (h2.alloc h2.size o).grown hg (by rw [World.size_alloc]; omega) (fun k hk => Nat.le_of_lt (h1.lt k hk).1), ?_, by simpa using hl, ?_⟩
  · rw [hg.block w0.heap.size (by rw [World.size_alloc]; omega) (fun e => by have := (h1.lt _ e.symm).1; omega), Lib.alloc_old w o _ hlt]
    exact h3
  · have := hg.size; rw [World.size_alloc] at this; omega
theorem OL.same {O : Array Value} {w0 w : World} {xs : List Int} {v : Value} {b : Bool} {c : Int} (h : OL O w0 xs v w) (hb : b = false) : OL O w0 (xs ++ one b c) v w := by subst hb; simpa [one] using h
theorem OL.cell {O : Array Value} {w0 w : World} {xs : List Int} {v : Value} (h : OL O w0 xs v w) (k : Nat) : w.cell? ⟨w0.heap.size, k, none⟩ = O[k]? := Lib.cell_of_heap h.2.2.1 k
theorem OL.form {O : Array Value} {w0 w : World} {xs : List Int} {v : Value} (h : OL O w0 xs v w) : ∃ a n c, v = .slice a n c := by
  rcases h.1.2 with ⟨hv, _⟩ | ⟨g, cap, cur, hv, _⟩
  · exact ⟨_, _, _, hv⟩
  · exact ⟨_, _, _, hv⟩
theorem ol_end {O : Array Value} {w0 w : World} {xs : List Int} {v : Value} (h : OL O w0 xs v w) : ∃ A c, v = .slice A xs.length c ∧ (Kd.int .i64).C w A xs.length xs ∧ Below w0.heap.size w0 w := by
  obtain ⟨h1, h2, _, h4, _⟩ := h
  rcases h1.2 with ⟨hv, hn⟩ | ⟨g, cap, cur, hv, _⟩
  · refine ⟨none, 0, by rw [hv, hn], Kd.C_of_reads (enc := Value.int .i64) (d := 0) (h1 := fun _ => rfl) ⟨rfl, by omega, fun hp => by omega⟩, h2⟩
  · refine ⟨some ⟨g, 0, none⟩, cap, hv, Kd.C_of_reads (enc := Value.int .i64) (d := 0) (h1 := fun _ => rfl) ⟨rfl, by omega, fun hp => ⟨_, rfl, fun j hj => ?_⟩⟩, h2⟩
    rw [hv] at h1
    have := h1.cellAt j (by omega)
    rw [show ((⟨g, 0, none⟩ : Addr).add j) = ⟨g, j, none⟩ by simp [Addr.add]; omega, this, List.getElem?_map, List.getD_eq_getElem?_getD, List.getElem?_eq_getElem hj]
    rfl
set_option maxHeartbeats 4000000 in
set_option maxRecDepth 100000 in
theorem list_calls (o0 o1 o2 o3 o4 o5 o6 : Bool) (o7 : Int) (h : 0 ≤ o7 ∧ o7 ≤ 30) (w : World) :
    Calls Tryz.prog 16 #[.agg #[.bool o0, .bool o1, .bool o2, .bool o3, .bool o4, .bool o5, .bool o6, .int .i64 o7]] w fun e w' =>
      ∃ A c, e = .returned (.slice A (optL o0 o1 o2 o3 o4 o5 o6 o7).length c) ∧ (Kd.int .i64).C w' A (optL o0 o1 o2 o3 o4 o5 o6 o7).length (optL o0 o1 o2 o3 o4 o5 o6 o7) ∧ Below w.heap.size w w' := by
  have hu := Tryz.underlying39
  obtain ⟨i0, hi, hz0, hz1, hz2⟩ := info_parts opt_info
  have HO := Lib.hid (show OL #[.bool o0, .bool o1, .bool o2, .bool o3, .bool o4, .bool o5, .bool o6, .int .i64 o7] w [] (.slice none 0 0) (w.alloc (.cells #[.bool o0, .bool o1, .bool o2, .bool o3, .bool o4, .bool o5, .bool o6, .int .i64 o7] 39)) from ⟨World.ownsRow_nil _ _ _ _, (Below.refl _ w).alloc (Nat.le_refl _) _, heap_alloc_new w _, by simp, by simp⟩)
  go_enter Tryz.func16, Tryz.ntmps16
  go_upto_region 2 with (fail)
  generalize w.alloc (.cells #[.bool o0, .bool o1, .bool o2, .bool o3, .bool o4, .bool o5, .bool o6, .int .i64 o7] 39) = wc at HO ⊢

  obtain ⟨b0, hb0⟩ : ∃ b, o0 = b := ⟨_, rfl⟩
  have ho := HO.out
  obtain ⟨X0, hX0⟩ : ∃ x : List Int, (([] : List Int)) = x := ⟨_, rfl⟩
  rw [hX0] at ho
  have hc0 : _ = some (Value.bool b0) := (ho.cell 0).trans (by rw [← hb0]; rfl)
  go_upto_if 5 with (fail)
  go_cut [3] from 6 to 8 (fun v3 wc => Hid (OL #[.bool o0, .bool o1, .bool o2, .bool o3, .bool o4, .bool o5, .bool o6, .int .i64 o7] w (([] : List Int) ++ one o0 0) v3 wc))
  case first =>
    have HE : Hid (X0 ++ one b0 0 = (([] : List Int) ++ one o0 0)) := Lib.hid (by rw [← hX0, hb0])
    cases b0 with
    | true =>
      have hlm : X0.length + 1 ≤ 100 := by rw [← hX0]; have := one_len o0 0; have := one_len o1 1; have := one_len o2 2; have := one_len o3 3; have := one_len o4 4; have := one_len o5 5; simp only [List.length_append, List.length_nil]; omega
      have hsz := ho.2.2.2.2
      clear hb0 hX0
      go_wp2_with (at_builtin; refine wpList_append_own _ rfl _ _ 47 rfl (w.heap.size + 1) 51 i0 (.int .i64 0) 1 8 Tryz.underlying47 hi hz0 hz1 hz2 rfl (by decide) _ _ _ rfl (ho.1.alloc _) ⟨wc.heap.size, 0, none⟩ 1 1 [.int .i64 0] rfl rfl ?c1 ?c2 ?c3 ?c4 ?c5 ?_)
      case c1 =>
        intro j u hj
        match j, hj with
        | 0, hj => simp at hj; subst hj; simp [Addr.add]
      case c2 => intro u hu; simp at hu; subst hu; rfl
      case c3 => unfold maxLen; omega
      case c4 => omega
      case c5 => rw [World.size_alloc]; omega
      intro v2 w2 hown hg _
      have HS : Hid (OL #[.bool o0, .bool o1, .bool o2, .bool o3, .bool o4, .bool o5, .bool o6, .int .i64 o7] w (([] : List Int) ++ one o0 0) v2 w2) := Lib.hid (by rw [← HE.out]; exact ho.next hown hg hlm)
      obtain ⟨a9, n9, c9, rfl⟩ := HS.out.form
      clear ho hown hg
      go_wp2_with fail
      go_meet
      case rel => exact HS
    | false =>
      have HS : Hid (OL #[.bool o0, .bool o1, .bool o2, .bool o3, .bool o4, .bool o5, .bool o6, .int .i64 o7] w (([] : List Int) ++ one o0 0) _ wc) := Lib.hid (by rw [← HE.out]; exact ho.same rfl)
      clear ho hb0 hX0
      go_wp2_with fail
      go_meet
      case rel => exact HS
  case rest =>
  clear ho hb0 hc0 hX0 HO
  have HO1 := hcut
  clear hcut
  obtain ⟨a0, n0, c0, rfl⟩ := HO1.out.form
  obtain ⟨b1, hb1⟩ : ∃ b, o1 = b := ⟨_, rfl⟩
  have ho := HO1.out
  obtain ⟨X1, hX1⟩ : ∃ x : List Int, (([] : List Int) ++ one o0 0) = x := ⟨_, rfl⟩
  rw [hX1] at ho
  have hc1 : _ = some (Value.bool b1) := (ho.cell 1).trans (by rw [← hb1]; rfl)
  go_upto_if 10 with (fail)
  go_cut [3] from 11 to 13 (fun v3 wc => Hid (OL #[.bool o0, .bool o1, .bool o2, .bool o3, .bool o4, .bool o5, .bool o6, .int .i64 o7] w (([] : List Int) ++ one o0 0 ++ one o1 1) v3 wc))
  case first =>
    have HE : Hid (X1 ++ one b1 1 = (([] : List Int) ++ one o0 0 ++ one o1 1)) := Lib.hid (by rw [← hX1, hb1])
    cases b1 with
    | true =>
      have hlm : X1.length + 1 ≤ 100 := by rw [← hX1]; have := one_len o0 0; have := one_len o1 1; have := one_len o2 2; have := one_len o3 3; have := one_len o4 4; have := one_len o5 5; simp only [List.length_append, List.length_nil]; omega
      have hsz := ho.2.2.2.2
      clear hb1 hX1
      go_wp2_with (at_builtin; refine wpList_append_own _ rfl _ _ 47 rfl (w.heap.size + 1) 51 i0 (.int .i64 0) 1 8 Tryz.underlying47 hi hz0 hz1 hz2 rfl (by decide) _ _ _ rfl (ho.1.alloc _) ⟨wc.heap.size, 0, none⟩ 1 1 [.int .i64 1] rfl rfl ?c1 ?c2 ?c3 ?c4 ?c5 ?_)
      case c1 =>
        intro j u hj
        match j, hj with
        | 0, hj => simp at hj; subst hj; simp [Addr.add]
      case c2 => intro u hu; simp at hu; subst hu; rfl
      case c3 => unfold maxLen; omega
      case c4 => omega
      case c5 => rw [World.size_alloc]; omega
      intro v2 w2 hown hg _
      have HS : Hid (OL #[.bool o0, .bool o1, .bool o2, .bool o3, .bool o4, .bool o5, .bool o6, .int .i64 o7] w (([] : List Int) ++ one o0 0 ++ one o1 1) v2 w2) := Lib.hid (by rw [← HE.out]; exact ho.next hown hg hlm)
      obtain ⟨a9, n9, c9, rfl⟩ := HS.out.form
      clear ho hown hg
      go_wp2_with fail
      go_meet
      case rel => exact HS
    | false =>
      have HS : Hid (OL #[.bool o0, .bool o1, .bool o2, .bool o3, .bool o4, .bool o5, .bool o6, .int .i64 o7] w (([] : List Int) ++ one o0 0 ++ one o1 1) _ wc) := Lib.hid (by rw [← HE.out]; exact ho.same rfl)
      clear ho hb1 hX1
      go_wp2_with fail
      go_meet
      case rel => exact HS
  case rest =>
  clear ho hb1 hc1 hX1 HO1
  have HO2 := hcut
  clear hcut
  obtain ⟨a1, n1, c1, rfl⟩ := HO2.out.form
  obtain ⟨b2, hb2⟩ : ∃ b, o2 = b := ⟨_, rfl⟩
  have ho := HO2.out
  obtain ⟨X2, hX2⟩ : ∃ x : List Int, (([] : List Int) ++ one o0 0 ++ one o1 1) = x := ⟨_, rfl⟩
  rw [hX2] at ho
  have hc2 : _ = some (Value.bool b2) := (ho.cell 2).trans (by rw [← hb2]; rfl)
  go_upto_if 15 with (fail)
  go_cut [3] from 16 to 18 (fun v3 wc => Hid (OL #[.bool o0, .bool o1, .bool o2, .bool o3, .bool o4, .bool o5, .bool o6, .int .i64 o7] w (([] : List Int) ++ one o0 0 ++ one o1 1 ++ one o2 2) v3 wc))
  case first =>
    have HE : Hid (X2 ++ one b2 2 = (([] : List Int) ++ one o0 0 ++ one o1 1 ++ one o2 2)) := Lib.hid (by rw [← hX2, hb2])
    cases b2 with
    | true =>
      have hlm : X2.length + 1 ≤ 100 := by rw [← hX2]; have := one_len o0 0; have := one_len o1 1; have := one_len o2 2; have := one_len o3 3; have := one_len o4 4; have := one_len o5 5; simp only [List.length_append, List.length_nil]; omega
      have hsz := ho.2.2.2.2
      clear hb2 hX2
      go_wp2_with (at_builtin; refine wpList_append_own _ rfl _ _ 47 rfl (w.heap.size + 1) 51 i0 (.int .i64 0) 1 8 Tryz.underlying47 hi hz0 hz1 hz2 rfl (by decide) _ _ _ rfl (ho.1.alloc _) ⟨wc.heap.size, 0, none⟩ 1 1 [.int .i64 2] rfl rfl ?c1 ?c2 ?c3 ?c4 ?c5 ?_)
      case c1 =>
        intro j u hj
        match j, hj with
        | 0, hj => simp at hj; subst hj; simp [Addr.add]
      case c2 => intro u hu; simp at hu; subst hu; rfl
      case c3 => unfold maxLen; omega
      case c4 => omega
      case c5 => rw [World.size_alloc]; omega
      intro v2 w2 hown hg _
      have HS : Hid (OL #[.bool o0, .bool o1, .bool o2, .bool o3, .bool o4, .bool o5, .bool o6, .int .i64 o7] w (([] : List Int) ++ one o0 0 ++ one o1 1 ++ one o2 2) v2 w2) := Lib.hid (by rw [← HE.out]; exact ho.next hown hg hlm)
      obtain ⟨a9, n9, c9, rfl⟩ := HS.out.form
      clear ho hown hg
      go_wp2_with fail
      go_meet
      case rel => exact HS
    | false =>
      have HS : Hid (OL #[.bool o0, .bool o1, .bool o2, .bool o3, .bool o4, .bool o5, .bool o6, .int .i64 o7] w (([] : List Int) ++ one o0 0 ++ one o1 1 ++ one o2 2) _ wc) := Lib.hid (by rw [← HE.out]; exact ho.same rfl)
      clear ho hb2 hX2
      go_wp2_with fail
      go_meet
      case rel => exact HS
  case rest =>
  clear ho hb2 hc2 hX2 HO2
  have HO3 := hcut
  clear hcut
  obtain ⟨a2, n2, c2, rfl⟩ := HO3.out.form
  obtain ⟨b3, hb3⟩ : ∃ b, o3 = b := ⟨_, rfl⟩
  have ho := HO3.out
  obtain ⟨X3, hX3⟩ : ∃ x : List Int, (([] : List Int) ++ one o0 0 ++ one o1 1 ++ one o2 2) = x := ⟨_, rfl⟩
  rw [hX3] at ho
  have hc3 : _ = some (Value.bool b3) := (ho.cell 3).trans (by rw [← hb3]; rfl)
  go_upto_if 20 with (fail)
  go_cut [3] from 21 to 23 (fun v3 wc => Hid (OL #[.bool o0, .bool o1, .bool o2, .bool o3, .bool o4, .bool o5, .bool o6, .int .i64 o7] w (([] : List Int) ++ one o0 0 ++ one o1 1 ++ one o2 2 ++ one o3 3) v3 wc))
  case first =>
    have HE : Hid (X3 ++ one b3 3 = (([] : List Int) ++ one o0 0 ++ one o1 1 ++ one o2 2 ++ one o3 3)) := Lib.hid (by rw [← hX3, hb3])
    cases b3 with
    | true =>
      have hlm : X3.length + 1 ≤ 100 := by rw [← hX3]; have := one_len o0 0; have := one_len o1 1; have := one_len o2 2; have := one_len o3 3; have := one_len o4 4; have := one_len o5 5; simp only [List.length_append, List.length_nil]; omega
      have hsz := ho.2.2.2.2
      clear hb3 hX3
      go_wp2_with (at_builtin; refine wpList_append_own _ rfl _ _ 47 rfl (w.heap.size + 1) 51 i0 (.int .i64 0) 1 8 Tryz.underlying47 hi hz0 hz1 hz2 rfl (by decide) _ _ _ rfl (ho.1.alloc _) ⟨wc.heap.size, 0, none⟩ 1 1 [.int .i64 3] rfl rfl ?c1 ?c2 ?c3 ?c4 ?c5 ?_)
      case c1 =>
        intro j u hj
        match j, hj with
        | 0, hj => simp at hj; subst hj; simp [Addr.add]
      case c2 => intro u hu; simp at hu; subst hu; rfl
      case c3 => unfold maxLen; omega
      case c4 => omega
      case c5 => rw [World.size_alloc]; omega
      intro v2 w2 hown hg _
      have HS : Hid (OL #[.bool o0, .bool o1, .bool o2, .bool o3, .bool o4, .bool o5, .bool o6, .int .i64 o7] w (([] : List Int) ++ one o0 0 ++ one o1 1 ++ one o2 2 ++ one o3 3) v2 w2) := Lib.hid (by rw [← HE.out]; exact ho.next hown hg hlm)
      obtain ⟨a9, n9, c9, rfl⟩ := HS.out.form
      clear ho hown hg
      go_wp2_with fail
      go_meet
      case rel => exact HS
    | false =>
      have HS : Hid (OL #[.bool o0, .bool o1, .bool o2, .bool o3, .bool o4, .bool o5, .bool o6, .int .i64 o7] w (([] : List Int) ++ one o0 0 ++ one o1 1 ++ one o2 2 ++ one o3 3) _ wc) := Lib.hid (by rw [← HE.out]; exact ho.same rfl)
      clear ho hb3 hX3
      go_wp2_with fail
      go_meet
      case rel => exact HS
  case rest =>
  clear ho hb3 hc3 hX3 HO3
  have HO4 := hcut
  clear hcut
  obtain ⟨a3, n3, c3, rfl⟩ := HO4.out.form
  obtain ⟨b4, hb4⟩ : ∃ b, o4 = b := ⟨_, rfl⟩
  have ho := HO4.out
  obtain ⟨X4, hX4⟩ : ∃ x : List Int, (([] : List Int) ++ one o0 0 ++ one o1 1 ++ one o2 2 ++ one o3 3) = x := ⟨_, rfl⟩
  rw [hX4] at ho
  have hc4 : _ = some (Value.bool b4) := (ho.cell 4).trans (by rw [← hb4]; rfl)
  go_upto_if 25 with (fail)
  go_cut [3] from 26 to 28 (fun v3 wc => Hid (OL #[.bool o0, .bool o1, .bool o2, .bool o3, .bool o4, .bool o5, .bool o6, .int .i64 o7] w (([] : List Int) ++ one o0 0 ++ one o1 1 ++ one o2 2 ++ one o3 3 ++ one o4 4) v3 wc))
  case first =>
    have HE : Hid (X4 ++ one b4 4 = (([] : List Int) ++ one o0 0 ++ one o1 1 ++ one o2 2 ++ one o3 3 ++ one o4 4)) := Lib.hid (by rw [← hX4, hb4])
    cases b4 with
    | true =>
      have hlm : X4.length + 1 ≤ 100 := by rw [← hX4]; have := one_len o0 0; have := one_len o1 1; have := one_len o2 2; have := one_len o3 3; have := one_len o4 4; have := one_len o5 5; simp only [List.length_append, List.length_nil]; omega
      have hsz := ho.2.2.2.2
      clear hb4 hX4
      go_wp2_with (at_builtin; refine wpList_append_own _ rfl _ _ 47 rfl (w.heap.size + 1) 51 i0 (.int .i64 0) 1 8 Tryz.underlying47 hi hz0 hz1 hz2 rfl (by decide) _ _ _ rfl (ho.1.alloc _) ⟨wc.heap.size, 0, none⟩ 1 1 [.int .i64 4] rfl rfl ?c1 ?c2 ?c3 ?c4 ?c5 ?_)
      case c1 =>
        intro j u hj
        match j, hj with
        | 0, hj => simp at hj; subst hj; simp [Addr.add]
      case c2 => intro u hu; simp at hu; subst hu; rfl
      case c3 => unfold maxLen; omega
      case c4 => omega
      case c5 => rw [World.size_alloc]; omega
      intro v2 w2 hown hg _
      have HS : Hid (OL #[.bool o0, .bool o1, .bool o2, .bool o3, .bool o4, .bool o5, .bool o6, .int .i64 o7] w (([] : List Int) ++ one o0 0 ++ one o1 1 ++ one o2 2 ++ one o3 3 ++ one o4 4) v2 w2) := Lib.hid (by rw [← HE.out]; exact ho.next hown hg hlm)
      obtain ⟨a9, n9, c9, rfl⟩ := HS.out.form
      clear ho hown hg
      go_wp2_with fail
      go_meet
      case rel => exact HS
    | false =>
      have HS : Hid (OL #[.bool o0, .bool o1, .bool o2, .bool o3, .bool o4, .bool o5, .bool o6, .int .i64 o7] w (([] : List Int) ++ one o0 0 ++ one o1 1 ++ one o2 2 ++ one o3 3 ++ one o4 4) _ wc) := Lib.hid (by rw [← HE.out]; exact ho.same rfl)
      clear ho hb4 hX4
      go_wp2_with fail
      go_meet
      case rel => exact HS
  case rest =>
  clear ho hb4 hc4 hX4 HO4
  have HO5 := hcut
  clear hcut
  obtain ⟨a4, n4, c4, rfl⟩ := HO5.out.form
  obtain ⟨b5, hb5⟩ : ∃ b, o5 = b := ⟨_, rfl⟩
  have ho := HO5.out
  obtain ⟨X5, hX5⟩ : ∃ x : List Int, (([] : List Int) ++ one o0 0 ++ one o1 1 ++ one o2 2 ++ one o3 3 ++ one o4 4) = x := ⟨_, rfl⟩
  rw [hX5] at ho
  have hc5 : _ = some (Value.bool b5) := (ho.cell 5).trans (by rw [← hb5]; rfl)
  go_upto_if 30 with (fail)
  go_cut [3] from 31 to 33 (fun v3 wc => Hid (OL #[.bool o0, .bool o1, .bool o2, .bool o3, .bool o4, .bool o5, .bool o6, .int .i64 o7] w (([] : List Int) ++ one o0 0 ++ one o1 1 ++ one o2 2 ++ one o3 3 ++ one o4 4 ++ one o5 5) v3 wc))
  case first =>
    have HE : Hid (X5 ++ one b5 5 = (([] : List Int) ++ one o0 0 ++ one o1 1 ++ one o2 2 ++ one o3 3 ++ one o4 4 ++ one o5 5)) := Lib.hid (by rw [← hX5, hb5])
    cases b5 with
    | true =>
      have hlm : X5.length + 1 ≤ 100 := by rw [← hX5]; have := one_len o0 0; have := one_len o1 1; have := one_len o2 2; have := one_len o3 3; have := one_len o4 4; have := one_len o5 5; simp only [List.length_append, List.length_nil]; omega
      have hsz := ho.2.2.2.2
      clear hb5 hX5
      go_wp2_with (at_builtin; refine wpList_append_own _ rfl _ _ 47 rfl (w.heap.size + 1) 51 i0 (.int .i64 0) 1 8 Tryz.underlying47 hi hz0 hz1 hz2 rfl (by decide) _ _ _ rfl (ho.1.alloc _) ⟨wc.heap.size, 0, none⟩ 1 1 [.int .i64 5] rfl rfl ?c1 ?c2 ?c3 ?c4 ?c5 ?_)
      case c1 =>
        intro j u hj
        match j, hj with
        | 0, hj => simp at hj; subst hj; simp [Addr.add]
      case c2 => intro u hu; simp at hu; subst hu; rfl
      case c3 => unfold maxLen; omega
      case c4 => omega
      case c5 => rw [World.size_alloc]; omega
      intro v2 w2 hown hg _
      have HS : Hid (OL #[.bool o0, .bool o1, .bool o2, .bool o3, .bool o4, .bool o5, .bool o6, .int .i64 o7] w (([] : List Int) ++ one o0 0 ++ one o1 1 ++ one o2 2 ++ one o3 3 ++ one o4 4 ++ one o5 5) v2 w2) := Lib.hid (by rw [← HE.out]; exact ho.next hown hg hlm)
      obtain ⟨a9, n9, c9, rfl⟩ := HS.out.form
      clear ho hown hg
      go_wp2_with fail
      go_meet
      case rel => exact HS
    | false =>
      have HS : Hid (OL #[.bool o0, .bool o1, .bool o2, .bool o3, .bool o4, .bool o5, .bool o6, .int .i64 o7] w (([] : List Int) ++ one o0 0 ++ one o1 1 ++ one o2 2 ++ one o3 3 ++ one o4 4 ++ one o5 5) _ wc) := Lib.hid (by rw [← HE.out]; exact ho.same rfl)
      clear ho hb5 hX5
      go_wp2_with fail
      go_meet
      case rel => exact HS
  case rest =>
  clear ho hb5 hc5 hX5 HO5
  have HO6 := hcut
  clear hcut
  obtain ⟨a5, n5, c5, rfl⟩ := HO6.out.form
  obtain ⟨b6, hb6⟩ : ∃ b, o6 = b := ⟨_, rfl⟩
  have ho := HO6.out
  obtain ⟨X6, hX6⟩ : ∃ x : List Int, (([] : List Int) ++ one o0 0 ++ one o1 1 ++ one o2 2 ++ one o3 3 ++ one o4 4 ++ one o5 5) = x := ⟨_, rfl⟩
  rw [hX6] at ho
  have hc6 : _ = some (Value.bool b6) := (ho.cell 6).trans (by rw [← hb6]; rfl)
  go_upto_if 35 with (fail)
  go_cut [3] from 36 to 38 (fun v3 wc => Hid (OL #[.bool o0, .bool o1, .bool o2, .bool o3, .bool o4, .bool o5, .bool o6, .int .i64 o7] w (([] : List Int) ++ one o0 0 ++ one o1 1 ++ one o2 2 ++ one o3 3 ++ one o4 4 ++ one o5 5 ++ one o6 6) v3 wc))
  case first =>
    have HE : Hid (X6 ++ one b6 6 = (([] : List Int) ++ one o0 0 ++ one o1 1 ++ one o2 2 ++ one o3 3 ++ one o4 4 ++ one o5 5 ++ one o6 6)) := Lib.hid (by rw [← hX6, hb6])
    cases b6 with
    | true =>
      have hlm : X6.length + 1 ≤ 100 := by rw [← hX6]; have := one_len o0 0; have := one_len o1 1; have := one_len o2 2; have := one_len o3 3; have := one_len o4 4; have := one_len o5 5; simp only [List.length_append, List.length_nil]; omega
      have hsz := ho.2.2.2.2
      clear hb6 hX6
      go_wp2_with (at_builtin; refine wpList_append_own _ rfl _ _ 47 rfl (w.heap.size + 1) 51 i0 (.int .i64 0) 1 8 Tryz.underlying47 hi hz0 hz1 hz2 rfl (by decide) _ _ _ rfl (ho.1.alloc _) ⟨wc.heap.size, 0, none⟩ 1 1 [.int .i64 6] rfl rfl ?c1 ?c2 ?c3 ?c4 ?c5 ?_)
      case c1 =>
        intro j u hj
        match j, hj with
        | 0, hj => simp at hj; subst hj; simp [Addr.add]
      case c2 => intro u hu; simp at hu; subst hu; rfl
      case c3 => unfold maxLen; omega
      case c4 => omega
      case c5 => rw [World.size_alloc]; omega
      intro v2 w2 hown hg _
      have HS : Hid (OL #[.bool o0, .bool o1, .bool o2, .bool o3, .bool o4, .bool o5, .bool o6, .int .i64 o7] w (([] : List Int) ++ one o0 0 ++ one o1 1 ++ one o2 2 ++ one o3 3 ++ one o4 4 ++ one o5 5 ++ one o6 6) v2 w2) := Lib.hid (by rw [← HE.out]; exact ho.next hown hg hlm)
      obtain ⟨a9, n9, c9, rfl⟩ := HS.out.form
      clear ho hown hg
      go_wp2_with fail
      go_meet
      case rel => exact HS
    | false =>
      have HS : Hid (OL #[.bool o0, .bool o1, .bool o2, .bool o3, .bool o4, .bool o5, .bool o6, .int .i64 o7] w (([] : List Int) ++ one o0 0 ++ one o1 1 ++ one o2 2 ++ one o3 3 ++ one o4 4 ++ one o5 5 ++ one o6 6) _ wc) := Lib.hid (by rw [← HE.out]; exact ho.same rfl)
      clear ho hb6 hX6
      go_wp2_with fail
      go_meet
      case rel => exact HS
  case rest =>
  clear ho hb6 hc6 hX6 HO6
  have HO7 := hcut
  clear hcut
  obtain ⟨a6, n6, c6, rfl⟩ := HO7.out.form
  have ho := HO7.out
  obtain ⟨X7, hX7⟩ : ∃ x : List Int, (([] : List Int) ++ one o0 0 ++ one o1 1 ++ one o2 2 ++ one o3 3 ++ one o4 4 ++ one o5 5 ++ one o6 6) = x := ⟨_, rfl⟩
  rw [hX7] at ho
  have hc7 : _ = some (Value.int .i64 o7) := (ho.cell 7).trans rfl
  have hoL : X7 ++ (if o7 = 0 then [] else [o7 * 65536]) = optL o0 o1 o2 o3 o4 o5 o6 o7 := by rw [← hX7]; simp [optL]
  by_cases h0 : o7 = 0
  · rw [if_pos h0, List.append_nil] at hoL
    rw [hoL] at ho
    obtain ⟨A, c, hv, hcc, hbb⟩ := ol_end ho
    have HF := Lib.hid (And.intro hcc hbb)
    rw [hv]
    have hn1 : (o7 != 0) = false := by simp [h0]
    clear h0 hv ho hcc hbb HO7
    go_wp2_with fail
    go_ret
    exact ⟨A, c, rfl, HF.out.1, HF.out.2⟩
  · rw [if_neg h0] at hoL
    have hn1 : (o7 != 0) = true := by simp [h0]
    have hmx : demangle_MaxLength.f o7 = some (o7 * 65536) := by unfold demangle_MaxLength.f; rw [if_pos (by omega)]
    have HM := Lib.hid (fun w' => demangle_MaxLength.calls o7 _ w' hmx)
    have hlm : X7.length + 1 ≤ 100 := by rw [← hX7]; have := one_len o0 0; have := one_len o1 1; have := one_len o2 2; have := one_len o3 3; have := one_len o4 4; have := one_len o5 5; have := one_len o6 6; simp only [List.length_append, List.length_nil]; omega
    have hsz := ho.2.2.2.2
    clear h0 hmx hX7
    go_wp2_with (first | (go_at_call 22; refine (HM.out _).mono ?_; rintro e wm ⟨rfl, rfl⟩) | (at_builtin; refine wpList_append_own _ rfl _ _ 47 rfl (w.heap.size + 1) 51 i0 (.int .i64 0) 1 8 Tryz.underlying47 hi hz0 hz1 hz2 rfl (by decide) _ _ _ rfl (ho.1.alloc _) ⟨wc.heap.size, 0, none⟩ 1 1 [.int .i64 (o7 * 65536)] rfl rfl ?c1 ?c2 ?c3 ?c4 ?c5 ?_))
    case c1 =>
      intro j u hj
      match j, hj with
      | 0, hj => simp at hj; subst hj; simp [Addr.add]
    case c2 => intro u hu; simp at hu; subst hu; rfl
    case c3 => unfold maxLen; omega
    case c4 => omega
    case c5 => rw [World.size_alloc]; omega
    intro v2 w2 hown hg _
    obtain ⟨A, c, hv, hcc, hbb⟩ := ol_end (ho.next hown hg hlm)
    rw [hoL] at hv hcc
    have HF := Lib.hid (And.intro hcc hbb)
    subst hv
    clear hcc hbb ho hown hg HO7
    go_wp2_with fail
    go_ret
    exact ⟨A, c, rfl, HF.out.1, HF.out.2⟩
end Go.Proofs.YtkhbmkccbhkolaaGreatDoor
