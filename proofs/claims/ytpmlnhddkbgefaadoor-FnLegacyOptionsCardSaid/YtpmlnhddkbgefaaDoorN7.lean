/- spec.LgHash: 16 digits of a hash, and how many of them are different. spec.LgHash in the form of a printed function. -/
import Derived.Test.YtpmlnhddkbgefaaDoorN2
import Derived.Test.YtpmlnhddkbgefaaDoorN1
import Derived.Test.YtpmlnhddkbgefaaDoorM6
import Derived.Test.YtpmlnhddkbgefaaDoorWMore
namespace Go.Proofs.YtpmlnhddkbgefaaDoor
set_option linter.unusedVariables false
set_option linter.unusedSimpArgs false
open Go.RowKit Go.Proofs.YtpmlnhddkbgefaaDoorW.PrintWords Go.Proofs.YtpmlnhddkbgefaaDoorW.PrintLast Go.Proofs.YtpmlnhddkbgefaaDoorW.PrintMore

/-- The array of the digits that were seen. -/
def SeenAt (b s : Nat) (w : World) : Prop := w.heap[b]? = some (.cells ((Array.range 16).map fun i => .bool (s.testBit i)) 107 (0, 0))
theorem rd_lg {l : List Int} {i : Nat} (h : i < l.length) (hr : ∀ x ∈ l, 0 ≤ x ∧ x ≤ 255) : 0 ≤ rd l (i : Int) ∧ rd l (i : Int) ≤ 255 ∧ ((Dm.lgDig l i : Nat) : Int) = rd l (i : Int) % 16 := by
  have e : rd l (i : Int) = l[i] := by
    unfold rd
    rw [Int.toNat_natCast, List.getD_eq_getElem?_getD, List.getElem?_eq_getElem h]; rfl
  have hx := hr l[i] (List.getElem_mem h)
  rw [e]
  refine ⟨hx.1, hx.2, ?_⟩
  unfold Dm.lgDig
  rw [if_pos h, List.getD_eq_getElem?_getD, List.getElem?_eq_getElem h]
  show ((l[i] % 16).toNat : Int) = _
  omega
theorem range16 : (Array.range 16).map (fun i => Value.bool ((0 : Nat).testBit i)) = #[.bool false, .bool false, .bool false, .bool false, .bool false, .bool false, .bool false, .bool false, .bool false, .bool false, .bool false, .bool false, .bool false, .bool false, .bool false, .bool false] := by
  simp only [Nat.zero_testBit]
  apply Array.ext'
  rw [Array.toList_map, Array.toList_range]
  rfl
theorem seen_new (w : World) (o : Obj) (h : o = .cells ((Array.range 16).map fun i => .bool ((0 : Nat).testBit i)) 107 (0, 0)) : SeenAt w.heap.size 0 (w.alloc o) := by
  subst h; exact heap_alloc_new w _
theorem seen_cell {b s d : Nat} {w : World} (h : SeenAt b s w) (hd : d < 16) : w.cell? ⟨b, d, none⟩ = some (.bool (s.testBit d)) ∧ w.frozen? ⟨b, d, none⟩ = false := by
  refine ⟨?_, Lib.frozen_of_heap h d⟩
  rw [Lib.cell_of_heap h]
  simp [hd]
theorem seen_arr (s d : Nat) : ((Array.range 16).map fun i => Value.bool (s.testBit i)).setIfInBounds d (.bool true) = (Array.range 16).map fun i => Value.bool ((s ||| 2 ^ d).testBit i) := by
  apply Array.ext
  · simp
  · intro j h1 h2
    have hj : j < 16 := by simpa using h2
    rw [show (Array.map (fun i => Value.bool ((s ||| 2 ^ d).testBit i)) (Array.range 16))[j] = Value.bool (s.testBit j || decide (d = j)) by simp [Nat.testBit_or, Nat.testBit_two_pow]]
    by_cases e : d = j
    · subst e; simp
    · rw [Array.getElem_setIfInBounds_ne (by simpa using hj) e]
      simp [e]
theorem seen_set {b s d : Nat} {w : World} (h : SeenAt b s w) : SeenAt b (s ||| 2 ^ d) (w.setCell ⟨b, d, none⟩ (.bool true)) := by
  unfold SeenAt at *
  rw [← seen_arr]
  simp [World.setCell, Array.getElem?_modify, h]
theorem seen_same {s d : Nat} (h : s.testBit d = true) : s ||| 2 ^ d = s := by
  apply Nat.eq_of_testBit_eq
  intro j
  rw [Nat.testBit_or, Nat.testBit_two_pow]
  by_cases e : d = j
  · subst e; simp [h]
  · simp [e]
theorem bs_cat (l m : List UInt8) : bs l ++ bs m = bs (l ++ m) := by
  apply ByteArray.ext
  simp [bs]
theorem ones_zero : Dm.ones16 0 = 0 := by decide
theorem digit_one : ∀ d : Fin 16, (⟨#[48, 49, 50, 51, 52, 53, 54, 55, 56, 57, 97, 98, 99, 100, 101, 102]⟩ : ByteArray).extract d.val (d.val + 1) = bs [Dm.hexch d.val] := by decide +kernel
set_option maxHeartbeats 2000000 in
set_option maxRecDepth 100000 in
theorem lgHash_calls (l : List Int) (A : Option Addr) (c : Nat) (w : World) (hC : (Kd.int .u8).C w A l.length l) (hr : ∀ x ∈ l, 0 ≤ x ∧ x ≤ 255) :
    Calls Tryd.prog 47 #[.slice A l.length c] w fun e w' => e = .returned (.tuple #[.string (bs (Dm.lgText l 16)), .int .i64 (Dm.ones16 (Dm.lgBits l 16) : Nat)]) ∧ Below w.heap.size w w' := by
  have hmx := Kd.C_max hC
  have HC := Lib.hid hC
  have HR := Lib.hid hr
  clear hC hr
  go_enter Tryd.func47, Tryd.ntmps47
  go_wp2_with fail
  go_loopw [4, 6, 10] (fun v4 v6 v10 wr => ∃ i : Nat, i ≤ 16 ∧ v4 = .string (bs (Dm.lgText l i)) ∧ v6 = .int .i64 (Dm.ones16 (Dm.lgBits l i) : Nat) ∧ v10 = .int .i64 i ∧ SeenAt w.heap.size (Dm.lgBits l i) wr ∧ Below w.heap.size w wr) (fun _ _ v10 _ => 16 - (intOf v10).toNat)
  case atStart => exact ⟨0, by decide, rfl, by rw [show Dm.ones16 (Dm.lgBits l 0) = 0 from ones_zero]; rfl, rfl, seen_new w _ (by rw [range16]), (Below.refl _ w).alloc (Nat.le_refl _) _⟩
  case round =>
    obtain ⟨i, hi, rfl, rfl, rfl, hs, hb⟩ := hrel
    by_cases hlt : i < 16
    · have hlti : (i : Int) < 16 := by omega
      have hwi : IntKind.i64.wrap ((i : Int) + 1) = (i : Int) + 1 := IntWalk.i64_in _ (by omega)
      have hdl := Dm.lgDig_lt l i
      obtain ⟨d, hd⟩ : ∃ d, d = Dm.lgDig l i := ⟨_, rfl⟩
      rw [← hd] at hdl
      obtain ⟨c0, f0⟩ := seen_cell hs hdl
      have hwd : IntKind.i64.wrap ((d : Int) + 1) = (d : Int) + 1 := IntWalk.i64_in _ (by omega)
      have hdi : (d : Int) < 16 := by omega
      have hdi2 : (d : Int) + 1 ≤ 16 := by omega
      have hx : (⟨#[48, 49, 50, 51, 52, 53, 54, 55, 56, 57, 97, 98, 99, 100, 101, 102]⟩ : ByteArray).extract d (d + 1) = bs [Dm.hexch d] := digit_one ⟨d, hdl⟩
      have HT : Hid (bs (Dm.lgText l i) ++ bs [Dm.hexch d] = bs (Dm.lgText l (i + 1))) := Lib.hid (by rw [hd]; simp only [Dm.lgText]; exact bs_cat _ _)
      have HON : Hid ((Dm.ones16 (Dm.lgBits l (i + 1)) : Nat) = Dm.ones16 (Dm.lgBits l i) + (if (Dm.lgBits l i).testBit d then 0 else 1)) := Lib.hid (by rw [hd]; exact Dm.ones_or _ _ (Dm.lgDig_lt l i))
      have hol := Dm.ones16_le (Dm.lgBits l i)
      have hwo : IntKind.i64.wrap (((Dm.ones16 (Dm.lgBits l i) : Nat) : Int) + 1) = ((Dm.ones16 (Dm.lgBits l i) : Nat) : Int) + 1 := IntWalk.i64_in _ (by omega)
      have hov : ¬ 9223372036854775807 < (bs (Dm.lgText l i)).size + (bs [Dm.hexch d]).size := by rw [bs_size, bs_size, Dm.lgText_len]; simp; omega
      have HS := Lib.hid hs
      have HB := Lib.hid hb
      by_cases hbt : (Dm.lgBits l i).testBit d = true
      · rw [hbt] at c0
        have HQ : Hid (Dm.lgBits l (i + 1) = Dm.lgBits l i ∧ Dm.ones16 (Dm.lgBits l (i + 1)) = Dm.ones16 (Dm.lgBits l i)) := Lib.hid ⟨by simp only [Dm.lgBits]; rw [← hd]; exact seen_same hbt, by rw [HON.out, if_pos hbt]; omega⟩
        clear hs hb HON
        by_cases hil : i < l.length
        · obtain ⟨x0, x1, hx16⟩ := rd_lg hil HR.out
          rw [← hd] at hx16
          obtain ⟨ad, rfl, hcell⟩ := Kd.at_int (Kd.C_below HC.out HB.out) (i : Int) (by omega) (by omega)
          rw [Int.toNat_natCast] at hcell
          have hli : (i : Int) < (l.length : Int) := by omega
          have hcx : IntKind.i64.wrap (rd l (i : Int)) = rd l (i : Int) := IntWalk.i64_in _ (by omega)
          have hrem : Int.tmod (rd l (i : Int)) 16 = (d : Int) := by rw [hx16]; exact Int.tmod_eq_emod_of_nonneg x0
          have hrem2 : IntKind.i64.wrap (Int.tmod (rd l (i : Int)) 16) = (d : Int) := by rw [hrem]; exact IntWalk.i64_in _ (by omega)
          generalize rd l (i : Int) = x at *
          clear hx16 hd hil hbt
          go_wp2_with fail
          go_roundw
          case rel => exact ⟨i + 1, by omega, by rw [HT.out], by rw [HQ.out.2], rfl, by rw [HQ.out.1]; exact HS.out, HB.out⟩
          case measure => simp [intOf]; omega
        · have hd0 : d = 0 := by rw [hd]; unfold Dm.lgDig; rw [if_neg hil]
          have hni : ¬ (i : Int) < (l.length : Int) := by omega
          clear hd hil hbt
          subst hd0
          go_wp2_with fail
          go_roundw
          case rel => exact ⟨i + 1, by omega, by rw [HT.out], by rw [HQ.out.2], rfl, by rw [HQ.out.1]; exact HS.out, HB.out⟩
          case measure => simp [intOf]; omega
      · rw [Bool.eq_false_iff.2 hbt] at c0
        have HQ : Hid (Dm.lgBits l (i + 1) = Dm.lgBits l i ||| 2 ^ d ∧ Dm.ones16 (Dm.lgBits l (i + 1)) = Dm.ones16 (Dm.lgBits l i) + 1) := Lib.hid ⟨by simp only [Dm.lgBits]; rw [← hd], by rw [HON.out, if_neg hbt]⟩
        clear hs hb HON
        by_cases hil : i < l.length
        · obtain ⟨x0, x1, hx16⟩ := rd_lg hil HR.out
          rw [← hd] at hx16
          obtain ⟨ad, rfl, hcell⟩ := Kd.at_int (Kd.C_below HC.out HB.out) (i : Int) (by omega) (by omega)
          rw [Int.toNat_natCast] at hcell
          have hli : (i : Int) < (l.length : Int) := by omega
          have hcx : IntKind.i64.wrap (rd l (i : Int)) = rd l (i : Int) := IntWalk.i64_in _ (by omega)
          have hrem : Int.tmod (rd l (i : Int)) 16 = (d : Int) := by rw [hx16]; exact Int.tmod_eq_emod_of_nonneg x0
          have hrem2 : IntKind.i64.wrap (Int.tmod (rd l (i : Int)) 16) = (d : Int) := by rw [hrem]; exact IntWalk.i64_in _ (by omega)
          generalize rd l (i : Int) = x at *
          clear hx16 hd hil hbt
          go_wp2_with fail
          go_roundw
          case rel => exact ⟨i + 1, by omega, by rw [HT.out], by rw [HQ.out.2]; rfl, rfl, by rw [HQ.out.1]; exact seen_set HS.out, HB.out.setCell (p := ⟨w.heap.size, _, none⟩) (Nat.le_refl _) _⟩
          case measure => simp [intOf]; omega
        · have hd0 : d = 0 := by rw [hd]; unfold Dm.lgDig; rw [if_neg hil]
          have hni : ¬ (i : Int) < (l.length : Int) := by omega
          clear hd hil hbt
          subst hd0
          go_wp2_with fail
          go_roundw
          case rel => exact ⟨i + 1, by omega, by rw [HT.out], by rw [HQ.out.2]; rfl, rfl, by rw [HQ.out.1]; exact seen_set HS.out, HB.out.setCell (p := ⟨w.heap.size, _, none⟩) (Nat.le_refl _) _⟩
          case measure => simp [intOf]; omega
    · have he : i = 16 := by omega
      subst he
      have hn : ¬ ((16 : Nat) : Int) < 16 := by decide
      have HB := Lib.hid hb
      clear hs hb
      go_wp2_with fail
      go_ret2
      exact ⟨rfl, HB.out⟩
end Go.Proofs.YtpmlnhddkbgefaaDoor
namespace Go.Proofs.YtpmlnhddkbgefaaDoor
set_option linter.unusedVariables false
set_option linter.unusedSimpArgs false
open Go.RowKit Go.Proofs.YtpmlnhddkbgefaaDoorW.PrintWords Go.Proofs.YtpmlnhddkbgefaaDoorW.PrintLast Go.Proofs.YtpmlnhddkbgefaaDoorW.PrintMore

def spec_LgHash.f (l0 : List Int) : Option (ByteArray × Int) :=
  if ∀ x ∈ l0, 0 ≤ x ∧ x ≤ 255 then some (bs (Dm.lgText l0 16), (Dm.ones16 (Dm.lgBits l0 16) : Nat)) else none
theorem spec_LgHash.calls (A0 : Option Addr) (c0 : Nat) (l0 : List Int) (r1 : ByteArray) (r2 : Int) (w : World) (hr0 : Kd.C (Kd.int .u8) w A0 l0.length l0) (hc0 : l0.length ≤ c0) (h : spec_LgHash.f l0 = some (r1, r2)) :
    Calls Tryd.prog 47 #[.slice A0 l0.length c0] w fun e w' => e = .returned (.tuple #[.string r1, .int .i64 r2]) ∧ Below w.heap.size w w' := by
  unfold spec_LgHash.f at h
  by_cases hs : ∀ x ∈ l0, 0 ≤ x ∧ x ≤ 255
  · rw [if_pos hs] at h
    simp only [Option.some.injEq, Prod.mk.injEq] at h
    obtain ⟨rfl, rfl⟩ := h
    exact lgHash_calls l0 A0 c0 w hr0 hs
  · rw [if_neg hs] at h; cases h
end Go.Proofs.YtpmlnhddkbgefaaDoor
