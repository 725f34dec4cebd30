/- strconv.FormatUint and FormatInt at base 10: the decimal numeral. -/
import Derived.Test.YtaegllbokgjoeaaDoorItoa
import Derived.Lib.Walk
import Derived.Lib.ItoaMem
import Derived.Lib.ItoaWalk
import Derived.Lib.AppendIntMem
import Derived.IntWalk
import Derived.BigCall
import Derived.BigGuard
import Derived.WalkKit
namespace Go.Proofs.YtaegllbokgjoeaaDoor
set_option linter.unusedVariables false
set_option linter.unusedSimpArgs false
open Go.RowKit Go.Sort
theorem below_grow (w : World) (k : Nat) (os : Array Obj) : Go.RowKit.Below w.heap.size w (grow (w.drewN k) os) := ⟨rfl, rfl, rfl, by show w.heap.size ≤ (w.heap ++ os).size; simp, fun i hi => by show (w.heap ++ os)[i]? = w.heap[i]?; rw [Array.getElem?_append_left hi]⟩

set_option maxHeartbeats 6400000 in
set_option maxRecDepth 100000 in
theorem fmtU_inner (u : Nat) (hu64 : u < 18446744073709551616) (w : World) (htab : StrIs w) :
    Calls Tryd.prog 42 #[.int .u64 u, .int .i64 10] w fun e w' => e = .returned (.string (bs (Lib.decDigits u))) ∧ Below w.heap.size w w' := by
  unfold StrIs at htab
  by_cases hs : u < 100
  · have hu : (u : Int) < 100 := by omega
    have hwr : IntKind.i64.wrap (u : Int) = (u : Int) := IntWalk.i64_in _ (by omega)
    go_enter Tryd.func42, Tryd.ntmps42
    go_wp2_with (go_at_call 44; refine (Tryd.internal_strconv_small u hs _).mono ?_; rintro e w' ⟨rfl, rfl⟩)
    go_ret
    exact ⟨rfl, Below.refl _ _⟩
  · have hu1 : 1 ≤ u := by omega
    have hnd20 : Lib.nDigits u ≤ 20 := by have := Lib.numDigits_eq u hu1 hu64; split at this <;> omega
    have hal : Tryd.prog.arrayLen 79 = 24 := by kernel_rfl
    have hsl : ∀ W, (Instr.sliceAt 79 (.pointer (some ⟨w.heap.size, 0, none⟩)) none (some (.int .i64 (Lib.nDigits u : Int))) none).run Tryd.prog W = .ok (.slice (some ⟨w.heap.size, 0, none⟩) (Lib.nDigits u) 24) W := fun W => by
      rw [run_sliceAt_array_h W 79 ⟨w.heap.size, 0, none⟩ (by simp [Program.arrayLen, Program.elem, Tryd.underlying79]) .i64 (Lib.nDigits u : Int) (by omega) (by rw [hal]; omega)]
      go_simp
    have hH0 := Lib.holds_zero0 w 79 (Lib.nDigits u) (by omega)
    have hfmt := Tryd.internal_strconv_formatBase10 w.heap.size 0 24 u (Array.replicate (Lib.nDigits u) 0) (w.alloc (.cells Lib.zeros24 79)) hH0 (by rw [Array.size_replicate]; exact Lib.lt_pow_nDigits u) hu64 (by rw [Array.size_replicate]; omega)
    rw [Array.size_replicate] at hfmt
    have HH0 := Lib.hid hH0
    have iu : (100 : Int) ≤ (u : Int) := by omega
    have iu2 : ¬ (u : Int) < 100 := by omega
    clear hH0 hal
    go_enter Tryd.func42, Tryd.ntmps42
    go_wp2_with (go_at_call 45; refine (Tryd.internal_strconv_numDigits u hu1 hu64 _ (Lib.tabIs_alloc htab _)).mono ?_; rintro e w' ⟨rfl, rfl⟩)
    go_at_call 46
    refine hfmt.mono ?_
    rintro e w' ⟨rfl, k, v', dk, rfl, hF⟩
    have hcv : (convert 46 9 (.slice (some ⟨w.heap.size, 0, none⟩) (Lib.nDigits u) 24)).run Tryd.prog ((putRow (fun (b : UInt8) => Value.int .u8 (b.toNat : Int)) (w.alloc (.cells Lib.zeros24 79)) w.heap.size 0 dk).drewN k) = .ok (.string ⟨(Lib.decDigits u).toArray⟩) ((putRow (fun (b : UInt8) => Value.int .u8 (b.toNat : Int)) (w.alloc (.cells Lib.zeros24 79)) w.heap.size 0 dk).drewN k) := by
      have h := run_convert_bytes_back (P := Tryd.prog) ((putRow (fun (b : UInt8) => Value.int .u8 (b.toNat : Int)) (w.alloc (.cells Lib.zeros24 79)) w.heap.size 0 dk).drewN k) 46 9 5 ⟨w.heap.size, 0, none⟩ 24 (Lib.decDigits u) Tryd.underlying46 Tryd.underlying5 Tryd.underlying9 (fun j hj => by
        rw [Lib.row_is_numeral hF j hj, Lib.add_plain, World.cell?_drewN]
        exact cell?_putRow (fun (b : UInt8) => Value.int .u8 (b.toNat : Int)) _ w.heap.size 0 _ dk HH0.out (by rw [hF.size, Array.size_replicate]) j (by rw [hF.size]; rw [Lib.decDigits_length] at hj; exact hj))
      rw [Lib.decDigits_length] at h
      exact h
    go_wp2
    go_ret
    obtain ⟨os, eo⟩ := Lib.fin_at w (.cells Lib.zeros24 79) dk k 0
    refine ⟨rfl, ?_⟩
    rw [eo]
    exact below_grow w k os

set_option maxHeartbeats 1000000 in
theorem fmtU_calls (u : Nat) (hu64 : u < 18446744073709551616) (w : World) (htab : StrIs w) :
    Calls Tryd.prog 34 #[.int .u64 u, .int .i64 10] w fun e w' => e = .returned (.string (bs (Lib.decDigits u))) ∧ Below w.heap.size w w' := by
  have hc := fmtU_inner u hu64 w htab
  clear htab
  go_enter Tryd.func34, Tryd.ntmps34
  go_wp2_with (go_at_call 42; refine hc.mono ?_; rintro e w' ⟨rfl, hb⟩)
  go_ret
  exact ⟨rfl, hb⟩
end Go.Proofs.YtaegllbokgjoeaaDoor
