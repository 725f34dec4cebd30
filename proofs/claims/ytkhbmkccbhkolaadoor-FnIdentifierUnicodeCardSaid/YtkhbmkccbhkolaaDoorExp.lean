/- strings.LastIndex of an underscore, utf8.ValidRune, and the reader's Punycode. -/
import Derived.Test.YtkhbmkccbhkolaaDoorCore
import Derived.Test.YtkhbmkccbhkolaaDoorPuny
import Derived.Laws.IdiomStrings
import Derived.Laws.Cover4
import Derived.OwnWalk
namespace Go.Proofs.YtkhbmkccbhkolaaDoor
set_option linter.unusedVariables false
set_option linter.unusedSimpArgs false
open Go.RowKit

theorem lastU_snoc (c : UInt8) : ∀ p : List UInt8, Dm.lastU (p ++ [c]) = if c = 95 then (p.length : Int) else Dm.lastU p
  | [] => by
    by_cases h : c = 95 <;> simp [Dm.lastU, h]
  | a :: p => by
    simp only [List.cons_append, Dm.lastU, lastU_snoc c p, List.length_cons]
    by_cases h : c = 95
    · rw [if_pos h, if_pos h, if_pos (by omega)]; omega
    · rw [if_neg h, if_neg h]
theorem lastU_take {l : List UInt8} {k : Nat} (hk : k < l.length) : Dm.lastU (l.take (k + 1)) = if l[k] = 95 then (k : Int) else Dm.lastU (l.take k) := by
  rw [List.take_succ_eq_append_getElem hk, lastU_snoc, List.length_take, Nat.min_eq_left (by omega)]
theorem lastU_lt : ∀ l : List UInt8, Dm.lastU l < l.length ∧ -1 ≤ Dm.lastU l
  | [] => by simp [Dm.lastU]
  | c :: r => by
    have := lastU_lt r
    simp only [Dm.lastU, List.length_cons]
    split
    · omega
    · split <;> omega

theorem bs_getE (l : List UInt8) (k : Nat) (h : k < (bs l).size) (h2 : k < l.length) : (bs l)[k]'h = l[k] := rfl

theorem lastByte_calls (l : List UInt8) (w : World) (hl : l.length ≤ 4611686018427387904) :
    Calls Tryd.prog 48 #[.string (bs l), .int .u8 95] w fun e w' => e = .returned (.int .i64 (Dm.lastU l)) ∧ w = w' := by
  have hz := bs_size l
  go_enter Tryd.func48, Tryd.ntmps48
  go_wp2_with fail
  go_loop [5] (fun v => ∃ k : Nat, v = .int .i64 ((k : Int) - 1) ∧ k ≤ l.length ∧ Hid (Dm.lastU l = Dm.lastU (l.take k))) (fun v => (intOf v + 1).toNat)
  case atStart => exact ⟨l.length, rfl, Nat.le_refl _, Lib.hid (by rw [List.take_length])⟩
  case round =>
    obtain ⟨k, rfl, hk, HU⟩ := hrel
    cases k with
    | zero =>
      go_wp2_with fail
      go_ret
      refine ⟨?_, rfl⟩
      rw [HU.out]; rfl
    | succ k =>
      have hlt : k < l.length := hk
      have HT := Lib.hid (lastU_take hlt)
      have e1 : (((k : Nat) + 1 : Nat) : Int) - 1 = (k : Int) := by omega
      by_cases h95 : l[k] = 95
      · have hb : (((bs l)[k]'(by rw [hz]; exact hlt)).toNat : Int) = 95 := by rw [bs_getE l k _ hlt, h95]; rfl
        rw [e1]
        clear e1
        go_wp2_with fail
        go_ret
        refine ⟨?_, rfl⟩
        rw [HU.out, HT.out, if_pos h95]
        rfl
      · have hb : ((((bs l)[k]'(by rw [hz]; exact hlt)).toNat : Int) == 95) = false := by
          rw [beq_eq_false_iff_ne, bs_getE l k _ hlt]
          intro e
          exact h95 ((toNat_eq (n := 95) (by omega)).1 (by rw [e]; rfl))
        have HN : Hid (Dm.lastU l = Dm.lastU (l.take k)) := Lib.hid (by rw [HU.out, HT.out, if_neg h95])
        rw [e1]
        clear e1 h95
        go_wp2_with fail
        go_round
        case rel => exact ⟨k, rfl, by omega, HN⟩
        case measure => simp [intOf]

theorem lastIndex_calls (l : List UInt8) (w : World) (hl : l.length ≤ 4611686018427387904) :
    Calls Tryd.prog 42 #[.string (bs l), .string ⟨#[95]⟩] w fun e w' => e = .returned (.int .i64 (Dm.lastU l)) ∧ w = w' := by
  have hc := lastByte_calls l w hl
  go_enter Tryd.func42, Tryd.ntmps42
  go_wp2_with fail
  refine hc.mono ?_
  rintro e w1 ⟨rfl, rfl⟩
  go_wp2_with fail
  go_ret
  exact ⟨rfl, rfl⟩

theorem validRune_calls (n : Int) (w : World) :
    Calls Tryd.prog 44 #[.int .i32 n] w fun e w' => e = .returned (.bool (Dm.validRune n)) ∧ w = w' := by
  unfold Dm.validRune
  by_cases a : 0 ≤ n <;> by_cases b : n < 55296 <;> by_cases c : 57343 < n <;> by_cases d : n ≤ 1114111
  all_goals
    first
    | omega
    | (go_enter Tryd.func44, Tryd.ntmps44
       go_wp2
       go_ret
       exact ⟨by simp [a, b, c, d], rfl⟩)

end Go.Proofs.YtkhbmkccbhkolaaDoor
