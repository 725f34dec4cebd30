/- The reference's plain identifiers, as they are written. -/
import Derived.Test.YtfblehpiecialaaDoorDmW
import Derived.Test.YtfblehpiecialaaDoorItoa
import Derived.Test.YtfblehpiecialaaDoorDig10
import Derived.Test.YtfblehpiecialaaDoorIde
import Derived.Deep.DeepCutAuto
import Derived.Deep.CutBlock
namespace Go.Proofs.YtfblehpiecialaaDoor
set_option linter.unusedVariables false
set_option linter.unusedSimpArgs false
open Go.RowKit

theorem sDigit_calls (c : UInt8) (w : World) :
    Calls Tryd.prog 55 #[.int .u8 c.toNat] w fun e w' => e = .returned (.bool (Dm.isDig c)) ∧ w = w' := by
  go_enter Tryd.func55, Tryd.ntmps55
  go_wp2
  all_goals
    go_ret
    exact ⟨by unfold Dm.isDig; simp_all; try omega, rfl⟩
theorem sLetter_calls (c : UInt8) (w : World) :
    Calls Tryd.prog 56 #[.int .u8 c.toNat] w fun e w' => e = .returned (.bool (Dm.isLet c)) ∧ w = w' := by
  go_enter Tryd.func56, Tryd.ntmps56
  go_wp2
  all_goals
    go_ret
    exact ⟨by unfold Dm.isLet; simp_all; try omega, rfl⟩

theorem c95 {c : UInt8} (h : (c.toNat : Int) = 95) : c = 95 := (toNat_eq' (n := 95) (by omega)).1 (by rw [h]; rfl)
set_option maxHeartbeats 2000000 in
set_option maxRecDepth 100000 in
theorem isPlain_calls (l : List UInt8) (w : World) (hl : l.length ≤ 4611686018427387904) :
    Calls Tryd.prog 41 #[.string (bs l)] w fun e w' => e = .returned (.bool (l.all Dm.isPlain)) ∧ w = w' := by
  have hz := bs_size l
  go_enter Tryd.func41, Tryd.ntmps41
  go_wp2_with fail
  go_loop [3, 6] (fun _ v => ∃ i : Nat, v = .int .i64 i ∧ i ≤ l.length ∧ Hid ((l.take i).all Dm.isPlain = true)) (fun _ v => l.length - (intOf v).toNat)
  case atStart => exact ⟨0, rfl, Nat.zero_le _, Lib.hid (by simp)⟩
  case round =>
    obtain ⟨i, rfl, hi, HP⟩ := hrel
    by_cases hlt : i < l.length
    · have hget := bs_get l i hlt
      have hlt3 : (i : Int) < (l.length : Int) := by omega
      have hw : IntKind.i64.wrap ((i : Int) + 1) = (i : Int) + 1 := IntWalk.i64_in _ (by omega)
      by_cases hpl : Dm.isPlain l[i] = true
      · have HQ := Lib.hid (all_snoc hlt HP.out hpl)
        obtain ⟨c, hcd⟩ : ∃ c, l[i] = c := ⟨_, rfl⟩
        rw [hcd] at hpl hget
        rw [Dm.isPlain_parts] at hpl
        have hcs : Dm.isDig c = true ∨ (Dm.isDig c = false ∧ ((c.toNat : Int) != 95) = false) ∨ (Dm.isDig c = false ∧ ((c.toNat : Int) != 95) = true ∧ Dm.isLet c = true) := by
          cases hd : Dm.isDig c with
          | true => exact .inl rfl
          | false =>
            rw [hd] at hpl
            by_cases h95 : c = 95
            · exact .inr (.inl ⟨rfl, by rw [h95]; rfl⟩)
            · refine .inr (.inr ⟨rfl, ?_, ?_⟩)
              · rw [bne_iff_ne]; intro e; exact h95 (c95 e)
              · simp only [Bool.false_or, Bool.or_eq_true, decide_eq_true_eq] at hpl
                rcases hpl with h | h
                · exact h
                · exact absurd (c95 h) h95
        clear hpl hcd
        rcases hcs with hd | ⟨hd, h95⟩ | ⟨hd, h95, hle⟩
        all_goals
          go_wp2_with (first | (go_at_call 55; refine (sDigit_calls c _).mono ?_; rintro e w1 ⟨rfl, rfl⟩) | (go_at_call 56; refine (sLetter_calls c _).mono ?_; rintro e w1 ⟨rfl, rfl⟩))
          go_round
          case rel => exact ⟨i + 1, by simp, by omega, HQ⟩
          case measure => simp [intOf]; omega
      · have hf : Dm.isPlain l[i] = false := by simpa using hpl
        have HF : Hid (l.all Dm.isPlain = false) := Lib.hid (all_not hlt hf)
        obtain ⟨c, hcd⟩ : ∃ c, l[i] = c := ⟨_, rfl⟩
        rw [hcd] at hf hget
        rw [Dm.isPlain_parts] at hf
        simp only [Bool.or_eq_false_iff] at hf
        obtain ⟨⟨hd, hle⟩, h95⟩ := hf
        have h95' : ((c.toNat : Int) != 95) = true := by rw [bne_iff_ne]; exact of_decide_eq_false h95
        clear hpl hcd h95
        go_wp2_with (first | (go_at_call 55; refine (sDigit_calls c _).mono ?_; rintro e w1 ⟨rfl, rfl⟩) | (go_at_call 56; refine (sLetter_calls c _).mono ?_; rintro e w1 ⟨rfl, rfl⟩))
        go_ret
        exact ⟨by rw [HF.out]; rfl, rfl⟩
    · have hie : i = l.length := by omega
      have HA : Hid (l.all Dm.isPlain = true) := Lib.hid (by have := HP.out; rw [hie, List.take_of_length_le (Nat.le_refl _)] at this; exact this)
      have hnl : ¬ (i : Int) < (l.length : Int) := by omega
      clear hie
      go_wp2_with fail
      go_ret
      exact ⟨by rw [HA.out]; rfl, rfl⟩

theorem dec_len_le (u : Nat) (h : u ≤ 1000000000000000) : (Lib.decDigits u).length ≤ u + 1 := Dm.digits_len u
theorem bs_add (l m : List UInt8) : bs l ++ bs m = bs (l ++ m) := by
  apply ByteArray.ext
  simp [bs, ByteArray.data_append]
theorem itoa_calls (u : Nat) (hu : u ≤ 1000000000000000) (w : World) (hT : StrIs w) :
    Calls Tryd.prog 32 #[.int .i64 u] w fun e w' => e = .returned (.string (bs (Lib.decDigits u))) ∧ Below w.heap.size w w' :=
  strconv_Itoa.calls (T_ := StrIs) (u : Int) _ w hT (by unfold strconv_Itoa.f; rw [if_pos (by omega), Dm.itoa_nat])

set_option maxHeartbeats 2000000 in
set_option maxRecDepth 100000 in
theorem counted_calls (l : List UInt8) (w : World) (hl : l.length ≤ 1000000000000000) (hT : StrIs w) :
    Calls Tryd.prog 42 #[.string (bs l)] w fun e w' => e = .returned (.string (bs (Dm.counted l))) ∧ Below w.heap.size w w' := by
  have HI := Lib.hid (fun w hT => itoa_calls l.length hl w hT)
  have hd0 := dec_len_le l.length hl
  have hz := bs_size l
  have hzd := bs_size (Lib.decDigits l.length)
  have ht0 : ∀ m, (bs m).toList = m := fun m => by simp [bs]
  go_enter Tryd.func42, Tryd.ntmps42
  go_upto_region 2 with (fail)
  go_cut [15] from 4 to 14 (fun v wc => v = .bool (decide (Dm.sep l = [95])) ∧ w = wc)
  case first =>
    cases l with
    | nil =>
      go_wp2_with fail
      go_meet
      case rel => exact ⟨rfl, rfl⟩
    | cons c r =>
      by_cases hd : Dm.isDig c = true
      · have HD : Hid (decide (Dm.sep (c :: r) = [95]) = true) := Lib.hid (decide_eq_true (by simp only [Dm.sep]; rw [if_pos (.inl hd)]))
        go_wp2_with (go_at_call 55; refine (sDigit_calls c _).mono ?_; rintro e w1 ⟨rfl, rfl⟩)
        go_meet
        case rel => exact ⟨by rw [HD.out], rfl⟩
      · have hd' : Dm.isDig c = false := by simpa using hd
        by_cases h95 : c = 95
        · have HD : Hid (decide (Dm.sep (c :: r) = [95]) = true) := Lib.hid (decide_eq_true (by simp only [Dm.sep]; rw [if_pos (.inr h95)]))
          have n95 : ((c.toNat : Int) == 95) = true := by rw [h95]; rfl
          clear hd h95
          go_wp2_with (go_at_call 55; refine (sDigit_calls c _).mono ?_; rintro e w1 ⟨rfl, rfl⟩)
          go_meet
          case rel => exact ⟨by rw [HD.out], rfl⟩
        · have HD : Hid (decide (Dm.sep (c :: r) = [95]) = false) := Lib.hid (decide_eq_false (by simp only [Dm.sep]; rw [if_neg (by rintro (h | h); exact hd h; exact h95 h)]; simp))
          have n95 : ((c.toNat : Int) == 95) = false := by rw [beq_eq_false_iff_ne]; exact fun e => h95 (c95 e)
          clear hd h95
          go_wp2_with (go_at_call 55; refine (sDigit_calls c _).mono ?_; rintro e w1 ⟨rfl, rfl⟩)
          go_meet
          case rel => exact ⟨by rw [HD.out], rfl⟩
  case rest =>
    obtain ⟨rfl, rfl⟩ := hcut
    have hb1 : (Lib.decDigits l.length).length + l.length + 1 ≤ 9223372036854775807 := by omega
    by_cases hs : Dm.sep l = [95]
    · have hsd : decide (Dm.sep l = [95]) = true := decide_eq_true hs
      have HS := Lib.hid hs
      rw [hsd]
      clear hs hsd
      go_wp2_with (go_at_call 32; refine (HI.out _ hT).mono ?_; rintro e w1 ⟨rfl, hb⟩)
      go_ret
      refine ⟨?_, hb⟩
      have e : bs (Lib.decDigits l.length) ++ (⟨#[95]⟩ : ByteArray) ++ bs l = bs (Dm.counted l) := by
        show bs _ ++ bs [95] ++ bs l = _
        rw [bs_add, bs_add]; unfold Dm.counted; rw [HS.out]
      rw [← e]; rfl
    · have hsd : decide (Dm.sep l = [95]) = false := decide_eq_false hs
      have HS : Hid (Dm.sep l = []) := Lib.hid (by
        cases l with
        | nil => rfl
        | cons c r =>
          simp only [Dm.sep] at hs ⊢
          by_cases h : Dm.isDig c = true ∨ c = 95
          · rw [if_pos h] at hs; exact absurd rfl hs
          · rw [if_neg h])
      rw [hsd]
      clear hs hsd
      go_wp2_with (go_at_call 32; refine (HI.out _ hT).mono ?_; rintro e w1 ⟨rfl, hb⟩)
      go_ret
      refine ⟨?_, hb⟩
      have e : bs (Lib.decDigits l.length) ++ (⟨#[]⟩ : ByteArray) ++ bs l = bs (Dm.counted l) := by
        show bs _ ++ bs [] ++ bs l = _
        rw [bs_add, bs_add]; unfold Dm.counted; rw [HS.out]
      rw [← e]; rfl

set_option maxHeartbeats 2000000 in
set_option maxRecDepth 100000 in
theorem written_calls (l : List UInt8) (w : World) (hl : l.length ≤ 1000000000000000) (hp : l.all Dm.isPlain = true) (hT : StrIs w) :
    Calls Tryd.prog 28 #[.string (bs l)] w fun e w' => e = .returned (.string (bs (Dm.written l))) ∧ Below w.heap.size w w' := by
  have ht0 : ∀ m, (bs m).toList = m := fun m => by simp [bs]
  cases l with
  | nil =>
    go_enter Tryd.func28, Tryd.ntmps28
    go_wp2_with fail
    go_ret
    exact ⟨rfl, Below.refl _ _⟩
  | cons c r =>
    have HP := Lib.hid (isPlain_calls (c :: r) w (by omega))
    rw [hp] at HP
    have HC := Lib.hid (counted_calls (c :: r) w hl hT)
    have HE : Hid (Dm.written (c :: r) = Dm.counted (c :: r)) := Lib.hid (by unfold Dm.written; rw [if_neg (by simp)])
    clear hp hl
    go_enter Tryd.func28, Tryd.ntmps28
    go_wp2_with (first | (go_at_call 41; refine HP.out.mono ?_; rintro e w1 ⟨rfl, rfl⟩) | (go_at_call 42; refine HC.out.mono ?_; rintro e w1 ⟨rfl, hb⟩))
    go_ret
    exact ⟨by rw [HE.out]; rfl, hb⟩
end Go.Proofs.YtfblehpiecialaaDoor
