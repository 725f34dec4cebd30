/- The reference's plain identifiers, as they are written. The reference's IdWritten, of plain names, in the form of a printed function. idCut, told in place: the cut that the caller's text lays. Plain lemmas between the print's words on strings and lists of bytes. A slice of slices of whole numbers that comes in, as the printed walks read it. -/
import Derived.Test.YtdmkdclockmjbaaGreatDoorM2
import Derived.Test.YtdmkdclockmjbaaGreatDoorM3
import Derived.Test.YtdmkdclockmjbaaGreatDoorIde
import Derived.Deep.DeepCutAuto
import Derived.Deep.CutBlock
import Derived.Test.YtdmkdclockmjbaaGreatDoorProg
import Derived.Test.YtdmkdclockmjbaaGreatDoorWWords
import Derived.Test.YtdmkdclockmjbaaGreatDoorWMore
import Derived.WalkKit
import Derived.Handy
import Derived.Test.YtdmkdclockmjbaaGreatDoorM1
import Derived.Deep.Matrix
import Derived.ProofKit
import Derived.ChangeOld
namespace Go.Proofs.YtdmkdclockmjbaaGreatDoor
set_option linter.unusedVariables false
set_option linter.unusedSimpArgs false
open Go.RowKit

theorem sDigit_calls (c : UInt8) (w : World) :
    Calls Tryz.prog 67 #[.int .u8 c.toNat] w fun e w' => e = .returned (.bool (Dm.isDig c)) ∧ w = w' := by
  go_enter Tryz.func67, Tryz.ntmps67
  go_wp2
  all_goals
    go_ret
    exact ⟨by unfold Dm.isDig; simp_all; try omega, rfl⟩
theorem sLetter_calls (c : UInt8) (w : World) :
    Calls Tryz.prog 68 #[.int .u8 c.toNat] w fun e w' => e = .returned (.bool (Dm.isLet c)) ∧ w = w' := by
  go_enter Tryz.func68, Tryz.ntmps68
  go_wp2
  all_goals
    go_ret
    exact ⟨by unfold Dm.isLet; simp_all; try omega, rfl⟩

theorem c95 {c : UInt8} (h : (c.toNat : Int) = 95) : c = 95 := (toNat_eq' (n := 95) (by omega)).1 (by rw [h]; rfl)
set_option maxHeartbeats 2000000 in
set_option maxRecDepth 100000 in
theorem isPlain_calls (l : List UInt8) (w : World) (hl : l.length ≤ 4611686018427387904) :
    Calls Tryz.prog 53 #[.string (bs l)] w fun e w' => e = .returned (.bool (l.all Dm.isPlain)) ∧ w = w' := by
  have hz := bs_size l
  go_enter Tryz.func53, Tryz.ntmps53
  go_wp2_with fail
  go_loop [3, 6] (fun _ v => ∃ i : Nat, v = .int .i64 i ∧ i ≤ l.length ∧ Hid ((l.take i).all Dm.isPlain = true)) (fun _ v => l.length - (intOf v).toNat)
  case atStart => exact ⟨0, rfl, Nat.zero_le _, Lib.hid (by simp)⟩
  case round =>
    obtain ⟨i, rfl, hi, HP⟩ := hrel
    by_cases hlt : i < l.length
    · have hget := bs_get l i hlt
      have hlt3 : (i : Int) < (l.length : Int) := by omega
      have hw : IntKind.i64.wrap ((i : Int) + 1) = (i : Int) + 1 := IntWalk.i64_in _ (by omega)
      by_cases hpl : Dm.isPlain l[i] = true
      · have HQ := Lib.hid (all_snoc hlt HP.out hpl)
        obtain ⟨c, hcd⟩ : ∃ c, l[i] = c := ⟨_, rfl⟩
        rw [hcd] at hpl hget
        rw [Dm.isPlain_parts] at hpl
        have hcs : Dm.isDig c = true ∨ (Dm.isDig c = false ∧ ((c.toNat : Int) != 95) = false) ∨ (Dm.isDig c = false ∧ ((c.toNat : Int) != 95) = true ∧ Dm.isLet c = true) := by
          cases hd : Dm.isDig c with
          | true => exact .inl rfl
          | false =>
            rw [hd] at hpl
            by_cases h95 : c = 95
            · exact .inr (.inl ⟨rfl, by rw [h95]; rfl⟩)
            · refine .inr (.inr ⟨rfl, ?_, ?_⟩)
              · rw [bne_iff_ne]; intro e; exact h95 (c95 e)
              · simp only [Bool.false_or, Bool.or_eq_true, decide_eq_true_eq] at hpl
                rcases hpl with h | h
                · exact h
                · exact absurd (c95 h) h95
        clear hpl hcd
        rcases hcs with hd | ⟨hd, h95⟩ | ⟨hd, h95, hle⟩
        all_goals
          go_wp2_with (first | (go_at_call 67; refine (sDigit_calls c _).mono ?_; rintro e w1 ⟨rfl, rfl⟩) | (go_at_call 68; refine (sLetter_calls c _).mono ?_; rintro e w1 ⟨rfl, rfl⟩))
          go_round
          case rel => exact ⟨i + 1, by simp, by omega, HQ⟩
          case measure => simp [intOf]; omega
      · have hf : Dm.isPlain l[i] = false := by simpa using hpl
        have HF : Hid (l.all Dm.isPlain = false) := Lib.hid (all_not hlt hf)
        obtain ⟨c, hcd⟩ : ∃ c, l[i] = c := ⟨_, rfl⟩
        rw [hcd] at hf hget
        rw [Dm.isPlain_parts] at hf
        simp only [Bool.or_eq_false_iff] at hf
        obtain ⟨⟨hd, hle⟩, h95⟩ := hf
        have h95' : ((c.toNat : Int) != 95) = true := by rw [bne_iff_ne]; exact of_decide_eq_false h95
        clear hpl hcd h95
        go_wp2_with (first | (go_at_call 67; refine (sDigit_calls c _).mono ?_; rintro e w1 ⟨rfl, rfl⟩) | (go_at_call 68; refine (sLetter_calls c _).mono ?_; rintro e w1 ⟨rfl, rfl⟩))
        go_ret
        exact ⟨by rw [HF.out]; rfl, rfl⟩
    · have hie : i = l.length := by omega
      have HA : Hid (l.all Dm.isPlain = true) := Lib.hid (by have := HP.out; rw [hie, List.take_of_length_le (Nat.le_refl _)] at this; exact this)
      have hnl : ¬ (i : Int) < (l.length : Int) := by omega
      clear hie
      go_wp2_with fail
      go_ret
      exact ⟨by rw [HA.out]; rfl, rfl⟩

theorem dec_len_le (u : Nat) (h : u ≤ 1000000000000000) : (Lib.decDigits u).length ≤ u + 1 := Dm.digits_len u
theorem bs_add (l m : List UInt8) : bs l ++ bs m = bs (l ++ m) := by
  apply ByteArray.ext
  simp [bs, ByteArray.data_append]
theorem itoa_calls (u : Nat) (hu : u ≤ 1000000000000000) (w : World) (hT : StrIs w) :
    Calls Tryz.prog 69 #[.int .i64 u] w fun e w' => e = .returned (.string (bs (Lib.decDigits u))) ∧ Below w.heap.size w w' :=
  strconv_Itoa.calls (T_ := StrIs) (u : Int) _ w hT (by unfold strconv_Itoa.f; rw [if_pos (by omega), Dm.itoa_nat])

set_option maxHeartbeats 2000000 in
set_option maxRecDepth 100000 in
theorem counted_calls (l : List UInt8) (w : World) (hl : l.length ≤ 1000000000000000) (hT : StrIs w) :
    Calls Tryz.prog 54 #[.string (bs l)] w fun e w' => e = .returned (.string (bs (Dm.counted l))) ∧ Below w.heap.size w w' := by
  have HI := Lib.hid (fun w hT => itoa_calls l.length hl w hT)
  have hd0 := dec_len_le l.length hl
  have hz := bs_size l
  have hzd := bs_size (Lib.decDigits l.length)
  have ht0 : ∀ m, (bs m).toList = m := fun m => by simp [bs]
  go_enter Tryz.func54, Tryz.ntmps54
  go_upto_region 2 with (fail)
  go_cut [15] from 4 to 14 (fun v wc => v = .bool (decide (Dm.sep l = [95])) ∧ w = wc)
  case first =>
    cases l with
    | nil =>
      go_wp2_with fail
      go_meet
      case rel => exact ⟨rfl, rfl⟩
    | cons c r =>
      by_cases hd : Dm.isDig c = true
      · have HD : Hid (decide (Dm.sep (c :: r) = [95]) = true) := Lib.hid (decide_eq_true (by simp only [Dm.sep]; rw [if_pos (.inl hd)]))
        go_wp2_with (go_at_call 67; refine (sDigit_calls c _).mono ?_; rintro e w1 ⟨rfl, rfl⟩)
        go_meet
        case rel => exact ⟨by rw [HD.out], rfl⟩
      · have hd' : Dm.isDig c = false := by simpa using hd
        by_cases h95 : c = 95
        · have HD : Hid (decide (Dm.sep (c :: r) = [95]) = true) := Lib.hid (decide_eq_true (by simp only [Dm.sep]; rw [if_pos (.inr h95)]))
          have n95 : ((c.toNat : Int) == 95) = true := by rw [h95]; rfl
          clear hd h95
          go_wp2_with (go_at_call 67; refine (sDigit_calls c _).mono ?_; rintro e w1 ⟨rfl, rfl⟩)
          go_meet
          case rel => exact ⟨by rw [HD.out], rfl⟩
        · have HD : Hid (decide (Dm.sep (c :: r) = [95]) = false) := Lib.hid (decide_eq_false (by simp only [Dm.sep]; rw [if_neg (by rintro (h | h); exact hd h; exact h95 h)]; simp))
          have n95 : ((c.toNat : Int) == 95) = false := by rw [beq_eq_false_iff_ne]; exact fun e => h95 (c95 e)
          clear hd h95
          go_wp2_with (go_at_call 67; refine (sDigit_calls c _).mono ?_; rintro e w1 ⟨rfl, rfl⟩)
          go_meet
          case rel => exact ⟨by rw [HD.out], rfl⟩
  case rest =>
    obtain ⟨rfl, rfl⟩ := hcut
    have hb1 : (Lib.decDigits l.length).length + l.length + 1 ≤ 9223372036854775807 := by omega
    by_cases hs : Dm.sep l = [95]
    · have hsd : decide (Dm.sep l = [95]) = true := decide_eq_true hs
      have HS := Lib.hid hs
      rw [hsd]
      clear hs hsd
      go_wp2_with (go_at_call 69; refine (HI.out _ hT).mono ?_; rintro e w1 ⟨rfl, hb⟩)
      go_ret
      refine ⟨?_, hb⟩
      have e : bs (Lib.decDigits l.length) ++ (⟨#[95]⟩ : ByteArray) ++ bs l = bs (Dm.counted l) := by
        show bs _ ++ bs [95] ++ bs l = _
        rw [bs_add, bs_add]; unfold Dm.counted; rw [HS.out]
      rw [← e]; rfl
    · have hsd : decide (Dm.sep l = [95]) = false := decide_eq_false hs
      have HS : Hid (Dm.sep l = []) := Lib.hid (by
        cases l with
        | nil => rfl
        | cons c r =>
          simp only [Dm.sep] at hs ⊢
          by_cases h : Dm.isDig c = true ∨ c = 95
          · rw [if_pos h] at hs; exact absurd rfl hs
          · rw [if_neg h])
      rw [hsd]
      clear hs hsd
      go_wp2_with (go_at_call 69; refine (HI.out _ hT).mono ?_; rintro e w1 ⟨rfl, hb⟩)
      go_ret
      refine ⟨?_, hb⟩
      have e : bs (Lib.decDigits l.length) ++ (⟨#[]⟩ : ByteArray) ++ bs l = bs (Dm.counted l) := by
        show bs _ ++ bs [] ++ bs l = _
        rw [bs_add, bs_add]; unfold Dm.counted; rw [HS.out]
      rw [← e]; rfl

set_option maxHeartbeats 2000000 in
set_option maxRecDepth 100000 in
theorem written_calls (l : List UInt8) (w : World) (hl : l.length ≤ 1000000000000000) (hp : l.all Dm.isPlain = true) (hT : StrIs w) :
    Calls Tryz.prog 40 #[.string (bs l)] w fun e w' => e = .returned (.string (bs (Dm.written l))) ∧ Below w.heap.size w w' := by
  have ht0 : ∀ m, (bs m).toList = m := fun m => by simp [bs]
  cases l with
  | nil =>
    go_enter Tryz.func40, Tryz.ntmps40
    go_wp2_with fail
    go_ret
    exact ⟨rfl, Below.refl _ _⟩
  | cons c r =>
    have HP := Lib.hid (isPlain_calls (c :: r) w (by omega))
    rw [hp] at HP
    have HC := Lib.hid (counted_calls (c :: r) w hl hT)
    have HE : Hid (Dm.written (c :: r) = Dm.counted (c :: r)) := Lib.hid (by unfold Dm.written; rw [if_neg (by simp)])
    clear hp hl
    go_enter Tryz.func40, Tryz.ntmps40
    go_wp2_with (first | (go_at_call 53; refine HP.out.mono ?_; rintro e w1 ⟨rfl, rfl⟩) | (go_at_call 54; refine HC.out.mono ?_; rintro e w1 ⟨rfl, hb⟩))
    go_ret
    exact ⟨by rw [HE.out]; rfl, hb⟩
end Go.Proofs.YtdmkdclockmjbaaGreatDoor
namespace Go.Proofs.YtdmkdclockmjbaaGreatDoor
set_option linter.unusedVariables false
set_option linter.unusedSimpArgs false
open Go.RowKit

def spec_IdWritten.f (a0 : ByteArray) : Option ByteArray :=
  if a0.size ≤ 1000000000000000 ∧ a0.data.toList.all Dm.isPlain = true then some (bs (Dm.written a0.data.toList)) else none

theorem spec_IdWritten.calls {T_ : World → Prop} [HasStr T_] (a0 : ByteArray) (r : ByteArray) (w : World) (hT_ : T_ w) (h : spec_IdWritten.f a0 = some r) :
    Calls Tryz.prog 40 #[.string a0] w fun e w' => e = .returned (.string r) ∧ Below w.heap.size w w' := by
  unfold spec_IdWritten.f at h
  by_cases hs : a0.size ≤ 1000000000000000 ∧ a0.data.toList.all Dm.isPlain = true
  · rw [if_pos hs] at h
    injection h with h
    subst h
    have hc := written_calls a0.data.toList w (by rw [Array.length_toList]; exact hs.1) hs.2 (HasStr.str hT_)
    have e : bs a0.data.toList = a0 := by apply ByteArray.ext; show a0.data.toList.toArray = a0.data; simp
    rw [e] at hc
    exact hc
  · rw [if_neg hs] at h; cases h
end Go.Proofs.YtdmkdclockmjbaaGreatDoor
namespace Go.Proofs.YtdmkdclockmjbaaGreatDoor
set_option linter.unusedVariables false
set_option linter.unusedSimpArgs false
open Go.RowKit Go.Proofs.YtdmkdclockmjbaaGreatDoorW.PrintWords Go.Proofs.YtdmkdclockmjbaaGreatDoorW.PrintMore
attribute [local go_sem] max2_int min2_int max_two min_two max_three min_three max_four min_four

theorem idCut_at (A : Option Addr) (n c : Nat) (j : Int) (V : Value) (w : World)
    (hcut : ∀ W : World, (Instr.slice 22 (.slice A n c) none (some (.int .i64 j)) none).run Tryz.prog W = .ok V W) (hj : mn (n : Int) 1000 = j) :
    Calls Tryz.prog 15 #[.slice A n c] w fun e w' => e = .returned V ∧ w' = w := by
  have hj2 : (if 1000 < (n : Int) then 1000 else (n : Int)) = j := hj
  go_enter Tryz.func15, Tryz.ntmps15
  go_wp2
  go_ret
  exact ⟨rfl, rfl⟩
end Go.Proofs.YtdmkdclockmjbaaGreatDoor
namespace Go.Proofs.YtdmkdclockmjbaaGreatDoor
set_option linter.unusedVariables false
set_option linter.unusedSimpArgs false
open Go.RowKit Go.Proofs.YtdmkdclockmjbaaGreatDoorW.PrintWords

theorem bs_of (s : ByteArray) : ∃ l, s = bs l ∧ l.length = s.size := ⟨s.data.toList, by
  apply ByteArray.ext
  show s.data = s.data.toList.toArray
  simp, by rw [Array.length_toList]; rfl⟩
theorem bs_inj {l m : List UInt8} (h : bs l = bs m) : l = m := by
  have := congrArg (fun s => s.data.toList) h
  simpa [bs] using this
theorem bs_tl (l : List UInt8) : (bs l).toList = l := by simp [bs]
theorem bs_dl (l : List UInt8) : (bs l).data.toList = l := by simp [bs]
theorem bt_bs (l : List UInt8) (k : Nat) (h : k < l.length) : bt (bs l) (k : Int) = (l[k].toNat : Int) := by
  unfold bt
  rw [dif_pos (by rw [bs_size]; simpa using h)]
  simp only [Int.toNat_natCast]
  rfl
theorem bt_zero (c : UInt8) (r : List UInt8) : bt (bs (c :: r)) 0 = (c.toNat : Int) := bt_bs (c :: r) 0 (by simp)
theorem bt_one (c d : UInt8) (r : List UInt8) : bt (bs (c :: d :: r)) 1 = (d.toNat : Int) := bt_bs (c :: d :: r) 1 (by simp)
theorem bt_drop {l t : List UInt8} {k : Nat} {c : UInt8} (h : l.drop k = c :: t) : bt (bs l) (k : Int) = (c.toNat : Int) := by
  have hk : k < l.length := by
    rcases Nat.lt_or_ge k l.length with h' | h'
    · exact h'
    · rw [List.drop_eq_nil_of_le h'] at h; cases h
  rw [bt_bs l k hk]
  rw [List.drop_eq_getElem_cons hk] at h
  injection h with h1 _
  rw [h1]
theorem bs_ex (l : List UInt8) (k : Nat) : (bs l).extract k (bs l).size = bs (l.drop k) := by rw [bs_size]; exact bs_extract l k
theorem bs_empty : (⟨#[]⟩ : ByteArray) = bs [] := rfl
theorem bs_one (c : UInt8) : (⟨#[c]⟩ : ByteArray) = bs [c] := rfl
theorem wrap_id {x : Int} (h0 : -9223372036854775808 ≤ x) (h1 : x ≤ 9223372036854775807) : wrap64 x = x := by
  unfold wrap64; omega
end Go.Proofs.YtdmkdclockmjbaaGreatDoor
namespace Go.Proofs.YtdmkdclockmjbaaGreatDoor
set_option linter.unusedVariables false
set_option linter.unusedSimpArgs false
open Go.RowKit Go.Proofs.YtdmkdclockmjbaaGreatDoorW.PrintWords Go.Proofs.YtdmkdclockmjbaaGreatDoorW.PrintMore
open Go.ChangeShapes Go.WideShapes Go.ChangeAt

theorem rowsC {H : Type} {enc : TypeId × Value → H} {P : Program} {W : World} {base : Nat} {t e q : TypeId} {k : IntKind} {a : Option Addr} {len cap : Nat} {d : DataW H} {ps : List MemPlace}
    (ht : P.underlying t = some (.slice e)) (he : P.underlying e = some (.slice q)) (hq : P.underlying q = some (.int k)) (ce : P.cellsOf e = 1) (cq : P.cellsOf q = 1) (n : Nat)
    (h : DataW.Trod enc P W base (fun _ => true) true t (.slice a len cap) d ps) :
    ∃ l : List (List Int), len = l.length ∧ (Kd.slice n (Kd.int k)).C W a l.length l ∧ l.length ≤ maxLen ∧ (∀ r ∈ l, r.length ≤ maxLen ∧ ∀ x ∈ r, (Lit.int k x).wf = true) ∧ l.length ≤ cap := by
  obtain ⟨fuel, hf⟩ := h
  rcases Deep.open_int_rows ht he hq ce cq hf with ⟨hcs, _⟩ | ⟨x, ln, cp, A, L, C, Z, hcs, _, hl, hm, _, hrow⟩
  · simp [Value.cells] at hcs
    obtain ⟨rfl, rfl, rfl⟩ := hcs
    exact ⟨[], rfl, Kd.C_nil _ _, by simp, by simp, by simp⟩
  · simp [Value.cells] at hcs
    obtain ⟨rfl, rfl, rfl⟩ := hcs
    have hlen : ((List.range len).map fun r => (Z r).take (L r)).length = len := by simp
    have hml : maxLen ≤ 9223372036854775807 := by decide
    refine ⟨(List.range len).map fun r => (Z r).take (L r), hlen.symm, ?_, by omega, ?_, by omega⟩
    · refine ⟨rfl, by omega, fun _ => ⟨x, rfl, fun j p hj => ?_⟩⟩
      obtain ⟨hj1, hj2⟩ := List.getElem?_eq_some_iff.1 hj
      rw [hlen] at hj1
      rw [List.getElem_map, List.getElem_range] at hj2
      subst hj2
      obtain ⟨h1, h2, h3, h4, _, h6, h7⟩ := hrow j (by omega)
      have hn : ((Z j).take (L j)).length = L j := by rw [List.length_take]; omega
      refine ⟨[.slice (A j) ((Z j).take (L j)).length (C j)], rfl, ⟨A j, C j, rfl, by omega, rfl, by omega, fun h0 => ?_⟩, fun i u hu => ?_⟩
      · cases hA : A j with
        | none => have := h6 hA; omega
        | some a' =>
          obtain ⟨_, hc⟩ := h7 a' hA
          refine ⟨a', rfl, fun i y hy => ⟨[.int k y], rfl, rfl, fun i2 u hu => ?_⟩⟩
          obtain ⟨hy1, hy2⟩ := List.getElem?_eq_some_iff.1 hy
          rw [List.getElem_take] at hy2
          have hi2 : i2 = 0 := by
            have := (List.getElem?_eq_some_iff.1 hu).1; simp at this; exact this
          subst hi2
          simp at hu
          subst hu
          have := hc i (by omega)
          rw [List.getD_eq_getElem?_getD, List.getElem?_eq_getElem (by omega)] at this
          show W.cell? (a'.add (i * 1 + 0)) = _
          rw [Nat.mul_one, Nat.add_zero, this, ← hy2]; rfl
      · have hi2 : i = 0 := by
          have := (List.getElem?_eq_some_iff.1 hu).1; simp at this; exact this
        subst hi2
        simp at hu
        subst hu
        show W.cell? (x.add (j * 1 + 0)) = _
        rw [Nat.mul_one, Nat.add_zero, h1]
        congr 2
        omega
    · intro r hr
      rw [List.mem_map] at hr
      obtain ⟨j, hj, rfl⟩ := hr
      rw [List.mem_range] at hj
      obtain ⟨_, h2, h3, h4, h5, _, _⟩ := hrow j (by omega)
      exact ⟨by rw [List.length_take]; omega, fun y hy => h5 y (List.mem_of_mem_take hy)⟩
end Go.Proofs.YtdmkdclockmjbaaGreatDoor
