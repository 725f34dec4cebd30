/- Contracts of the reader's smallest functions. -/
import Derived.Test.YtaegllbokgjoeaaDoorSt
import Derived.Test.YtaegllbokgjoeaaDoorDm
import Derived.Handy
import Derived.Outline
import Derived.Lib.IndexBytes
import Derived.Lib.Hide
namespace Go.Proofs.YtaegllbokgjoeaaDoor
set_option linter.unusedVariables false
set_option linter.unusedSimpArgs false
open Go.RowKit

theorem fail_calls (b : Nat) (s : RS) (m : ByteArray) (w : World) (h : RustAt b s w) :
    Calls Tryd.prog 28 #[.pointer (some ⟨b, 0, none⟩), .string m] w fun e w' => Fails b w e w' := by
  have h2 := h.c2
  go_enter Tryd.func28, Tryd.ntmps28
  go_wp2
  exact ⟨rfl, ⟨_, _, rfl⟩, Fr.refl _ _⟩

theorem fail_same (b : Nat) (s : RS) (m : ByteArray) (w : World) (h : RustAt b s w) :
    Calls Tryd.prog 28 #[.pointer (some ⟨b, 0, none⟩), .string m] w fun e w' => (∃ m o, e = .panicked [{ v := .iface 57 (.agg #[.string m, .int .i64 o]), recovered := false }]) ∧ w = w' := by
  have h2 := h.c2
  go_enter Tryd.func28, Tryd.ntmps28
  go_wp2
  exact ⟨rfl, ⟨_, _, rfl⟩, rfl⟩

theorem bs_extract (l : List UInt8) (n : Nat) : (bs l).extract n l.length = bs (l.drop n) := by
  apply ByteArray.ext
  simp [bs, ByteArray.data_extract]
  rw [List.take_of_length_le (by simp)]
@[go_sem] theorem bs_zero (c : UInt8) (r : List UInt8) (h : 0 < (bs (c :: r)).size) : (bs (c :: r))[0]'h = c := rfl
theorem bs_take (l : List UInt8) (n : Nat) : (bs l).extract 0 n = bs (l.take n) := by
  apply ByteArray.ext
  simp [bs, ByteArray.data_extract]

theorem advance_calls (b : Nat) (s : RS) (n : Nat) (w : World) (h : RustAt b s w) (hn : n ≤ s.str.length) :
    Calls Tryd.prog 30 #[.pointer (some ⟨b, 0, none⟩), .int .i64 n] w fun e w' =>
      e = .returned (.tuple #[]) ∧ RustAt b (s.adv (s.str.drop n)) w' ∧ Fr b w w' := by
  have h1 := h.c1
  have h2 := h.c2
  have f1 := h.frozen 1
  have f2 := h.frozen 2
  obtain ⟨o0, o1⟩ := h.1
  have hz := bs_size s.str
  go_enter Tryd.func30, Tryd.ntmps30
  go_wp2
  go_end0
  rw [bs_extract]
  refine ⟨rfl, ?_, rust_below_set (rust_below_set (Fr.refl _ _) _ _) _ _⟩
  refine RustAt.set (s := { s with str := s.str.drop n }) (h.set (s' := { s with str := s.str.drop n }) 1 _ (fun _ _ => rfl) rfl ?_) 2 _ (fun _ _ => ?_) rfl ?_
  · simp; omega
  · have e : ((s.str.length : Int) - ((s.str.drop n).length : Int)) = n := by simp; omega
    simp only [RS.adv, RS.cells, e]; rfl
  · simp [RS.adv]; omega

theorem dec_step (c : UInt8) (r : List UInt8) (v : Int) (h : Dm.isDig c = true) (hv : ¬ v ≥ 214748364 - ((c.toNat : Int) - 48)) :
    Dm.dec v (c :: r) = Dm.dec (v * 10 + ((c.toNat : Int) - 48)) r := by
  rw [Dm.dec, if_pos h, if_neg hv]

/-! ### numbers in base 62 -/
--@end
def B62Post (b : Nat) (s : RS) (w : World) (e : Ending) (w' : World) : Prop :=
  match Dm.base62 s.str with
  | some (n, r) => e = .returned (.int .i64 n) ∧ RustAt b (s.adv r) w' ∧ Fr b w w'
  | none => Fails b w e w'

theorem b62_post {b : Nat} {s : RS} {w w' : World} {n : Int} {r : List UInt8} (h : Dm.base62 s.str = some (n, r)) (h1 : RustAt b (s.adv r) w') (h2 : Fr b w w') :
    B62Post b s w (.returned (.int .i64 n)) w' := by
  unfold B62Post; rw [h]; exact ⟨rfl, h1, h2⟩
theorem b62_fails {b : Nat} {s : RS} {w w' : World} {e : Ending} (h : Dm.base62 s.str = none) (h1 : Fails b w e w') : B62Post b s w e w' := by
  unfold B62Post; rw [h]; exact h1

def B62Rel (b : Nat) (s : RS) (w : World) (v : Value) (wr : World) : Prop :=
  ∃ (x : Int) (r : List UInt8), v = .int .i64 x ∧ Dm.b62 x r = Dm.base62 s.str ∧ RustAt b (s.adv r) wr ∧ Fr b w wr

theorem toNat_eq {c : UInt8} {n : Nat} (hn : n < 256) : (((c.toNat : Int) == (n : Int)) = true) ↔ c = UInt8.ofNat n := by
  rw [beq_iff_eq]
  constructor
  · intro h
    have : c.toNat = n := by omega
    rw [← this]; simp
  · rintro rfl
    simp; omega

/-- The loop's round at a digit: what the reader comes to. -/
theorem b62_step {x d : Int} {c : UInt8} {r : List UInt8} (hc : c ≠ 95) (hd : Dm.dig62 c = some d) : Dm.b62 x (c :: r) = Dm.b62 (wrap64 (wrap64 (x * 62) + d)) r := by
  rw [Dm.b62, if_neg hc, hd]
theorem b62_none {x : Int} {c : UInt8} {r : List UInt8} (hc : c ≠ 95) (hd : Dm.dig62 c = none) : Dm.b62 x (c :: r) = none := by
  rw [Dm.b62, if_neg hc, hd]
theorem b62_end {x : Int} {r : List UInt8} : Dm.b62 x (95 :: r) = some (wrap64 (x + 1), r) := by
  rw [Dm.b62, if_pos rfl]

set_option maxHeartbeats 4000000 in
theorem base62Number_calls (b : Nat) (s : RS) (w : World) (h : RustAt b s w) :
    Calls Tryd.prog 37 #[.pointer (some ⟨b, 0, none⟩)] w fun e w' => B62Post b s w e w' := by
  have h1 := h.c1
  by_cases hu : s.str.head? = some 95
  · obtain ⟨r, hr⟩ : ∃ r, s.str = 95 :: r := by
      cases hs : s.str with
      | nil => rw [hs] at hu; cases hu
      | cons c r => rw [hs] at hu; cases hu; exact ⟨r, rfl⟩
    have hp : Hid (Dm.base62 s.str = some (0, r)) := Lib.hid (by rw [hr]; rfl)
    have hdr : Hid (s.str.drop 1 = r) := Lib.hid (by rw [hr]; rfl)
    have hl : 1 ≤ s.str.length := by rw [hr]; simp
    rw [hr] at h1
    have hz := bs_size (95 :: r)
    have had := advance_calls b s 1 w h hl
    clear hr hu
    go_enter Tryd.func37, Tryd.ntmps37
    go_wp2_with (go_at_call 30; refine had.mono ?_; rintro e w1 ⟨rfl, hr1, hb1⟩)
    go_ret
    rw [hdr.out] at hr1
    exact b62_post hp.out hr1 hb1
  · have HB : Hid (Dm.b62 0 s.str = Dm.base62 s.str) := Lib.hid (by
      cases hs : s.str with
      | nil => rfl
      | cons c r => rw [hs] at hu; simp only [List.head?_cons, Option.some.injEq] at hu; rw [Dm.base62, if_neg hu])
    have hgu : s.str = [] ∨ ∃ c r, s.str = c :: r ∧ ((c.toNat : Int) == 95) = false := by
      cases hs : s.str with
      | nil => exact .inl rfl
      | cons c r =>
        rw [hs] at hu
        simp only [List.head?_cons, Option.some.injEq] at hu
        refine .inr ⟨c, r, rfl, ?_⟩
        rw [beq_eq_false_iff_ne]
        intro e
        exact hu ((toNat_eq (n := 95) (by omega)).1 (by rw [e]; rfl))
    clear hu
    have hat : RustAt b (s.adv s.str) w := by rw [RS.adv_self]; exact h
    rcases hgu with hs | ⟨c, r, hs, hc⟩
    all_goals
      rw [hs] at h1
      have hz := bs_size s.str
      rw [hs] at hz
      clear hs h
      go_enter Tryd.func37, Tryd.ntmps37
      go_wp2_with fail
      clear h1 hz
      go_loopw [3] (fun v wr => B62Rel b s w v wr) (fun _ wr => strLen b wr)
      case atStart => exact ⟨0, s.str, rfl, HB.out, hat, Fr.refl _ _⟩
      case round =>
        obtain ⟨x, r, rfl, hx, hr, hb⟩ := hrel
        have h1 := hr.c1
        rw [RS.adv_str] at h1
        have hz := bs_size r
        have hm := Lib.hid hr.strLen
        cases r with
        | nil =>
          have Hx : Hid (Dm.base62 s.str = none) := Lib.hid (by rw [← hx]; rfl)
          clear hx
          go_wp2_with (go_at_call 28; refine (fail_calls b _ _ _ hr).mono ?_; rintro e w1 ⟨⟨m, o, rfl⟩, hb1⟩)
          exact ⟨rfl, b62_fails Hx.out ⟨⟨m, o, rfl⟩, hb.trans hb1⟩⟩
        | cons c r =>
          have had := advance_calls b _ 1 wr hr (by simp [RS.adv_str])
          have hc := UInt8.toNat_lt c
          by_cases h95 : c = 95
          · subst h95
            have Hx : Hid (Dm.base62 s.str = some (wrap64 (x + 1), r)) := Lib.hid (by rw [← hx, b62_end])
            clear hx
            go_wp2_with (go_at_call 30; refine had.mono ?_; rintro e w1 ⟨rfl, hr1, hb1⟩)
            go_ret
            rw [RS.adv_adv] at hr1
            exact b62_post Hx.out hr1 (hb.trans hb1)
          · have hn : ((c.toNat : Int) == 95) = false := by
              rw [beq_eq_false_iff_ne]; intro e; exact h95 ((toNat_eq (n := 95) (by omega)).1 (by rw [e]; rfl))
            have hcs : (∃ d, Dm.dig62 c = some d ∧ 48 ≤ (c.toNat : Int) ∧ (c.toNat : Int) ≤ 57 ∧ d = (c.toNat : Int) - 48) ∨ (∃ d, Dm.dig62 c = some d ∧ 97 ≤ (c.toNat : Int) ∧ (c.toNat : Int) ≤ 122 ∧ d = (c.toNat : Int) - 97 + 10) ∨
                (∃ d, Dm.dig62 c = some d ∧ 65 ≤ (c.toNat : Int) ∧ (c.toNat : Int) ≤ 90 ∧ d = (c.toNat : Int) - 65 + 36) ∨
                (Dm.dig62 c = none ∧ ((c.toNat : Int) < 48 ∨ 57 < (c.toNat : Int)) ∧ ((c.toNat : Int) < 65 ∨ 90 < (c.toNat : Int)) ∧ ((c.toNat : Int) < 97 ∨ 122 < (c.toNat : Int))) := by
              unfold Dm.dig62
              by_cases a1 : 48 ≤ (c.toNat : Int) ∧ (c.toNat : Int) ≤ 57
              · rw [if_pos a1]; exact .inl ⟨_, rfl, a1.1, a1.2, rfl⟩
              · rw [if_neg a1]
                by_cases a2 : 97 ≤ (c.toNat : Int) ∧ (c.toNat : Int) ≤ 122
                · rw [if_pos a2]; exact .inr (.inl ⟨_, rfl, a2.1, a2.2, by omega⟩)
                · rw [if_neg a2]
                  by_cases a3 : 65 ≤ (c.toNat : Int) ∧ (c.toNat : Int) ≤ 90
                  · rw [if_pos a3]; exact .inr (.inr (.inl ⟨_, rfl, a3.1, a3.2, by omega⟩))
                  · rw [if_neg a3]; exact .inr (.inr (.inr ⟨rfl, by omega, by omega, by omega⟩))
            rcases hcs with ⟨d, hd, a1, a2, a3⟩ | ⟨d, hd, a1, a2, a3⟩ | ⟨d, hd, a1, a2, a3⟩ | ⟨hd, a1, a2, a3⟩
            · have Hx : Hid (Dm.b62 (wrap64 (wrap64 (x * 62) + ((c.toNat : Int) - 48))) r = Dm.base62 s.str) := Lib.hid (by rw [← hx, b62_step h95 hd, a3])
              clear hx hd a3 h95
              go_wp2_with (go_at_call 30; refine had.mono ?_; rintro e w1 ⟨rfl, hr1, hb1⟩)
              rw [RS.adv_adv] at hr1
              go_roundw
              case rel => exact ⟨_, r, rfl, Hx.out, hr1, hb.trans hb1⟩
              case measure => rw [hr1.strLen, hm.out]; simp [RS.adv_str]
            · have Hx : Hid (Dm.b62 (wrap64 (wrap64 (x * 62) + ((c.toNat : Int) - 97 + 10))) r = Dm.base62 s.str) := Lib.hid (by rw [← hx, b62_step h95 hd, a3])
              clear hx hd a3 h95
              go_wp2_with (go_at_call 30; refine had.mono ?_; rintro e w1 ⟨rfl, hr1, hb1⟩)
              rw [RS.adv_adv] at hr1
              go_roundw
              case rel => exact ⟨_, r, rfl, Hx.out, hr1, hb.trans hb1⟩
              case measure => rw [hr1.strLen, hm.out]; simp [RS.adv_str]
            · have Hx : Hid (Dm.b62 (wrap64 (wrap64 (x * 62) + ((c.toNat : Int) - 65 + 36))) r = Dm.base62 s.str) := Lib.hid (by rw [← hx, b62_step h95 hd, a3])
              clear hx hd a3 h95
              go_wp2_with (go_at_call 30; refine had.mono ?_; rintro e w1 ⟨rfl, hr1, hb1⟩)
              rw [RS.adv_adv] at hr1
              go_roundw
              case rel => exact ⟨_, r, rfl, Hx.out, hr1, hb.trans hb1⟩
              case measure => rw [hr1.strLen, hm.out]; simp [RS.adv_str]
            · have Hx : Hid (Dm.base62 s.str = none) := Lib.hid (by rw [← hx, b62_none h95 hd])
              clear hx hd h95
              go_wp2_with (first | (go_at_call 30; refine had.mono ?_; rintro e w1 ⟨rfl, hr1, hb1⟩) | (go_at_call 28; refine (fail_calls b _ _ _ hr1).mono ?_; rintro e w2 ⟨⟨m, o, rfl⟩, hb2⟩))
              all_goals exact ⟨rfl, b62_fails Hx.out ⟨⟨m, o, rfl⟩, (hb.trans hb1).trans hb2⟩⟩

end Go.Proofs.YtaegllbokgjoeaaDoor
