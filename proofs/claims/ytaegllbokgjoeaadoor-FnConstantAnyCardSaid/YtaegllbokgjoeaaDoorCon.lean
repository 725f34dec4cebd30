/- The reader's constants: demangleConst. -/
import Derived.Test.YtaegllbokgjoeaaDoorDmC
import Derived.Test.YtaegllbokgjoeaaDoorFmtU
import Derived.Test.YtaegllbokgjoeaaDoorWr
import Derived.Deep.DeepCutAuto
import Derived.Deep.CutBlock
import Derived.Deep.RegionWith
namespace Go.Proofs.YtaegllbokgjoeaaDoor
set_option linter.unusedVariables false
set_option linter.unusedSimpArgs false
open Go.RowKit

/-- Written on, without a limit. -/
def RS.wr (s : RS) (t : List UInt8) (l : Int) : RS := { s with out := s.out ++ t, last := l }
theorem putByte_free {s : RS} (h1 : s.skip = false) (h2 : s.mx = 0) (c : UInt8) : s.putByte c = s.wr [c] c.toNat := by
  unfold RS.putByte RS.wr
  rw [if_neg (by rw [h1]; simp), if_neg (by omega)]
theorem putStr_free {s : RS} (h1 : s.skip = false) (h2 : s.mx = 0) (t : List UInt8) : ∃ l, s.putStr t = s.wr t l := by
  unfold RS.putStr RS.wr
  rw [if_neg (by rw [h1]; simp), if_neg (by omega)]
  cases hg : t.getLast? with
  | none => rw [List.getLast?_eq_none_iff] at hg; subst hg; exact ⟨s.last, by simp⟩
  | some c => exact ⟨c.toNat, rfl⟩
theorem adv_wr (s : RS) (t : List UInt8) (l : Int) (r : List UInt8) : (s.wr t l).adv r = (s.adv r).wr t l := rfl
theorem wr_wr (s : RS) (t u : List UInt8) (l m : Int) : (s.wr t l).wr u m = s.wr (t ++ u) m := by unfold RS.wr; simp

/-- The state has read up to r and written t more, without a limit. -/
def At (b : Nat) (s : RS) (r t : List UInt8) (w : World) : Prop := s.skip = false ∧ s.mx = 0 ∧ ∃ l, RustAt b ((s.adv r).wr t l) w
theorem At.init {b : Nat} {s : RS} {w : World} (h1 : s.skip = false) (h2 : s.mx = 0) (h : RustAt b s w) : At b s s.str [] w :=
  ⟨h1, h2, s.last, by
    have e : (s.adv s.str).wr [] s.last = s := by rw [RS.adv_self]; unfold RS.wr; simp
    rw [e]; exact h⟩
theorem At.c1 {b : Nat} {s : RS} {r t : List UInt8} {w : World} (h : At b s r t w) : w.cell? ⟨b, 1, none⟩ = some (.string (bs r)) := by
  obtain ⟨_, _, l, h⟩ := h
  exact h.c1
theorem At.c5 {b : Nat} {s : RS} {r t : List UInt8} {w : World} (h : At b s r t w) : w.cell? ⟨b, 5, none⟩ = some (.bool false) := by
  obtain ⟨h1, _, l, h⟩ := h
  have := h.c5
  rw [show ((s.adv r).wr t l).skip = false from h1] at this
  exact this
theorem At.strLen {b : Nat} {s : RS} {r t : List UInt8} {w : World} (h : At b s r t w) : strLen b w = r.length := by
  obtain ⟨_, _, l, h⟩ := h
  exact h.strLen
theorem At.lt {b : Nat} {s : RS} {r t : List UInt8} {w : World} (h : At b s r t w) : b < w.heap.size := by
  obtain ⟨_, _, l, h⟩ := h
  exact h.lt
theorem at_adv {b : Nat} {s : RS} {c : UInt8} {r t : List UInt8} {w : World} (h : At b s (c :: r) t w) :
    Calls Tryd.prog 30 #[.pointer (some ⟨b, 0, none⟩), .int .i64 1] w fun e w' => e = .returned (.tuple #[]) ∧ At b s r t w' ∧ Fr b w w' := by
  obtain ⟨h1, h2, l, h⟩ := h
  refine (advance_calls b _ 1 w h (by show 1 ≤ (((s.adv (c :: r)).wr t l).str).length; simp [RS.wr, RS.adv])).mono ?_
  rintro e w' ⟨rfl, hr, hb⟩
  refine ⟨rfl, ⟨h1, h2, l, ?_⟩, hb⟩
  have e : ((s.adv (c :: r)).wr t l).adv (((s.adv (c :: r)).wr t l).str.drop 1) = (s.adv r).wr t l := by
    rw [adv_wr]
    show ((s.adv (c :: r)).adv r).wr t l = _
    rw [RS.adv_adv]
  rw [e] at hr
  exact hr
theorem at_byte {b : Nat} {s : RS} {r t : List UInt8} {w : World} (h : At b s r t w) (c : UInt8) (hlen : s.out.length + t.length + 1 ≤ 140737488355328) :
    Calls Tryd.prog 31 #[.pointer (some ⟨b, 0, none⟩), .int .u8 c.toNat] w fun e w' => e = .returned (.tuple #[]) ∧ At b s r (t ++ [c]) w' ∧ Fr b w w' := by
  obtain ⟨h1, h2, l, h⟩ := h
  refine (writeByte_calls b _ c w h (by show (s.out ++ t).length + 1 ≤ _; rw [List.length_append]; omega)).mono ?_
  rintro e w' ⟨rfl, hr, hb⟩
  refine ⟨rfl, ⟨h1, h2, c.toNat, ?_⟩, hb⟩
  rw [putByte_free (s := (s.adv r).wr t l) h1 h2, wr_wr] at hr
  exact hr
theorem at_str {b : Nat} {s : RS} {r t : List UInt8} {w : World} (h : At b s r t w) (u : List UInt8) (hlen : s.out.length + t.length + u.length ≤ 140737488355328) :
    Calls Tryd.prog 32 #[.pointer (some ⟨b, 0, none⟩), .string (bs u)] w fun e w' => e = .returned (.tuple #[]) ∧ At b s r (t ++ u) w' ∧ Fr b w w' := by
  obtain ⟨h1, h2, l, h⟩ := h
  refine (writeStr_calls b _ u w h (by show (s.out ++ t).length + u.length ≤ _; rw [List.length_append]; omega)).mono ?_
  rintro e w' ⟨rfl, hr, hb⟩
  obtain ⟨m, hm⟩ := putStr_free (s := (s.adv r).wr t l) h1 h2 u
  refine ⟨rfl, ⟨h1, h2, m, ?_⟩, hb⟩
  rw [hm, wr_wr] at hr
  exact hr
theorem at_fail {b : Nat} {s : RS} {r t : List UInt8} {w : World} (h : At b s r t w) (m : ByteArray) :
    Calls Tryd.prog 28 #[.pointer (some ⟨b, 0, none⟩), .string m] w fun e w' => Fails b w e w' := by
  obtain ⟨_, _, l, h⟩ := h
  exact fail_calls b _ m w h
theorem RustAt.below' {b : Nat} {s : RS} {w w' : World} (h : RustAt b s w) (hb : Below w.heap.size w w') : RustAt b s w' := by
  have hlt := h.lt
  obtain ⟨hoff, p, v, hbk, hp, hown, hne⟩ := h
  exact ⟨hoff, p, v, (hb.block b hlt).trans hbk, hp, hown.kept (row := none) ⟨hb.os, hb.tape, hb.output, hb.size, fun k hk _ => hb.block k hk⟩ (by cases v.ownBlock <;> simp), hne⟩
theorem At.below {b : Nat} {s : RS} {r t : List UInt8} {w w' : World} (h : At b s r t w) (hb : Below w.heap.size w w') : At b s r t w' := by
  obtain ⟨h1, h2, l, h⟩ := h
  exact ⟨h1, h2, l, h.below' hb⟩
theorem At.drewN {b : Nat} {s : RS} {r t : List UInt8} {w : World} (h : At b s r t w) (n : Nat) : At b s r t (w.drewN n) := by
  obtain ⟨h1, h2, l, h⟩ := h
  exact ⟨h1, h2, l, h.drewN n⟩
/-- The builder's own write, and the last byte. -/
theorem at_bld {b : Nat} {s : RS} {r t : List UInt8} {w : World} (h : At b s r t w) (u : List UInt8) (hlen : s.out.length + t.length + u.length ≤ 140737488355328) :
    Calls Tryd.prog 33 #[.pointer (some ⟨b, 3, none⟩), .string (bs u)] w fun e w' => (∃ n, e = .returned (.tuple #[.int .i64 n, .nilIface])) ∧ At b s r (t ++ u) w' ∧ Fr b w w' := by
  obtain ⟨h1, h2, l, h⟩ := h
  refine (bldString_calls b _ u w h (by show (s.out ++ t).length + u.length ≤ _; rw [List.length_append]; omega)).mono ?_
  rintro e w' ⟨he, hr, hb⟩
  refine ⟨he, ⟨h1, h2, l, ?_⟩, hb⟩
  have e : ({ ((s.adv r).wr t l) with out := ((s.adv r).wr t l).out ++ u } : RS) = (s.adv r).wr (t ++ u) l := by unfold RS.wr; simp
  rw [e] at hr
  exact hr
theorem At.last {b : Nat} {s : RS} {r t : List UInt8} {w : World} (h : At b s r t w) (x : Int) : At b s r t (w.setCell ⟨b, 7, none⟩ (.int .u8 x)) := by
  obtain ⟨h1, h2, l, h⟩ := h
  exact ⟨h1, h2, x, h.setLast x⟩
theorem At.c7 {b : Nat} {s : RS} {r t : List UInt8} {w : World} (h : At b s r t w) : ∃ l, w.cell? ⟨b, 7, none⟩ = some (.int .u8 l) := by
  obtain ⟨_, _, l, h⟩ := h
  exact ⟨_, h.c7⟩
theorem At.frozen {b : Nat} {s : RS} {r t : List UInt8} {w : World} (h : At b s r t w) (j : Nat) : w.frozen? ⟨b, j, none⟩ = false := by
  obtain ⟨_, _, l, h⟩ := h
  exact h.frozen j

/-- What demangleConst leaves. -/
def ConPost (b : Nat) (c : Dm.CR) (s : RS) (w : World) (e : Ending) (w' : World) : Prop :=
  match c with
  | .told t r => e = .returned (.tuple #[]) ∧ At b s r t w' ∧ Fr b w w'
  | .bad => Fails b w e w'
  | .unsaid => True

theorem ckind_sgn {c : UInt8} (h : Dm.ckind c = 1) : c = 97 ∨ c = 115 ∨ c = 108 ∨ c = 120 ∨ c = 110 ∨ c = 105 := by
  unfold Dm.ckind at h
  split at h
  · assumption
  · split at h
    · cases h
    · split at h
      · cases h
      · split at h <;> cases h
theorem ckind_cases (c : UInt8) : (Dm.ckind c = 1 ∧ (c = 97 ∨ c = 115 ∨ c = 108 ∨ c = 120 ∨ c = 110 ∨ c = 105)) ∨ (Dm.ckind c = 2 ∧ (c = 104 ∨ c = 116 ∨ c = 109 ∨ c = 121 ∨ c = 111 ∨ c = 106)) ∨
    (Dm.ckind c = 3 ∧ c = 98) ∨ (Dm.ckind c = 4 ∧ c = 99) ∨ (Dm.ckind c = 0 ∧ (c ≠ 97 ∧ c ≠ 115 ∧ c ≠ 108 ∧ c ≠ 120 ∧ c ≠ 110 ∧ c ≠ 105) ∧ (c ≠ 104 ∧ c ≠ 116 ∧ c ≠ 109 ∧ c ≠ 121 ∧ c ≠ 111 ∧ c ≠ 106) ∧ c ≠ 98 ∧ c ≠ 99) := by
  unfold Dm.ckind
  by_cases h1 : c = 97 ∨ c = 115 ∨ c = 108 ∨ c = 120 ∨ c = 110 ∨ c = 105
  · rw [if_pos h1]; exact .inl ⟨rfl, h1⟩
  · rw [if_neg h1]
    by_cases h2 : c = 104 ∨ c = 116 ∨ c = 109 ∨ c = 121 ∨ c = 111 ∨ c = 106
    · rw [if_pos h2]; exact .inr (.inl ⟨rfl, h2⟩)
    · rw [if_neg h2]
      by_cases h3 : c = 98
      · rw [if_pos h3]; exact .inr (.inr (.inl ⟨rfl, h3⟩))
      · rw [if_neg h3]
        by_cases h4 : c = 99
        · rw [if_pos h4]; exact .inr (.inr (.inr (.inl ⟨rfl, h4⟩)))
        · rw [if_neg h4]
          simp only [not_or] at h1 h2
          exact .inr (.inr (.inr (.inr ⟨rfl, h1, h2, h3, h4⟩)))
theorem ne_byte {c : UInt8} {n : Nat} (hn : n < 256) (h : c ≠ UInt8.ofNat n) : ((c.toNat : Int) == (n : Int)) = false := by
  rw [beq_eq_false_iff_ne]; intro e; exact h ((toNat_eq hn).1 (by rw [e]; simp))

set_option maxHeartbeats 1000000 in
set_option maxRecDepth 100000 in
theorem const_empty (b : Nat) (s : RS) (w : World) (h : RustAt b s w) (hs : s.str = []) :
    Calls Tryd.prog 16 #[.pointer (some ⟨b, 0, none⟩)] w fun e w' => Fails b w e w' := by
  have h1 := h.c1
  have H := Lib.hid h
  rw [hs] at h1
  have hz := bs_size []
  clear h
  go_enter Tryd.func16, Tryd.ntmps16
  go_step3
  go_wp2_with fail
  refine (fail_calls b s _ _ H.out).mono ?_
  rintro e w' hf
  obtain ⟨⟨m, o, rfl⟩, hb⟩ := hf
  exact ⟨rfl, ⟨m, o, rfl⟩, hb⟩

set_option maxHeartbeats 1000000 in
set_option maxRecDepth 100000 in
theorem const_hole (b : Nat) (s : RS) (w : World) (h : RustAt b s w) (hk : s.skip = false) (hm : s.mx = 0) (r : List UInt8) (hs : s.str = 112 :: r) (hlen : s.out.length + 1 ≤ 140737488355328) :
    Calls Tryd.prog 16 #[.pointer (some ⟨b, 0, none⟩)] w fun e w' => e = .returned (.tuple #[]) ∧ At b s r [95] w' ∧ Fr b w w' := by
  have ha := At.init hk hm h
  rw [hs] at ha
  have h1 := ha.c1
  have hz := bs_size (112 :: r)
  have HA := Lib.hid (at_adv ha)
  clear h ha hk hm
  go_enter Tryd.func16, Tryd.ntmps16
  go_step3
  go_wp2_with fail
  refine HA.out.mono ?_
  rintro e w2 ⟨rfl, hr2, hb2⟩
  have HB := Lib.hid (at_byte hr2 95 (by rw [List.length_nil]; omega))
  clear hr2
  go_wp2_with fail
  refine HB.out.mono ?_
  rintro e w3 ⟨rfl, hr3, hb3⟩
  go_wp2_with fail
  ((try simp only [Exit.inBlock, Exit.then, Exit.noGoto_ret]); refine bodyPost_ret (results_none rfl _ _ _) rfl ?_)
  exact ⟨rfl, hr3, hb2.trans hb3⟩
end Go.Proofs.YtaegllbokgjoeaaDoor
