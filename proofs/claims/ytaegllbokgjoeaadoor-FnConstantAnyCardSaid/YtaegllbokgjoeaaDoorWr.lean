/- writeByte and writeString of the reader's state. -/
import Derived.Test.YtaegllbokgjoeaaDoorBld
import Derived.Test.YtaegllbokgjoeaaDoorCore
import Derived.Deep.QuietTactic
import Derived.BigQuiet
import Derived.IntWalk
namespace Go.Proofs.YtaegllbokgjoeaaDoor
set_option linter.unusedVariables false
set_option linter.unusedSimpArgs false
open Go.RowKit

theorem bs_last (u : List UInt8) (c : UInt8) (h : u.length < (bs (u ++ [c])).size) : (bs (u ++ [c]))[u.length]'h = c := by
  have : (u ++ [c]).toArray[u.length]? = some c := by simp
  have e : ((bs (u ++ [c])).data)[u.length]? = some c := this
  exact (Array.getElem?_eq_some_iff.1 e).2
theorem heap_drewN (w : World) (n : Nat) : (w.drewN n).heap = w.heap := by
  induction n with
  | zero => rfl
  | succ n ih => first | exact ih | rfl | simp_all [World.drewN]
theorem RustAt.drewN {b : Nat} {s : RS} {w : World} (h : RustAt b s w) (n : Nat) : RustAt b s (w.drewN n) := by
  obtain ⟨hoff, p, v, hb, hp, hown, hne⟩ := h
  refine ⟨hoff, p, v, by rw [heap_drewN]; exact hb, hp, ?_, hne⟩
  unfold World.ownsRow at hown ⊢
  rw [heap_drewN]
  exact hown
theorem len_quiet (b : Nat) (s : RS) (w : World) (h : RustAt b s w) :
    Calls Tryd.prog 38 #[.pointer (some ⟨b, 3, none⟩)] w fun e w' => e = .returned (.int .i64 s.out.length) ∧ w' = w :=
  (len_calls b s w h).mono fun e w' ⟨a, c⟩ => ⟨a, c.symm⟩
theorem below_drewN {b : Nat} {w : World} (n : Nat) : Fr b w (w.drewN n) := by
  induction n with
  | zero => exact Fr.refl b w
  | succ n ih => exact ih.drew

set_option maxHeartbeats 2000000 in
set_option maxRecDepth 100000 in
theorem writeByte_calls (b : Nat) (s : RS) (c : UInt8) (w : World) (h : RustAt b s w) (hlen : s.out.length + 1 ≤ 140737488355328) :
    Calls Tryd.prog 31 #[.pointer (some ⟨b, 0, none⟩), .int .u8 c.toNat] w fun e w' => e = .returned (.tuple #[]) ∧ RustAt b (s.putByte c) w' ∧ Fr b w w' := by
  have h5 := h.c5
  have h9 := h.c9
  have H := Lib.hid h
  cases hs : s.skip with
  | true =>
    have hp : s.putByte c = s := by unfold RS.putByte; rw [hs]; rfl
    rw [hs] at h5
    rw [hp]
    go_enter Tryd.func31, Tryd.ntmps31
    go_wp2_with fail
    ((try simp only [Exit.inBlock, Exit.then]); refine bodyPost_ret (results_none rfl _ _ _) rfl ?_)
    exact ⟨rfl, H.out, Fr.refl _ _⟩
  | false =>
    rw [hs] at h5
    have hb : ∀ (n : Nat) (s2 : RS), s.putByte c = s2 → s2 = { s with last := c.toNat, out := s.out ++ [c] } →
        Calls Tryd.prog 40 #[.pointer (some ⟨b, 3, none⟩), .int .u8 c.toNat] ((w.drewN n).setCell ⟨b, 7, none⟩ (.int .u8 c.toNat)) fun e w' => e = .returned .nilIface ∧ RustAt b (s.putByte c) w' ∧ Fr b w w' := by
      intro n s2 e1 e2
      have hl : RustAt b { s with last := c.toNat } ((w.drewN n).setCell ⟨b, 7, none⟩ (.int .u8 c.toNat)) := (h.drewN n).setLast _
      refine (bldByte_calls b { s with last := c.toNat } c _ hl hlen).mono ?_
      rintro e w' ⟨rfl, hr, hbl⟩
      exact ⟨rfl, by rw [e1, e2]; exact hr, ((below_drewN n).setCell (p := ⟨b, 7, none⟩) rfl _).trans hbl⟩
    have f5 : ∀ n, (w.drewN n).frozen? ⟨b, 5, none⟩ = false := fun n => (h.drewN n).frozen 5
    have f7 : ∀ n, (w.drewN n).frozen? ⟨b, 7, none⟩ = false := fun n => (h.drewN n).frozen 7
    have d5 : ∀ n, (w.drewN n).cell? ⟨b, 5, none⟩ = some (.bool false) := fun n => by have := (h.drewN n).c5; rw [hs] at this; exact this
    have d7 : ∀ n, (w.drewN n).cell? ⟨b, 7, none⟩ = some (.int .u8 s.last) := fun n => (h.drewN n).c7
    by_cases h0 : 0 < s.mx
    · by_cases h1 : s.mx < (s.out.length : Int)
      · have hp : s.putByte c = { s with skip := true } := by unfold RS.putByte; rw [hs, if_neg (by simp), if_pos ⟨h0, h1⟩]
        have HB := Lib.hid hb
        clear hb h
        go_enter Tryd.func31, Tryd.ntmps31
        go_wp2_with fail
        go_quiet ((go_at_call 38; exact Calls.quiet_of_same (len_quiet b s _ H.out)))
        go_wp2_with fail
        ((try simp only [Exit.inBlock, Exit.then]); refine bodyPost_ret (results_none rfl _ _ _) rfl ?_)
        rw [hp]
        exact ⟨rfl, (H.out.drewN _).setSkip true, (below_drewN _).setCell (p := ⟨b, 5, none⟩) rfl _⟩
      · have hp : s.putByte c = { s with last := c.toNat, out := s.out ++ [c] } := by unfold RS.putByte; rw [hs, if_neg (by simp), if_neg (fun z => h1 z.2)]
        have HB := Lib.hid (fun n => hb n _ hp rfl)
        clear hb h
        go_enter Tryd.func31, Tryd.ntmps31
        go_wp2_with fail
        go_quiet ((go_at_call 38; exact Calls.quiet_of_same (len_quiet b s _ H.out)))
        go_wp2_with fail
        refine (HB.out _).mono ?_
        rintro e w' ⟨rfl, hr, hbl⟩
        go_wp2_with fail
        go_end0
        exact ⟨rfl, hr, hbl⟩
    · have hp : s.putByte c = { s with last := c.toNat, out := s.out ++ [c] } := by unfold RS.putByte; rw [hs, if_neg (by simp), if_neg (fun z => h0 z.1)]
      have hd : decide (0 < s.mx) = false := decide_eq_false h0
      have HB := Lib.hid (fun n => hb n _ hp rfl)
      clear hb h
      go_enter Tryd.func31, Tryd.ntmps31
      go_wp2_with fail
      go_quiet (fail)
      go_wp2_with fail
      refine (HB.out _).mono ?_
      rintro e w' ⟨rfl, hr, hbl⟩
      go_wp2_with fail
      go_end0
      exact ⟨rfl, hr, hbl⟩
set_option maxHeartbeats 2000000 in
set_option maxRecDepth 100000 in
theorem writeStr_some (b : Nat) (s : RS) (u : List UInt8) (c : UInt8) (w : World) (h : RustAt b s w) (hlen : s.out.length + (u ++ [c]).length ≤ 140737488355328) :
    Calls Tryd.prog 32 #[.pointer (some ⟨b, 0, none⟩), .string (bs (u ++ [c]))] w fun e w' => e = .returned (.tuple #[]) ∧ RustAt b (s.putStr (u ++ [c])) w' ∧ Fr b w w' := by
  have h5 := h.c5
  have h9 := h.c9
  have H := Lib.hid h
  have hz : (bs (u ++ [c])).size = u.length + 1 := by rw [bs_size, List.length_append, List.length_singleton]
  have hat : ∀ h : u.length < (bs (u ++ [c])).size, (bs (u ++ [c]))[u.length]'h = c := fun h => bs_last u c h
  have hw : wrap64 (u.length : Int) = (u.length : Int) := by
    rw [List.length_append, List.length_singleton] at hlen
    unfold wrap64; omega
  cases hs : s.skip with
  | true =>
    have hp : s.putStr (u ++ [c]) = s := by unfold RS.putStr; rw [hs]; rfl
    rw [hs] at h5
    rw [hp]
    go_enter Tryd.func32, Tryd.ntmps32
    go_wp2_with fail
    ((try simp only [Exit.inBlock, Exit.then]); refine bodyPost_ret (results_none rfl _ _ _) rfl ?_)
    exact ⟨rfl, H.out, Fr.refl _ _⟩
  | false =>
    rw [hs] at h5
    have hb : ∀ (n : Nat) (s2 : RS), s.putStr (u ++ [c]) = s2 → s2 = { s with last := c.toNat, out := s.out ++ (u ++ [c]) } →
        Calls Tryd.prog 33 #[.pointer (some ⟨b, 3, none⟩), .string (bs (u ++ [c]))] ((w.drewN n).setCell ⟨b, 7, none⟩ (.int .u8 c.toNat)) fun e w' => (∃ n, e = .returned (.tuple #[.int .i64 n, .nilIface])) ∧ RustAt b (s.putStr (u ++ [c])) w' ∧ Fr b w w' := by
      intro n s2 e1 e2
      have hl : RustAt b { s with last := c.toNat } ((w.drewN n).setCell ⟨b, 7, none⟩ (.int .u8 c.toNat)) := (h.drewN n).setLast _
      refine (bldString_calls b { s with last := c.toNat } (u ++ [c]) _ hl hlen).mono ?_
      rintro e w' ⟨he, hr, hbl⟩
      exact ⟨he, by rw [e1, e2]; exact hr, ((below_drewN n).setCell (p := ⟨b, 7, none⟩) rfl _).trans hbl⟩
    have f5 : ∀ n, (w.drewN n).frozen? ⟨b, 5, none⟩ = false := fun n => (h.drewN n).frozen 5
    have f7 : ∀ n, (w.drewN n).frozen? ⟨b, 7, none⟩ = false := fun n => (h.drewN n).frozen 7
    have d5 : ∀ n, (w.drewN n).cell? ⟨b, 5, none⟩ = some (.bool false) := fun n => by have := (h.drewN n).c5; rw [hs] at this; exact this
    have d7 : ∀ n, (w.drewN n).cell? ⟨b, 7, none⟩ = some (.int .u8 s.last) := fun n => (h.drewN n).c7
    by_cases h0 : 0 < s.mx
    · by_cases h1 : s.mx < (s.out.length : Int)
      · have hp : s.putStr (u ++ [c]) = { s with skip := true } := by unfold RS.putStr; rw [hs, if_neg (by simp), if_pos ⟨h0, h1⟩]
        have HB := Lib.hid hb
        clear hb h
        go_enter Tryd.func32, Tryd.ntmps32
        go_wp2_with fail
        go_quiet ((go_at_call 38; exact Calls.quiet_of_same (len_quiet b s _ H.out)))
        go_wp2_with fail
        ((try simp only [Exit.inBlock, Exit.then]); refine bodyPost_ret (results_none rfl _ _ _) rfl ?_)
        rw [hp]
        exact ⟨rfl, (H.out.drewN _).setSkip true, (below_drewN _).setCell (p := ⟨b, 5, none⟩) rfl _⟩
      · have hp : s.putStr (u ++ [c]) = { s with last := c.toNat, out := s.out ++ (u ++ [c]) } := by unfold RS.putStr; rw [hs, if_neg (by simp), if_neg (fun z => h1 z.2), List.getLast?_concat]
        have HB := Lib.hid (fun n => hb n _ hp rfl)
        clear hb h
        go_enter Tryd.func32, Tryd.ntmps32
        go_wp2_with fail
        go_quiet ((go_at_call 38; exact Calls.quiet_of_same (len_quiet b s _ H.out)))
        go_wp2_with fail
        refine (HB.out _).mono ?_
        rintro e w' ⟨⟨n, rfl⟩, hr, hbl⟩
        go_wp2_with fail
        go_end0
        exact ⟨rfl, hr, hbl⟩
    · have hp : s.putStr (u ++ [c]) = { s with last := c.toNat, out := s.out ++ (u ++ [c]) } := by unfold RS.putStr; rw [hs, if_neg (by simp), if_neg (fun z => h0 z.1), List.getLast?_concat]
      have hd : decide (0 < s.mx) = false := decide_eq_false h0
      have HB := Lib.hid (fun n => hb n _ hp rfl)
      clear hb h
      go_enter Tryd.func32, Tryd.ntmps32
      go_wp2_with fail
      go_quiet (fail)
      go_wp2_with fail
      refine (HB.out _).mono ?_
      rintro e w' ⟨⟨n, rfl⟩, hr, hbl⟩
      go_wp2_with fail
      go_end0
      exact ⟨rfl, hr, hbl⟩

set_option maxHeartbeats 2000000 in
set_option maxRecDepth 100000 in
theorem writeStr_none (b : Nat) (s : RS) (w : World) (h : RustAt b s w) :
    Calls Tryd.prog 32 #[.pointer (some ⟨b, 0, none⟩), .string (bs [])] w fun e w' => e = .returned (.tuple #[]) ∧ RustAt b (s.putStr []) w' ∧ Fr b w w' := by
  have h5 := h.c5
  have h9 := h.c9
  have H := Lib.hid h
  have hz : (bs []).size = 0 := rfl
  cases hs : s.skip with
  | true =>
    have hp : s.putStr [] = s := by unfold RS.putStr; rw [hs]; rfl
    rw [hs] at h5
    rw [hp]
    go_enter Tryd.func32, Tryd.ntmps32
    go_wp2_with fail
    ((try simp only [Exit.inBlock, Exit.then]); refine bodyPost_ret (results_none rfl _ _ _) rfl ?_)
    exact ⟨rfl, H.out, Fr.refl _ _⟩
  | false =>
    rw [hs] at h5
    have f5 : ∀ n, (w.drewN n).frozen? ⟨b, 5, none⟩ = false := fun n => (h.drewN n).frozen 5
    have d5 : ∀ n, (w.drewN n).cell? ⟨b, 5, none⟩ = some (.bool false) := fun n => by have := (h.drewN n).c5; rw [hs] at this; exact this
    by_cases h0 : 0 < s.mx
    · by_cases h1 : s.mx < (s.out.length : Int)
      · have hp : s.putStr [] = { s with skip := true } := by unfold RS.putStr; rw [hs, if_neg (by simp), if_pos ⟨h0, h1⟩]
        clear h
        go_enter Tryd.func32, Tryd.ntmps32
        go_wp2_with fail
        go_quiet ((go_at_call 38; exact Calls.quiet_of_same (len_quiet b s _ H.out)))
        go_wp2_with fail
        ((try simp only [Exit.inBlock, Exit.then]); refine bodyPost_ret (results_none rfl _ _ _) rfl ?_)
        rw [hp]
        exact ⟨rfl, (H.out.drewN _).setSkip true, (below_drewN _).setCell (p := ⟨b, 5, none⟩) rfl _⟩
      · have hp : s.putStr [] = s := by unfold RS.putStr; rw [hs, if_neg (by simp), if_neg (fun z => h1 z.2)]; rfl
        clear h
        go_enter Tryd.func32, Tryd.ntmps32
        go_wp2_with fail
        go_quiet ((go_at_call 38; exact Calls.quiet_of_same (len_quiet b s _ H.out)))
        go_wp2_with fail
        go_end0
        rw [hp]
        exact ⟨rfl, H.out.drewN _, below_drewN _⟩
    · have hp : s.putStr [] = s := by unfold RS.putStr; rw [hs, if_neg (by simp), if_neg (fun z => h0 z.1)]; rfl
      have hd : decide (0 < s.mx) = false := decide_eq_false h0
      clear h
      go_enter Tryd.func32, Tryd.ntmps32
      go_wp2_with fail
      go_quiet (fail)
      go_wp2_with fail
      go_end0
      rw [hp]
      exact ⟨rfl, H.out.drewN _, below_drewN _⟩

theorem writeStr_calls (b : Nat) (s : RS) (t : List UInt8) (w : World) (h : RustAt b s w) (hlen : s.out.length + t.length ≤ 140737488355328) :
    Calls Tryd.prog 32 #[.pointer (some ⟨b, 0, none⟩), .string (bs t)] w fun e w' => e = .returned (.tuple #[]) ∧ RustAt b (s.putStr t) w' ∧ Fr b w w' := by
  rcases List.eq_nil_or_concat t with rfl | ⟨u, c, rfl⟩
  · exact writeStr_none b s w h
  · rw [List.concat_eq_append] at hlen ⊢
    exact writeStr_some b s u c w h hlen
end Go.Proofs.YtaegllbokgjoeaaDoor
