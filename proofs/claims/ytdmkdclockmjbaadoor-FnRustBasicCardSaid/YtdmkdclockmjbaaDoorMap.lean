/- The reader's map of basic types: what a look-up finds; basicType. -/
import Derived.Test.YtdmkdclockmjbaaDoorDmB
import Derived.Test.YtdmkdclockmjbaaDoorM1
import Derived.Maps.Keyed
import Derived.Maps.StringElems
import Derived.Below
namespace Go.Proofs.YtdmkdclockmjbaaDoor
set_option linter.unusedVariables false
set_option linter.unusedSimpArgs false
open Go.RowKit

/-- What a look-up gives. -/
def lookRes (c : UInt8) : Value :=
  match Dm.btext c with
  | some t => .tuple #[.string (bs t), .bool true]
  | none => .tuple #[.string ⟨#[]⟩, .bool false]

/-- The map lies where the program's text laid it. -/
def MapIs (w : World) : Prop := ∃ bm es clock, w.cell? ⟨4, 0, none⟩ = some (.map (some bm)) ∧ w.heap[bm]? = some (.map es clock) ∧
  ∀ W : World, W.heap[bm]? = some (.map es clock) → ∀ c : UInt8, (Instr.lookup 98 (.map (some bm)) (.int .u8 c.toNat) true).run Tryd.prog W = .ok (lookRes c) W

theorem MapIs.below {w w' : World} (h : MapIs w) (hb : Below w.heap.size w w') : MapIs w' := by
  obtain ⟨bm, es, clock, h1, h2, h3⟩ := h
  refine ⟨bm, es, clock, (hb.cell (World.block_lt_of_cell? w _ h1)).trans h1, ?_, h3⟩
  rw [hb.block bm (Array.getElem?_eq_some_iff.1 h2).1]; exact h2

/-- What basicType leaves. -/
def BasicPost (b : Nat) (s : RS) (w : World) (e : Ending) (w' : World) : Prop :=
  match Dm.basic s.str with
  | some (t, r) => e = .returned (.tuple #[]) ∧ RustAt b ((s.adv r).putStr t) w' ∧ Fr b w w'
  | none => Fails b w e w'

theorem one_drop (c : UInt8) (r : List UInt8) : (c :: r).drop 1 = r := rfl

set_option maxHeartbeats 2000000 in
set_option maxRecDepth 100000 in
theorem basicType_calls (b : Nat) (s : RS) (w : World) (h : RustAt b s w) (hm : MapIs w) (hlen : s.out.length + 5 ≤ 140737488355328) :
    Calls Tryd.prog 67 #[.pointer (some ⟨b, 0, none⟩)] w fun e w' => BasicPost b s w e w' := by
  have h1 := h.c1
  have H := Lib.hid h
  have hz := bs_size s.str
  cases hs : s.str with
  | nil =>
    have hp : ∀ e w', BasicPost b s w e w' = Fails b w e w' := by intro e w'; unfold BasicPost; rw [hs]; rfl
    rw [hs] at h1 hz
    simp only [hp]
    clear hm h
    go_enter Tryd.func67, Tryd.ntmps67
    go_wp2_with fail
    refine (fail_calls b s _ _ H.out).mono ?_
    rintro e w' hf
    obtain ⟨⟨m, o, rfl⟩, hb⟩ := hf
    exact ⟨rfl, ⟨m, o, rfl⟩, hb⟩
  | cons c r =>
    obtain ⟨bm, es, clock, m1, m2, m3⟩ := hm
    have L := fun n => m3 (w.drewN n) m2 c
    have L0 := m3 w m2 c
    rw [hs] at h1 hz
    have i0 : (bs (c :: r))[0]'(by rw [hz]; simp) = c := rfl
    have hlt0 : (0 : Int) < ((bs (c :: r)).size : Int) := by rw [hz, List.length_cons]; omega
    unfold lookRes at L L0
    cases hb : Dm.btext c with
    | none =>
      have hp : ∀ e w', BasicPost b s w e w' = Fails b w e w' := by intro e w'; unfold BasicPost Dm.basic; rw [hs]; simp only [hb]
      simp only [hb] at L L0
      simp only [hp]
      clear m3 h
      go_enter Tryd.func67, Tryd.ntmps67
      go_wp2_with fail
      go_quiet (fail)
      go_wp2_with fail
      refine (fail_calls b s _ _ (H.out.drewN _)).mono ?_
      rintro e w' hf
      obtain ⟨⟨m, o, rfl⟩, hb⟩ := hf
      exact ⟨rfl, ⟨m, o, rfl⟩, (below_drewN _).trans hb⟩
    | some t =>
      have ht5 := Dm.btext_short c t hb
      have hp : ∀ e w', BasicPost b s w e w' = (e = .returned (.tuple #[]) ∧ RustAt b ((s.adv r).putStr t) w' ∧ Fr b w w') := by intro e w'; unfold BasicPost Dm.basic; rw [hs]; simp only [hb]
      simp only [hb] at L L0
      simp only [hp]
      have hadv : ∀ n, Calls Tryd.prog 52 #[.pointer (some ⟨b, 0, none⟩), .int .i64 1] (w.drewN n) fun e w' => e = .returned (.tuple #[]) ∧ RustAt b (s.adv r) w' ∧ Fr b (w.drewN n) w' := fun n => by
        have := advance_calls b s 1 (w.drewN n) (h.drewN n) (by rw [hs]; simp)
        rw [hs, one_drop] at this
        exact this
      have HA := Lib.hid hadv
      clear m3 h hadv
      go_enter Tryd.func67, Tryd.ntmps67
      go_wp2_with fail
      go_quiet (fail)
      go_wp2_with fail
      refine (HA.out _).mono ?_
      rintro e w2 ⟨rfl, hr2, hb2⟩
      have HR := Lib.hid hr2
      clear hr2
      go_wp2_with fail
      refine (writeStr_calls b (s.adv r) t _ HR.out (by show s.out.length + t.length ≤ _; omega)).mono ?_
      rintro e w3 ⟨rfl, hr3, hb3⟩
      go_wp2_with fail
      go_end0
      exact ⟨rfl, hr3, ((below_drewN _).trans hb2).trans hb3⟩
end Go.Proofs.YtdmkdclockmjbaaDoor
