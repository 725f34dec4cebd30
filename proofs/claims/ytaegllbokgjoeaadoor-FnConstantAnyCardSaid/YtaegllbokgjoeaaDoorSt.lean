/- The state of the reader of Rust names, as it lies in memory: a predicate on worlds and what stores do to it. -/
import Derived.Test.YtaegllbokgjoeaaDoorProg
import Derived.WalkKit
import Derived.WalkSpells
import Derived.WalkLawsBesides
import Derived.Lib.Builder
import Derived.Lib.AppendStr
import Derived.Lib.Strings
import Derived.Lib.BufferKept
import Derived.Lib.OwnKind
namespace Go.Proofs.YtaegllbokgjoeaaDoor
set_option linter.unusedVariables false
set_option linter.unusedSimpArgs false
open Go.RowKit

/-- A list of bytes as a Go string. -/
def bs (l : List UInt8) : ByteArray := ⟨l.toArray⟩

structure RS where
  orig : List UInt8
  str : List UInt8
  off : Int
  out : List UInt8
  skip : Bool
  lt : Int
  last : Int
  ng : Bool
  mx : Int

/-- Read on, up to r. -/
def RS.adv (s : RS) (r : List UInt8) : RS := { s with str := r, off := s.off + ((s.str.length : Int) - r.length) }
theorem RS.adv_adv (s : RS) (r t : List UInt8) : (s.adv r).adv t = s.adv t := by simp [RS.adv]; omega
theorem RS.adv_self (s : RS) : s.adv s.str = s := by simp [RS.adv]
theorem RS.adv_str (s : RS) (r : List UInt8) : (s.adv r).str = r := rfl

def RS.cells (s : RS) (p v : Value) : Array Value :=
  #[.string (bs s.orig), .string (bs s.str), .int .i64 s.off, p, v, .bool s.skip, .int .i64 s.lt, .int .u8 s.last, .bool s.ng, .int .i64 s.mx]

/-- In the world w the block b holds a rustState that reads s. -/
def RustAt (b : Nat) (s : RS) (w : World) : Prop :=
  (0 ≤ s.off ∧ s.off + s.str.length ≤ 4611686018427387904) ∧
  ∃ p v, w.heap[b]? = some (.cells (s.cells (.pointer p) v) 63 (0, 0)) ∧ (p = none ∨ p = some ⟨b, 3, none⟩) ∧
    w.ownsRow b 5 1 v s.out.length (Lib.byteCells s.out) ∧ v.ownBlock ≠ some b

theorem bs_size (l : List UInt8) : (bs l).size = l.length := by simp [bs, ByteArray.size]
theorem bs_toList (l : List UInt8) : (bs l).data.toList = l := by simp [bs]

theorem RustAt.lt {b : Nat} {s : RS} {w : World} (h : RustAt b s w) : b < w.heap.size := by
  obtain ⟨_, p, v, hb, _⟩ := h
  exact (Array.getElem?_eq_some_iff.1 hb).1

theorem RustAt.frozen {b : Nat} {s : RS} {w : World} (h : RustAt b s w) (j : Nat) : w.frozen? ⟨b, j, none⟩ = false := by
  obtain ⟨_, p, v, hb, _⟩ := h
  exact Lib.frozen_of_heap hb j

theorem RustAt.c0 {b : Nat} {s : RS} {w : World} (h : RustAt b s w) : w.cell? ⟨b, 0, none⟩ = some (.string (bs s.orig)) := by
  obtain ⟨_, p, v, hb, _⟩ := h
  rw [Lib.cell_of_heap hb]; rfl
theorem RustAt.c1 {b : Nat} {s : RS} {w : World} (h : RustAt b s w) : w.cell? ⟨b, 1, none⟩ = some (.string (bs s.str)) := by
  obtain ⟨_, p, v, hb, _⟩ := h
  rw [Lib.cell_of_heap hb]; rfl
theorem RustAt.c2 {b : Nat} {s : RS} {w : World} (h : RustAt b s w) : w.cell? ⟨b, 2, none⟩ = some (.int .i64 s.off) := by
  obtain ⟨_, p, v, hb, _⟩ := h
  rw [Lib.cell_of_heap hb]; rfl
theorem RustAt.c5 {b : Nat} {s : RS} {w : World} (h : RustAt b s w) : w.cell? ⟨b, 5, none⟩ = some (.bool s.skip) := by
  obtain ⟨_, p, v, hb, _⟩ := h
  rw [Lib.cell_of_heap hb]; rfl
theorem RustAt.c6 {b : Nat} {s : RS} {w : World} (h : RustAt b s w) : w.cell? ⟨b, 6, none⟩ = some (.int .i64 s.lt) := by
  obtain ⟨_, p, v, hb, _⟩ := h
  rw [Lib.cell_of_heap hb]; rfl
theorem RustAt.c7 {b : Nat} {s : RS} {w : World} (h : RustAt b s w) : w.cell? ⟨b, 7, none⟩ = some (.int .u8 s.last) := by
  obtain ⟨_, p, v, hb, _⟩ := h
  rw [Lib.cell_of_heap hb]; rfl
theorem RustAt.c8 {b : Nat} {s : RS} {w : World} (h : RustAt b s w) : w.cell? ⟨b, 8, none⟩ = some (.bool s.ng) := by
  obtain ⟨_, p, v, hb, _⟩ := h
  rw [Lib.cell_of_heap hb]; rfl
theorem RustAt.c9 {b : Nat} {s : RS} {w : World} (h : RustAt b s w) : w.cell? ⟨b, 9, none⟩ = some (.int .i64 s.mx) := by
  obtain ⟨_, p, v, hb, _⟩ := h
  rw [Lib.cell_of_heap hb]; rfl

theorem RustAt.drew {b : Nat} {s : RS} {w : World} (h : RustAt b s w) : RustAt b s w.drew := h

/-- A store into one of its cells that is neither of the builder's two. -/
theorem RustAt.set {b : Nat} {s s' : RS} {w : World} (h : RustAt b s w) (j : Nat) (x : Value)
    (hs : ∀ p v, (s.cells p v).setIfInBounds j x = s'.cells p v) (ho : s'.out = s.out)
    (hoff : 0 ≤ s'.off ∧ s'.off + s'.str.length ≤ 4611686018427387904) : RustAt b s' (w.setCell ⟨b, j, none⟩ x) := by
  obtain ⟨_, p, v, hb, hp, hown, hne⟩ := h
  refine ⟨hoff, p, v, ?_, hp, ?_, hne⟩
  · simp [World.setCell, Array.getElem?_modify, hb, ← hs]
  · rw [ho]
    exact hown.kept (row := some b) ⟨rfl, rfl, rfl, by simp [World.setCell], fun k _ hk => Below.heap_setCell _ _ _ _ (fun e => hk (by simp [e]))⟩ (Or.inr hne)

/-- A new block. -/
theorem RustAt.alloc {b : Nat} {s : RS} {w : World} (h : RustAt b s w) (o : Obj) : RustAt b s (w.alloc o) := by
  have hlt := h.lt
  obtain ⟨hoff, p, v, hb, hp, hown, hne⟩ := h
  exact ⟨hoff, p, v, (Lib.alloc_old w o b hlt).trans hb, hp, hown.alloc o, hne⟩

/-- How many bytes are left to be read: a loop's measure. -/
def strLen (b : Nat) (w : World) : Nat := match w.cell? ⟨b, 1, none⟩ with | some (.string s) => s.size | _ => 0
theorem RustAt.strLen {b : Nat} {s : RS} {w : World} (h : RustAt b s w) : strLen b w = s.str.length := by
  simp [YtaegllbokgjoeaaDoor.strLen, h.c1, bs_size]

/-- What a call of the reader's may do to memory: below its state's block b nothing has turned; of the other blocks none that is no row of bytes. -/
structure Fr (b : Nat) (w w' : World) : Prop where
  below : Below b w w'
  kept : Lib.OthersKept 5 (some b) w w'
instance (b : Nat) (w w' : World) : Coe (Fr b w w') (Below b w w') := ⟨Fr.below⟩
theorem Fr.refl (b : Nat) (w : World) : Fr b w w := ⟨Below.refl b w, Lib.OthersKept.refl _ _ w⟩
theorem Fr.trans {b : Nat} {u v w : World} (h : Fr b u v) (k : Fr b v w) : Fr b u w := ⟨h.below.trans k.below, h.kept.trans k.kept⟩
theorem Fr.mono {b B : Nat} {w w' : World} (h : Fr b w w') (hB : B ≤ b) : Below B w w' := h.below.mono hB
theorem Fr.block {b : Nat} {w w' : World} (h : Fr b w w') : ∀ k, k < b → w'.heap[k]? = w.heap[k]? := h.below.block
theorem Fr.size {b : Nat} {w w' : World} (h : Fr b w w') : w.heap.size ≤ w'.heap.size := h.below.size
theorem Fr.of_below {b : Nat} {w w' : World} (h : Below w.heap.size w w') (hb : b ≤ w.heap.size) : Fr b w w' := ⟨h.mono hb, (Lib.OthersKept.refl _ _ w).below h⟩
theorem Fr.drew {b : Nat} {u w : World} (h : Fr b u w) : Fr b u w.drew := ⟨h.below.drew, h.kept.drew⟩
theorem Fr.alloc {b : Nat} {u w : World} (h : Fr b u w) (hB : b ≤ w.heap.size) (o : Obj) : Fr b u (w.alloc o) := ⟨h.below.alloc hB o, h.kept.alloc o⟩
theorem Fr.setCell {b : Nat} {u w : World} (h : Fr b u w) {p : Addr} (hp : p.block = b) (v : Value) : Fr b u (w.setCell p v) := ⟨h.below.setCell (by omega) v, h.kept.setCell p hp v⟩
theorem Fr.grown {b : Nat} {u w w' : World} {row : Option Nat} (h : Fr b u w) (hg : w.grownBy w' row) (hB : b ≤ w.heap.size) (hr : ∀ k, row = some k → b ≤ k)
    (hrow : ∀ g, row = some g → ∃ c fz, w.heap[g]? = some (.cells c 5 fz)) : Fr b u w' := ⟨h.below.grown hg hB hr, h.kept.grown hg hrow⟩
/-- Another block, that is no row of bytes. -/
theorem Fr.other {b k : Nat} {w w' : World} {o : Obj} (h : Fr b w w') (hk : w.heap[k]? = some o) (hb : k ≠ b) (ho : ∀ c fz, o ≠ .cells c 5 fz) : w'.heap[k]? = some o :=
  h.kept k o hk (by simpa using hb) ho

/-- The reader's own panic. -/
def Fails (b : Nat) (w : World) (e : Ending) (w' : World) : Prop :=
  (∃ m o, e = .panicked [{ v := .iface 57 (.agg #[.string m, .int .i64 o]), recovered := false }]) ∧ Fr b w w'

/-- What a call may do to memory: what lay below b is as it was. -/
theorem rust_below_set {b : Nat} {w w' : World} (h : Fr b w w') (j : Nat) (x : Value) : Fr b w (w'.setCell ⟨b, j, none⟩ x) :=
  h.setCell (p := ⟨b, j, none⟩) rfl x

end Go.Proofs.YtaegllbokgjoeaaDoor
