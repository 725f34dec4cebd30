/- The reader of Rust names in plain Lean: lists of bytes, no Go. The state of the reader of Rust names, as it lies in memory: a predicate on worlds and what stores do to it. Contracts of the reader's smallest functions. (*strings.Builder).String, of the builder that lies within a rustState: the bytes that were written. (*strings.Builder)'s writes, of the builder that lies within a rustState. writeByte and writeString of the reader's state. What stays true of a world behind a call. -/
import Derived.RowKit
import Derived.Test.YtpmlnhddkbgefaaDoorProg
import Derived.WalkKit
import Derived.WalkSpells
import Derived.WalkLawsBesides
import Derived.Lib.Builder
import Derived.Lib.AppendStr
import Derived.Lib.Strings
import Derived.Lib.BufferKept
import Derived.Lib.OwnKind
import Derived.Handy
import Derived.Outline
import Derived.Lib.IndexBytes
import Derived.Lib.Hide
import Derived.Lib.UnsafeStr
import Derived.RegionTactic
import Derived.Lib.Walk
import Derived.Deep.QuietTactic
import Derived.BigQuiet
import Derived.IntWalk
import Derived.Below
namespace Go.Proofs.YtpmlnhddkbgefaaDoor.Dm
set_option linter.unusedVariables false
set_option linter.unusedSimpArgs false
open Go.RowKit

def isDig (c : UInt8) : Bool := decide (48 ≤ (c.toNat : Int)) && decide ((c.toNat : Int) ≤ 57)

/-- decimalNumber's loop. -/
def dec : Int → List UInt8 → Option (Int × List UInt8)
  | v, [] => some (v, [])
  | v, c :: r => if isDig c then (if v ≥ 214748364 - ((c.toNat : Int) - 48) then none else dec (v * 10 + ((c.toNat : Int) - 48)) r) else some (v, c :: r)

def decimal (l : List UInt8) : Option (Int × List UInt8) := if l = [] then none else dec 0 l

/-- A digit in base 62. -/
def dig62 (c : UInt8) : Option Int :=
  if 48 ≤ (c.toNat : Int) ∧ (c.toNat : Int) ≤ 57 then some ((c.toNat : Int) - 48)
  else if 97 ≤ (c.toNat : Int) ∧ (c.toNat : Int) ≤ 122 then some ((c.toNat : Int) - 87)
  else if 65 ≤ (c.toNat : Int) ∧ (c.toNat : Int) ≤ 90 then some ((c.toNat : Int) - 29)
  else none

def b62 : Int → List UInt8 → Option (Int × List UInt8)
  | _, [] => none
  | v, c :: r => if c = 95 then some (wrap64 (v + 1), r) else match dig62 c with
    | some d => b62 (wrap64 (wrap64 (v * 62) + d)) r
    | none => none

def base62 : List UInt8 → Option (Int × List UInt8)
  | [] => none
  | c :: r => if c = 95 then some (0, r) else b62 0 (c :: r)

end Go.Proofs.YtpmlnhddkbgefaaDoor.Dm
namespace Go.Proofs.YtpmlnhddkbgefaaDoor
set_option linter.unusedVariables false
set_option linter.unusedSimpArgs false
open Go.RowKit

/-- A list of bytes as a Go string. -/
def bs (l : List UInt8) : ByteArray := ⟨l.toArray⟩

structure RS where
  orig : List UInt8
  str : List UInt8
  off : Int
  out : List UInt8
  skip : Bool
  lt : Int
  last : Int
  ng : Bool
  mx : Int

/-- Read on, up to r. -/
def RS.adv (s : RS) (r : List UInt8) : RS := { s with str := r, off := s.off + ((s.str.length : Int) - r.length) }
theorem RS.adv_adv (s : RS) (r t : List UInt8) : (s.adv r).adv t = s.adv t := by simp [RS.adv]; omega
theorem RS.adv_self (s : RS) : s.adv s.str = s := by simp [RS.adv]
theorem RS.adv_str (s : RS) (r : List UInt8) : (s.adv r).str = r := rfl

def RS.cells (s : RS) (p v : Value) : Array Value :=
  #[.string (bs s.orig), .string (bs s.str), .int .i64 s.off, p, v, .bool s.skip, .int .i64 s.lt, .int .u8 s.last, .bool s.ng, .int .i64 s.mx]

/-- In the world w the block b holds a rustState that reads s. -/
def RustAt (b : Nat) (s : RS) (w : World) : Prop :=
  (0 ≤ s.off ∧ s.off + s.str.length ≤ 4611686018427387904) ∧
  ∃ p v, w.heap[b]? = some (.cells (s.cells (.pointer p) v) 117 (0, 0)) ∧ (p = none ∨ p = some ⟨b, 3, none⟩) ∧
    w.ownsRow b 5 1 v s.out.length (Lib.byteCells s.out) ∧ v.ownBlock ≠ some b

theorem bs_size (l : List UInt8) : (bs l).size = l.length := by simp [bs, ByteArray.size]
theorem bs_toList (l : List UInt8) : (bs l).data.toList = l := by simp [bs]

theorem RustAt.lt {b : Nat} {s : RS} {w : World} (h : RustAt b s w) : b < w.heap.size := by
  obtain ⟨_, p, v, hb, _⟩ := h
  exact (Array.getElem?_eq_some_iff.1 hb).1

theorem RustAt.frozen {b : Nat} {s : RS} {w : World} (h : RustAt b s w) (j : Nat) : w.frozen? ⟨b, j, none⟩ = false := by
  obtain ⟨_, p, v, hb, _⟩ := h
  exact Lib.frozen_of_heap hb j

theorem RustAt.c0 {b : Nat} {s : RS} {w : World} (h : RustAt b s w) : w.cell? ⟨b, 0, none⟩ = some (.string (bs s.orig)) := by
  obtain ⟨_, p, v, hb, _⟩ := h
  rw [Lib.cell_of_heap hb]; rfl
theorem RustAt.c1 {b : Nat} {s : RS} {w : World} (h : RustAt b s w) : w.cell? ⟨b, 1, none⟩ = some (.string (bs s.str)) := by
  obtain ⟨_, p, v, hb, _⟩ := h
  rw [Lib.cell_of_heap hb]; rfl
theorem RustAt.c2 {b : Nat} {s : RS} {w : World} (h : RustAt b s w) : w.cell? ⟨b, 2, none⟩ = some (.int .i64 s.off) := by
  obtain ⟨_, p, v, hb, _⟩ := h
  rw [Lib.cell_of_heap hb]; rfl
theorem RustAt.c5 {b : Nat} {s : RS} {w : World} (h : RustAt b s w) : w.cell? ⟨b, 5, none⟩ = some (.bool s.skip) := by
  obtain ⟨_, p, v, hb, _⟩ := h
  rw [Lib.cell_of_heap hb]; rfl
theorem RustAt.c6 {b : Nat} {s : RS} {w : World} (h : RustAt b s w) : w.cell? ⟨b, 6, none⟩ = some (.int .i64 s.lt) := by
  obtain ⟨_, p, v, hb, _⟩ := h
  rw [Lib.cell_of_heap hb]; rfl
theorem RustAt.c7 {b : Nat} {s : RS} {w : World} (h : RustAt b s w) : w.cell? ⟨b, 7, none⟩ = some (.int .u8 s.last) := by
  obtain ⟨_, p, v, hb, _⟩ := h
  rw [Lib.cell_of_heap hb]; rfl
theorem RustAt.c8 {b : Nat} {s : RS} {w : World} (h : RustAt b s w) : w.cell? ⟨b, 8, none⟩ = some (.bool s.ng) := by
  obtain ⟨_, p, v, hb, _⟩ := h
  rw [Lib.cell_of_heap hb]; rfl
theorem RustAt.c9 {b : Nat} {s : RS} {w : World} (h : RustAt b s w) : w.cell? ⟨b, 9, none⟩ = some (.int .i64 s.mx) := by
  obtain ⟨_, p, v, hb, _⟩ := h
  rw [Lib.cell_of_heap hb]; rfl

theorem RustAt.drew {b : Nat} {s : RS} {w : World} (h : RustAt b s w) : RustAt b s w.drew := h

/-- A store into one of its cells that is neither of the builder's two. -/
theorem RustAt.set {b : Nat} {s s' : RS} {w : World} (h : RustAt b s w) (j : Nat) (x : Value)
    (hs : ∀ p v, (s.cells p v).setIfInBounds j x = s'.cells p v) (ho : s'.out = s.out)
    (hoff : 0 ≤ s'.off ∧ s'.off + s'.str.length ≤ 4611686018427387904) : RustAt b s' (w.setCell ⟨b, j, none⟩ x) := by
  obtain ⟨_, p, v, hb, hp, hown, hne⟩ := h
  refine ⟨hoff, p, v, ?_, hp, ?_, hne⟩
  · simp [World.setCell, Array.getElem?_modify, hb, ← hs]
  · rw [ho]
    exact hown.kept (row := some b) ⟨rfl, rfl, rfl, by simp [World.setCell], fun k _ hk => Below.heap_setCell _ _ _ _ (fun e => hk (by simp [e]))⟩ (Or.inr hne)

/-- A new block. -/
theorem RustAt.alloc {b : Nat} {s : RS} {w : World} (h : RustAt b s w) (o : Obj) : RustAt b s (w.alloc o) := by
  have hlt := h.lt
  obtain ⟨hoff, p, v, hb, hp, hown, hne⟩ := h
  exact ⟨hoff, p, v, (Lib.alloc_old w o b hlt).trans hb, hp, hown.alloc o, hne⟩

/-- How many bytes are left to be read: a loop's measure. -/
def strLen (b : Nat) (w : World) : Nat := match w.cell? ⟨b, 1, none⟩ with | some (.string s) => s.size | _ => 0
theorem RustAt.strLen {b : Nat} {s : RS} {w : World} (h : RustAt b s w) : strLen b w = s.str.length := by
  simp [YtpmlnhddkbgefaaDoor.strLen, h.c1, bs_size]

/-- What a call of the reader's may do to memory: below its state's block b nothing has turned; of the other blocks none that is no row of bytes. -/
structure Fr (b : Nat) (w w' : World) : Prop where
  below : Below b w w'
  kept : Lib.OthersKept 5 (some b) w w'
instance (b : Nat) (w w' : World) : Coe (Fr b w w') (Below b w w') := ⟨Fr.below⟩
theorem Fr.refl (b : Nat) (w : World) : Fr b w w := ⟨Below.refl b w, Lib.OthersKept.refl _ _ w⟩
theorem Fr.trans {b : Nat} {u v w : World} (h : Fr b u v) (k : Fr b v w) : Fr b u w := ⟨h.below.trans k.below, h.kept.trans k.kept⟩
theorem Fr.mono {b B : Nat} {w w' : World} (h : Fr b w w') (hB : B ≤ b) : Below B w w' := h.below.mono hB
theorem Fr.block {b : Nat} {w w' : World} (h : Fr b w w') : ∀ k, k < b → w'.heap[k]? = w.heap[k]? := h.below.block
theorem Fr.size {b : Nat} {w w' : World} (h : Fr b w w') : w.heap.size ≤ w'.heap.size := h.below.size
theorem Fr.of_below {b : Nat} {w w' : World} (h : Below w.heap.size w w') (hb : b ≤ w.heap.size) : Fr b w w' := ⟨h.mono hb, (Lib.OthersKept.refl _ _ w).below h⟩
theorem Fr.drew {b : Nat} {u w : World} (h : Fr b u w) : Fr b u w.drew := ⟨h.below.drew, h.kept.drew⟩
theorem Fr.alloc {b : Nat} {u w : World} (h : Fr b u w) (hB : b ≤ w.heap.size) (o : Obj) : Fr b u (w.alloc o) := ⟨h.below.alloc hB o, h.kept.alloc o⟩
theorem Fr.setCell {b : Nat} {u w : World} (h : Fr b u w) {p : Addr} (hp : p.block = b) (v : Value) : Fr b u (w.setCell p v) := ⟨h.below.setCell (by omega) v, h.kept.setCell p hp v⟩
theorem Fr.grown {b : Nat} {u w w' : World} {row : Option Nat} (h : Fr b u w) (hg : w.grownBy w' row) (hB : b ≤ w.heap.size) (hr : ∀ k, row = some k → b ≤ k)
    (hrow : ∀ g, row = some g → ∃ c fz, w.heap[g]? = some (.cells c 5 fz)) : Fr b u w' := ⟨h.below.grown hg hB hr, h.kept.grown hg hrow⟩
/-- Another block, that is no row of bytes. -/
theorem Fr.other {b k : Nat} {w w' : World} {o : Obj} (h : Fr b w w') (hk : w.heap[k]? = some o) (hb : k ≠ b) (ho : ∀ c fz, o ≠ .cells c 5 fz) : w'.heap[k]? = some o :=
  h.kept k o hk (by simpa using hb) ho

/-- The reader's own panic. -/
def Fails (b : Nat) (w : World) (e : Ending) (w' : World) : Prop :=
  (∃ m o, e = .panicked [{ v := .iface 111 (.agg #[.string m, .int .i64 o]), recovered := false }]) ∧ Fr b w w'

/-- What a call may do to memory: what lay below b is as it was. -/
theorem rust_below_set {b : Nat} {w w' : World} (h : Fr b w w') (j : Nat) (x : Value) : Fr b w (w'.setCell ⟨b, j, none⟩ x) :=
  h.setCell (p := ⟨b, j, none⟩) rfl x

end Go.Proofs.YtpmlnhddkbgefaaDoor
namespace Go.Proofs.YtpmlnhddkbgefaaDoor
set_option linter.unusedVariables false
set_option linter.unusedSimpArgs false
open Go.RowKit

theorem isDigit_calls (c : Int) (w : World) :
    Calls Tryd.prog 92 #[.int .u8 c] w fun e w' => e = .returned (.bool (decide (48 ≤ c) && decide (c ≤ 57))) ∧ w = w' := by
  go_enter Tryd.func92, Tryd.ntmps92
  go_wp2
  · go_ret
    exact ⟨by simp [*], rfl⟩
  · have h : ¬ 48 ≤ c := by omega
    go_ret
    exact ⟨by simp [h], rfl⟩

theorem fail_calls (b : Nat) (s : RS) (m : ByteArray) (w : World) (h : RustAt b s w) :
    Calls Tryd.prog 68 #[.pointer (some ⟨b, 0, none⟩), .string m] w fun e w' => Fails b w e w' := by
  have h2 := h.c2
  go_enter Tryd.func68, Tryd.ntmps68
  go_wp2
  exact ⟨rfl, ⟨_, _, rfl⟩, Fr.refl _ _⟩

theorem fail_same (b : Nat) (s : RS) (m : ByteArray) (w : World) (h : RustAt b s w) :
    Calls Tryd.prog 68 #[.pointer (some ⟨b, 0, none⟩), .string m] w fun e w' => (∃ m o, e = .panicked [{ v := .iface 111 (.agg #[.string m, .int .i64 o]), recovered := false }]) ∧ w = w' := by
  have h2 := h.c2
  go_enter Tryd.func68, Tryd.ntmps68
  go_wp2
  exact ⟨rfl, ⟨_, _, rfl⟩, rfl⟩

theorem bs_extract (l : List UInt8) (n : Nat) : (bs l).extract n l.length = bs (l.drop n) := by
  apply ByteArray.ext
  simp [bs, ByteArray.data_extract]
  rw [List.take_of_length_le (by simp)]
@[go_sem] theorem bs_zero (c : UInt8) (r : List UInt8) (h : 0 < (bs (c :: r)).size) : (bs (c :: r))[0]'h = c := rfl
theorem bs_take (l : List UInt8) (n : Nat) : (bs l).extract 0 n = bs (l.take n) := by
  apply ByteArray.ext
  simp [bs, ByteArray.data_extract]

theorem advance_calls (b : Nat) (s : RS) (n : Nat) (w : World) (h : RustAt b s w) (hn : n ≤ s.str.length) :
    Calls Tryd.prog 70 #[.pointer (some ⟨b, 0, none⟩), .int .i64 n] w fun e w' =>
      e = .returned (.tuple #[]) ∧ RustAt b (s.adv (s.str.drop n)) w' ∧ Fr b w w' := by
  have h1 := h.c1
  have h2 := h.c2
  have f1 := h.frozen 1
  have f2 := h.frozen 2
  obtain ⟨o0, o1⟩ := h.1
  have hz := bs_size s.str
  go_enter Tryd.func70, Tryd.ntmps70
  go_wp2
  go_end0
  rw [bs_extract]
  refine ⟨rfl, ?_, rust_below_set (rust_below_set (Fr.refl _ _) _ _) _ _⟩
  refine RustAt.set (s := { s with str := s.str.drop n }) (h.set (s' := { s with str := s.str.drop n }) 1 _ (fun _ _ => rfl) rfl ?_) 2 _ (fun _ _ => ?_) rfl ?_
  · simp; omega
  · have e : ((s.str.length : Int) - ((s.str.drop n).length : Int)) = n := by simp; omega
    simp only [RS.adv, RS.cells, e]; rfl
  · simp [RS.adv]; omega

theorem dec_step (c : UInt8) (r : List UInt8) (v : Int) (h : Dm.isDig c = true) (hv : ¬ v ≥ 214748364 - ((c.toNat : Int) - 48)) :
    Dm.dec v (c :: r) = Dm.dec (v * 10 + ((c.toNat : Int) - 48)) r := by
  rw [Dm.dec, if_pos h, if_neg hv]

/-! ### numbers in base 62 -/
def B62Post (b : Nat) (s : RS) (w : World) (e : Ending) (w' : World) : Prop :=
  match Dm.base62 s.str with
  | some (n, r) => e = .returned (.int .i64 n) ∧ RustAt b (s.adv r) w' ∧ Fr b w w'
  | none => Fails b w e w'

theorem b62_post {b : Nat} {s : RS} {w w' : World} {n : Int} {r : List UInt8} (h : Dm.base62 s.str = some (n, r)) (h1 : RustAt b (s.adv r) w') (h2 : Fr b w w') :
    B62Post b s w (.returned (.int .i64 n)) w' := by
  unfold B62Post; rw [h]; exact ⟨rfl, h1, h2⟩
theorem b62_fails {b : Nat} {s : RS} {w w' : World} {e : Ending} (h : Dm.base62 s.str = none) (h1 : Fails b w e w') : B62Post b s w e w' := by
  unfold B62Post; rw [h]; exact h1

def B62Rel (b : Nat) (s : RS) (w : World) (v : Value) (wr : World) : Prop :=
  ∃ (x : Int) (r : List UInt8), v = .int .i64 x ∧ Dm.b62 x r = Dm.base62 s.str ∧ RustAt b (s.adv r) wr ∧ Fr b w wr

theorem toNat_eq {c : UInt8} {n : Nat} (hn : n < 256) : (((c.toNat : Int) == (n : Int)) = true) ↔ c = UInt8.ofNat n := by
  rw [beq_iff_eq]
  constructor
  · intro h
    have : c.toNat = n := by omega
    rw [← this]; simp
  · rintro rfl
    simp; omega

/-- The loop's round at a digit: what the reader comes to. -/
theorem b62_step {x d : Int} {c : UInt8} {r : List UInt8} (hc : c ≠ 95) (hd : Dm.dig62 c = some d) : Dm.b62 x (c :: r) = Dm.b62 (wrap64 (wrap64 (x * 62) + d)) r := by
  rw [Dm.b62, if_neg hc, hd]
theorem b62_none {x : Int} {c : UInt8} {r : List UInt8} (hc : c ≠ 95) (hd : Dm.dig62 c = none) : Dm.b62 x (c :: r) = none := by
  rw [Dm.b62, if_neg hc, hd]
theorem b62_end {x : Int} {r : List UInt8} : Dm.b62 x (95 :: r) = some (wrap64 (x + 1), r) := by
  rw [Dm.b62, if_pos rfl]

set_option maxHeartbeats 4000000 in
theorem base62Number_calls (b : Nat) (s : RS) (w : World) (h : RustAt b s w) :
    Calls Tryd.prog 97 #[.pointer (some ⟨b, 0, none⟩)] w fun e w' => B62Post b s w e w' := by
  have h1 := h.c1
  by_cases hu : s.str.head? = some 95
  · obtain ⟨r, hr⟩ : ∃ r, s.str = 95 :: r := by
      cases hs : s.str with
      | nil => rw [hs] at hu; cases hu
      | cons c r => rw [hs] at hu; cases hu; exact ⟨r, rfl⟩
    have hp : Hid (Dm.base62 s.str = some (0, r)) := Lib.hid (by rw [hr]; rfl)
    have hdr : Hid (s.str.drop 1 = r) := Lib.hid (by rw [hr]; rfl)
    have hl : 1 ≤ s.str.length := by rw [hr]; simp
    rw [hr] at h1
    have hz := bs_size (95 :: r)
    have had := advance_calls b s 1 w h hl
    clear hr hu
    go_enter Tryd.func97, Tryd.ntmps97
    go_wp2_with (go_at_call 70; refine had.mono ?_; rintro e w1 ⟨rfl, hr1, hb1⟩)
    go_ret
    rw [hdr.out] at hr1
    exact b62_post hp.out hr1 hb1
  · have HB : Hid (Dm.b62 0 s.str = Dm.base62 s.str) := Lib.hid (by
      cases hs : s.str with
      | nil => rfl
      | cons c r => rw [hs] at hu; simp only [List.head?_cons, Option.some.injEq] at hu; rw [Dm.base62, if_neg hu])
    have hgu : s.str = [] ∨ ∃ c r, s.str = c :: r ∧ ((c.toNat : Int) == 95) = false := by
      cases hs : s.str with
      | nil => exact .inl rfl
      | cons c r =>
        rw [hs] at hu
        simp only [List.head?_cons, Option.some.injEq] at hu
        refine .inr ⟨c, r, rfl, ?_⟩
        rw [beq_eq_false_iff_ne]
        intro e
        exact hu ((toNat_eq (n := 95) (by omega)).1 (by rw [e]; rfl))
    clear hu
    have hat : RustAt b (s.adv s.str) w := by rw [RS.adv_self]; exact h
    rcases hgu with hs | ⟨c, r, hs, hc⟩
    all_goals
      rw [hs] at h1
      have hz := bs_size s.str
      rw [hs] at hz
      clear hs h
      go_enter Tryd.func97, Tryd.ntmps97
      go_wp2_with fail
      clear h1 hz
      go_loopw [3] (fun v wr => B62Rel b s w v wr) (fun _ wr => strLen b wr)
      case atStart => exact ⟨0, s.str, rfl, HB.out, hat, Fr.refl _ _⟩
      case round =>
        obtain ⟨x, r, rfl, hx, hr, hb⟩ := hrel
        have h1 := hr.c1
        rw [RS.adv_str] at h1
        have hz := bs_size r
        have hm := Lib.hid hr.strLen
        cases r with
        | nil =>
          have Hx : Hid (Dm.base62 s.str = none) := Lib.hid (by rw [← hx]; rfl)
          clear hx
          go_wp2_with (go_at_call 68; refine (fail_calls b _ _ _ hr).mono ?_; rintro e w1 ⟨⟨m, o, rfl⟩, hb1⟩)
          exact ⟨rfl, b62_fails Hx.out ⟨⟨m, o, rfl⟩, hb.trans hb1⟩⟩
        | cons c r =>
          have had := advance_calls b _ 1 wr hr (by simp [RS.adv_str])
          have hc := UInt8.toNat_lt c
          by_cases h95 : c = 95
          · subst h95
            have Hx : Hid (Dm.base62 s.str = some (wrap64 (x + 1), r)) := Lib.hid (by rw [← hx, b62_end])
            clear hx
            go_wp2_with (go_at_call 70; refine had.mono ?_; rintro e w1 ⟨rfl, hr1, hb1⟩)
            go_ret
            rw [RS.adv_adv] at hr1
            exact b62_post Hx.out hr1 (hb.trans hb1)
          · have hn : ((c.toNat : Int) == 95) = false := by
              rw [beq_eq_false_iff_ne]; intro e; exact h95 ((toNat_eq (n := 95) (by omega)).1 (by rw [e]; rfl))
            have hcs : (∃ d, Dm.dig62 c = some d ∧ 48 ≤ (c.toNat : Int) ∧ (c.toNat : Int) ≤ 57 ∧ d = (c.toNat : Int) - 48) ∨ (∃ d, Dm.dig62 c = some d ∧ 97 ≤ (c.toNat : Int) ∧ (c.toNat : Int) ≤ 122 ∧ d = (c.toNat : Int) - 97 + 10) ∨
                (∃ d, Dm.dig62 c = some d ∧ 65 ≤ (c.toNat : Int) ∧ (c.toNat : Int) ≤ 90 ∧ d = (c.toNat : Int) - 65 + 36) ∨
                (Dm.dig62 c = none ∧ ((c.toNat : Int) < 48 ∨ 57 < (c.toNat : Int)) ∧ ((c.toNat : Int) < 65 ∨ 90 < (c.toNat : Int)) ∧ ((c.toNat : Int) < 97 ∨ 122 < (c.toNat : Int))) := by
              unfold Dm.dig62
              by_cases a1 : 48 ≤ (c.toNat : Int) ∧ (c.toNat : Int) ≤ 57
              · rw [if_pos a1]; exact .inl ⟨_, rfl, a1.1, a1.2, rfl⟩
              · rw [if_neg a1]
                by_cases a2 : 97 ≤ (c.toNat : Int) ∧ (c.toNat : Int) ≤ 122
                · rw [if_pos a2]; exact .inr (.inl ⟨_, rfl, a2.1, a2.2, by omega⟩)
                · rw [if_neg a2]
                  by_cases a3 : 65 ≤ (c.toNat : Int) ∧ (c.toNat : Int) ≤ 90
                  · rw [if_pos a3]; exact .inr (.inr (.inl ⟨_, rfl, a3.1, a3.2, by omega⟩))
                  · rw [if_neg a3]; exact .inr (.inr (.inr ⟨rfl, by omega, by omega, by omega⟩))
            rcases hcs with ⟨d, hd, a1, a2, a3⟩ | ⟨d, hd, a1, a2, a3⟩ | ⟨d, hd, a1, a2, a3⟩ | ⟨hd, a1, a2, a3⟩
            · have Hx : Hid (Dm.b62 (wrap64 (wrap64 (x * 62) + ((c.toNat : Int) - 48))) r = Dm.base62 s.str) := Lib.hid (by rw [← hx, b62_step h95 hd, a3])
              clear hx hd a3 h95
              go_wp2_with (go_at_call 70; refine had.mono ?_; rintro e w1 ⟨rfl, hr1, hb1⟩)
              rw [RS.adv_adv] at hr1
              go_roundw
              case rel => exact ⟨_, r, rfl, Hx.out, hr1, hb.trans hb1⟩
              case measure => rw [hr1.strLen, hm.out]; simp [RS.adv_str]
            · have Hx : Hid (Dm.b62 (wrap64 (wrap64 (x * 62) + ((c.toNat : Int) - 97 + 10))) r = Dm.base62 s.str) := Lib.hid (by rw [← hx, b62_step h95 hd, a3])
              clear hx hd a3 h95
              go_wp2_with (go_at_call 70; refine had.mono ?_; rintro e w1 ⟨rfl, hr1, hb1⟩)
              rw [RS.adv_adv] at hr1
              go_roundw
              case rel => exact ⟨_, r, rfl, Hx.out, hr1, hb.trans hb1⟩
              case measure => rw [hr1.strLen, hm.out]; simp [RS.adv_str]
            · have Hx : Hid (Dm.b62 (wrap64 (wrap64 (x * 62) + ((c.toNat : Int) - 65 + 36))) r = Dm.base62 s.str) := Lib.hid (by rw [← hx, b62_step h95 hd, a3])
              clear hx hd a3 h95
              go_wp2_with (go_at_call 70; refine had.mono ?_; rintro e w1 ⟨rfl, hr1, hb1⟩)
              rw [RS.adv_adv] at hr1
              go_roundw
              case rel => exact ⟨_, r, rfl, Hx.out, hr1, hb.trans hb1⟩
              case measure => rw [hr1.strLen, hm.out]; simp [RS.adv_str]
            · have Hx : Hid (Dm.base62 s.str = none) := Lib.hid (by rw [← hx, b62_none h95 hd])
              clear hx hd h95
              go_wp2_with (first | (go_at_call 70; refine had.mono ?_; rintro e w1 ⟨rfl, hr1, hb1⟩) | (go_at_call 68; refine (fail_calls b _ _ _ hr1).mono ?_; rintro e w2 ⟨⟨m, o, rfl⟩, hb2⟩))
              all_goals exact ⟨rfl, b62_fails Hx.out ⟨⟨m, o, rfl⟩, (hb.trans hb1).trans hb2⟩⟩

end Go.Proofs.YtpmlnhddkbgefaaDoor
namespace Go.Proofs.YtpmlnhddkbgefaaDoor
set_option linter.unusedVariables false
set_option linter.unusedSimpArgs false
open Go.RowKit

theorem Tryd.cells5 : Tryd.prog.cellsOf 5 = 1 := by kernel_rfl
theorem bs_nil : bs [] = ByteArray.empty := rfl

set_option maxHeartbeats 2000000 in
set_option maxRecDepth 100000 in
/-- String: the block of the state stays as it is. -/
theorem string_calls (b : Nat) (s : RS) (w : World) (h : RustAt b s w) :
    Calls Tryd.prog 67 #[.pointer (some ⟨b, 3, none⟩)] w fun e w' => e = .returned (.string (bs s.out)) ∧ w'.heap[b]? = w.heap[b]? ∧ Below b w w' := by
  have hlt := h.lt
  obtain ⟨_, p, v, hbk, _, hown, hne⟩ := h
  have C1 : ∀ {V : Value}, v = V → w.drew.cell? ⟨b, 4, none⟩ = some V := by
    rintro V rfl
    have : w.drew.heap[b]? = some (.cells (s.cells (.pointer p) v) 117 (0, 0)) := hbk
    rw [Lib.cell_of_heap this]; rfl
  rcases hown.2 with ⟨hv, h0⟩ | ⟨g, cap, cur, hv, hbg, hg, hnc, hcm, hcs, htake⟩
  · have c1 := C1 hv
    clear C1
    have ho : s.out = [] := List.length_eq_zero_iff.1 (by simpa using h0)
    rw [ho]
    have hUS : ∀ W : World, (Builtin.unsafeString_ #[142, 3] 9 #[.pointer none, .int .i64 0]).run Tryd.prog W = .ok (.string .empty) W := fun W => Lib.run_unsafeString_none W _ _ _ none
    have hSD : (Builtin.unsafeSliceData_ #[27] 142 #[.slice none 0 0]).run Tryd.prog w.drew = .ok (.pointer none) w.drew := rfl
    clear ho h0 hown hbk
    go_enter Tryd.func67, Tryd.ntmps67
    go_wp2
    go_region
    all_goals (go_wp2; go_ret; exact ⟨rfl, rfl, Below.drew (Below.refl b w)⟩)
  · have c1 := C1 hv
    clear C1
    have hgb : g ≠ b := fun e => hne (by rw [hv, e]; rfl)
    have hUS0 : ∀ (W : World) (q : Option Addr), (Builtin.unsafeString_ #[142, 3] 9 #[.pointer q, .int .i64 0]).run Tryd.prog W = .ok (.string .empty) W := fun W q => Lib.run_unsafeString_none W _ _ _ q
    by_cases ho : s.out = []
    · rw [ho] at c1
      simp only [List.length_nil] at c1
      by_cases hc0 : cap = 0
      · have hcc : cur.size = 0 := by rw [hcs, hc0]
        rw [hc0] at c1
        have hSD : (Builtin.unsafeSliceData_ #[27] 142 #[.slice (some ⟨g, 0, none⟩) 0 0]).run Tryd.prog w.drew = .ok (.pointer (some ⟨w.drew.heap.size, 0, none⟩)) (w.drew.alloc (.view ⟨g, 0, none⟩ 5)) :=
          Lib.run_unsafeSliceData_zero w.drew _ _ 5 Tryd.underlying142 ⟨g, 0, none⟩ 0 (5, cur.size) (by have hg' : w.drew.heap[g]? = some (.cells cur 5 (0, 0)) := hg; simp [World.shape?, hg'])
        have c2 : (w.drew.alloc (.view ⟨g, 0, none⟩ 5)).cell? ⟨b, 4, none⟩ = some (.slice (some ⟨g, 0, none⟩) 0 0) := by
          rw [World.cell?_of_block (w := w.drew) (Lib.alloc_old w.drew _ b hlt)]; exact c1
        have c3 : (w.alloc (.view ⟨g, 0, none⟩ 5)).drew.cell? ⟨b, 4, none⟩ = some (.slice (some ⟨g, 0, none⟩) 0 0) := c2
        have c0 : w.cell? ⟨b, 4, none⟩ = some (.slice (some ⟨g, 0, none⟩) 0 0) := c1
        have hkeep : ∀ o, (w.alloc o).heap[b]? = w.heap[b]? := fun o => Lib.alloc_old w o b hlt
        have HK := Lib.hid hkeep
        rw [ho]
        clear hown hbk hkeep hnc hcm hcs htake hcc hc0 ho hv hg hgb
        go_enter Tryd.func67, Tryd.ntmps67
        go_wp2
        go_region
        all_goals (go_wp2; go_ret; exact ⟨rfl, HK.out _, (Below.drew (Below.refl b w)).alloc (Nat.le_of_lt hlt) _⟩)
      · have hSD : (Builtin.unsafeSliceData_ #[27] 142 #[.slice (some ⟨g, 0, none⟩) 0 cap]).run Tryd.prog w.drew = .ok (.pointer (some ⟨g, 0, none⟩)) w.drew :=
          Lib.run_unsafeSliceData_row _ _ _ _ _ _ hc0
        rw [ho]
        clear hown hbk hnc hcm hcs htake hc0 ho hv hg hgb
        go_enter Tryd.func67, Tryd.ntmps67
        go_wp2
        go_region
        all_goals (go_wp2; go_ret; exact ⟨rfl, rfl, Below.drew (Below.refl b w)⟩)
    · have hl0 : s.out.length ≠ 0 := fun e => ho (List.length_eq_zero_iff.1 e)
      have hSD : (Builtin.unsafeSliceData_ #[27] 142 #[.slice (some ⟨g, 0, none⟩) s.out.length cap]).run Tryd.prog w.drew = .ok (.pointer (some ⟨g, 0, none⟩)) w.drew :=
        Lib.run_unsafeSliceData_row _ _ _ _ _ _ (by omega)
      have hUS : (Builtin.unsafeString_ #[142, 3] 9 #[.pointer (some ⟨g, 0, none⟩), .int .i64 s.out.length]).run Tryd.prog w.drew = .ok (.string (bs s.out)) (w.drew.freeze ⟨g, 0, none⟩ s.out.length) := by
        refine Lib.run_unsafeString_row w.drew 142 3 9 5 Tryd.underlying142 Tryd.cells5 g cur.size (by have hg' : w.drew.heap[g]? = some (.cells cur 5 (0, 0)) := hg; simp [World.shape?, hg']) s.out ho (by omega) (by unfold maxLen at hcm; omega) ?_
        intro j x hx
        have hv2 : v.ownBlock = some g := by rw [hv]; rfl
        have := hown.cells (g := g) hv2 j (.int .u8 x.toNat) (by simp [Lib.byteCells, hx])
        exact this
      have hkeep : (w.drew.freeze ⟨g, 0, none⟩ s.out.length).heap[b]? = w.heap[b]? := by
        unfold World.freeze
        rw [if_neg hl0]
        simp only [Array.getElem?_modify]
        rw [if_neg hgb]; rfl
      have HK := Lib.hid hkeep
      clear hown hbk hkeep hnc hcm hcs htake ho hv hg hgb
      go_enter Tryd.func67, Tryd.ntmps67
      go_wp2
      go_region
      all_goals (go_wp2; go_ret; exact ⟨rfl, HK.out, Lib.below_freeze (Below.drew (Below.refl b w)) (p := ⟨g, 0, none⟩) hbg _⟩)
end Go.Proofs.YtpmlnhddkbgefaaDoor
namespace Go.Proofs.YtpmlnhddkbgefaaDoor
set_option linter.unusedVariables false
set_option linter.unusedSimpArgs false
open Go.RowKit

theorem bld_info : (Tryd.prog.info? 115).map (·.size) = some 2 := by kernel_rfl
theorem byte_info : (Tryd.prog.info? 5).map (fun i => (i.zero, i.size, i.bytes)) = some (some (.int .u8 0), 1, 1) := by kernel_rfl
theorem bld_lies : liesAt Tryd.prog Tryd.prog.depth 117 (10 / Tryd.prog.cellsOf 117) 3 115 1 = true := by kernel_rfl

/-- The state, its builder's two cells told. -/
def RustIn (b : Nat) (s : RS) (p v : Value) (w : World) : Prop :=
  w.heap[b]? = some (.cells (s.cells p v) 117 (0, 0)) ∧ w.ownsRow b 5 1 v s.out.length (Lib.byteCells s.out) ∧ v.ownBlock ≠ some b
theorem RustIn.lt {b : Nat} {s : RS} {p v : Value} {w : World} (h : RustIn b s p v w) : b < w.heap.size := (Array.getElem?_eq_some_iff.1 h.1).1
theorem RustIn.c3 {b : Nat} {s : RS} {p v : Value} {w : World} (h : RustIn b s p v w) : w.cell? ⟨b, 3, none⟩ = some p := by rw [Lib.cell_of_heap h.1]; rfl
theorem RustIn.c4 {b : Nat} {s : RS} {p v : Value} {w : World} (h : RustIn b s p v w) : w.cell? ⟨b, 4, none⟩ = some v := by rw [Lib.cell_of_heap h.1]; rfl
theorem RustIn.shape {b : Nat} {s : RS} {p v : Value} {w : World} (h : RustIn b s p v w) : w.shape? b = some (117, 10) := by simp [World.shape?, h.1, RS.cells]
theorem RustIn.used {b : Nat} {s : RS} {p v : Value} {w : World} (h : RustIn b s p v w) (q : Value) : RustIn b s q v (w.setCell ⟨b, 3, none⟩ q) := by
  obtain ⟨hb, hown, hne⟩ := h
  refine ⟨?_, ?_, hne⟩
  · simp [World.setCell, Array.getElem?_modify, hb]; rfl
  · exact hown.kept (row := some b) ⟨rfl, rfl, rfl, by simp [World.setCell], fun k _ hk => Below.heap_setCell _ _ _ _ (fun e => hk (by simp [e]))⟩ (Or.inr hne)
/-- A new buffer. -/
theorem RustIn.put {b : Nat} {s : RS} {p v v' : Value} {w : World} {out : List UInt8} (hb : w.heap[b]? = some (.cells (s.cells p v) 117 (0, 0))) (hown : w.ownsRow b 5 1 v' out.length (Lib.byteCells out)) :
    RustIn b { s with out := out } p v' (w.setCell ⟨b, 4, none⟩ v') := by
  have hne := Lib.ownBlock_ne hown hb (by decide)
  refine ⟨?_, ?_, hne⟩
  · simp [World.setCell, Array.getElem?_modify, hb]; rfl
  · exact hown.kept (row := some b) ⟨rfl, rfl, rfl, by simp [World.setCell], fun k _ hk => Below.heap_setCell _ _ _ _ (fun e => hk (by simp [e]))⟩ (Or.inr hne)
theorem RustAt.in {b : Nat} {s : RS} {w : World} (h : RustAt b s w) : ∃ p v, RustIn b s (.pointer p) v w ∧ (p = none ∨ p = some ⟨b, 3, none⟩) := by
  obtain ⟨_, p, v, hb, hp, hown, hne⟩ := h
  exact ⟨p, v, ⟨hb, hown, hne⟩, hp⟩

set_option maxHeartbeats 1000000 in
set_option maxRecDepth 100000 in
theorem copyCheck_used (b : Nat) (s : RS) (v : Value) (w : World) (h : RustIn b s (.pointer (some ⟨b, 3, none⟩)) v w) :
    Calls Tryd.prog 99 #[.pointer (some ⟨b, 3, none⟩)] w fun e w' => e = .returned (.tuple #[]) ∧ w' = w := by
  obtain ⟨j, hj, _⟩ := Option.map_eq_some_iff.1 bld_info
  have h0 := h.c3
  clear h
  go_enter Tryd.func99, Tryd.ntmps99
  go_wp2
  rw [Lib.run_neq_ptr_same w _ Tryd.underlying113 hj]
  go_wp2
  go_end0
  exact ⟨rfl, rfl⟩

set_option maxHeartbeats 1000000 in
set_option maxRecDepth 100000 in
theorem copyCheck_fresh (b : Nat) (s : RS) (v : Value) (w : World) (h : RustIn b s (.pointer none) v w) :
    Calls Tryd.prog 99 #[.pointer (some ⟨b, 3, none⟩)] w fun e w' => e = .returned (.tuple #[]) ∧ w' = w.setCell ⟨b, 3, none⟩ (.pointer (some ⟨b, 3, none⟩)) := by
  obtain ⟨j, hj, hjs⟩ := Option.map_eq_some_iff.1 bld_info
  have h0 := h.c3
  have hsh := h.shape
  have hfz : w.frozen? ⟨b, 3, none⟩ = false := Lib.frozen_of_heap h.1 3
  clear h
  go_enter Tryd.func99, Tryd.ntmps99
  go_wp2
  rw [Lib.run_to_unsafe w ⟨b, 3, none⟩ Tryd.underlying113 Tryd.underlying152 hj (by rw [hjs]; decide) hsh (by show 3 < 10; omega)]
  simp only [Result.andThen]
  rw [Oper.upon_value]
  go_wp2
  rw [run_callFunc_extern Tryd.func110 (by kernel_rfl) (by kernel_rfl) (by kernel_rfl) (e := Extern.AbiNoEscape.same) (by kernel_rfl)]
  rw [Lib.run_noEscape]
  simp only [Result.andThen]
  rw [Oper.upon_value]
  go_wp2
  rw [Lib.run_from_unsafe w ⟨b, 3, none⟩ Tryd.underlying152 Tryd.underlying113 hj hsh bld_lies]
  simp only [Result.andThen]
  rw [Oper.upon_value]
  go_wp2
  go_end0
  exact ⟨rfl, rfl⟩

theorem copyCheck_calls (b : Nat) (s : RS) (w : World) (h : RustAt b s w) :
    Calls Tryd.prog 99 #[.pointer (some ⟨b, 3, none⟩)] w fun e w' => e = .returned (.tuple #[]) ∧ (∃ v, RustIn b s (.pointer (some ⟨b, 3, none⟩)) v w') ∧ Fr b w w' := by
  obtain ⟨p, v, hin, rfl | rfl⟩ := h.in
  · refine (copyCheck_fresh b s v w hin).mono ?_
    rintro e w' ⟨rfl, rfl⟩
    exact ⟨rfl, ⟨v, hin.used _⟩, rust_below_set (Fr.refl _ _) _ _⟩
  · refine (copyCheck_used b s v w hin).mono ?_
    rintro e w' ⟨rfl, rfl⟩
    exact ⟨rfl, ⟨v, hin⟩, Fr.refl _ _⟩

set_option maxHeartbeats 1000000 in
set_option maxRecDepth 100000 in
theorem len_calls (b : Nat) (s : RS) (w : World) (h : RustAt b s w) :
    Calls Tryd.prog 91 #[.pointer (some ⟨b, 3, none⟩)] w fun e w' => e = .returned (.int .i64 s.out.length) ∧ w = w' := by
  obtain ⟨p, v, hin, _⟩ := h.in
  obtain ⟨ao, cap, rfl⟩ : ∃ ao cap, v = .slice ao s.out.length cap := by
    rcases hin.2.1.2 with ⟨hv, h0⟩ | ⟨g, cap, cur, hv, _⟩
    · exact ⟨none, 0, by rw [hv, h0]⟩
    · exact ⟨_, _, hv⟩
  have c1 := hin.c4
  clear hin h
  go_enter Tryd.func91, Tryd.ntmps91
  go_wp2
  go_ret
  exact ⟨rfl, rfl⟩

/-- Behind a write: the builder is used, the bytes are more. -/
theorem wrote {b : Nat} {s : RS} {v' : Value} {w0 w w' : World} {out : List UInt8} (hoff : 0 ≤ s.off ∧ s.off + s.str.length ≤ 4611686018427387904) (h : RustIn b { s with out := out } (.pointer (some ⟨b, 3, none⟩)) v' w') : RustAt b { s with out := out } w' :=
  ⟨hoff, some ⟨b, 3, none⟩, v', h.1, .inr rfl, h.2.1, h.2.2⟩

set_option maxHeartbeats 2000000 in
set_option maxRecDepth 100000 in
theorem bldByte_calls (b : Nat) (s : RS) (c : UInt8) (w : World) (h : RustAt b s w) (hlen : s.out.length + 1 ≤ 140737488355328) :
    Calls Tryd.prog 94 #[.pointer (some ⟨b, 3, none⟩), .int .u8 c.toNat] w fun e w' => e = .returned .nilIface ∧ RustAt b { s with out := s.out ++ [c] } w' ∧ Fr b w w' := by
  obtain ⟨i0, hi, hz0, hz1, hz2⟩ := info_parts byte_info
  have hoff := h.1
  have hlt := h.lt
  have hcc := copyCheck_calls b s w h
  clear h
  go_enter Tryd.func94, Tryd.ntmps94
  go_wp2_with (go_at_call 99; refine hcc.mono ?_)
  rintro e w1 ⟨rfl, ⟨v, h1⟩, hb1⟩
  have c1 := h1.c4
  have hown := h1.2.1
  have hlt1 := h1.lt
  go_wp2_with (at_builtin; refine wpList_append_own _ rfl _ _ 27 rfl b 5 i0 (.int .u8 0) 1 1 Tryd.underlying27 hi hz0 hz1 hz2 rfl (by decide) _ _ _ rfl (hown.alloc _) ⟨w1.heap.size, 0, none⟩ 1 1 [.int .u8 c.toNat] rfl rfl ?c1 ?c2 ?c3 ?c4 ?c5 ?_)
  case c1 =>
    intro j u hj
    match j, hj with
    | 0, hj => simp at hj; subst hj; simp [Addr.add]
  case c2 => intro u hu; simp at hu; subst hu; rfl
  case c3 => unfold maxLen; omega
  case c4 => omega
  case c5 => simp; omega
  intro v' w2 hown' hgrow _
  have hb2 : w2.heap[b]? = some (.cells (s.cells (.pointer (some ⟨b, 3, none⟩)) v) 117 (0, 0)) := by
    rw [hgrow.block b (by simp; omega) (fun e => h1.2.2 e.symm), Lib.alloc_old w1 _ b hlt1]
    exact h1.1
  have d4 : w2.cell? ⟨b, 4, none⟩ = some v := by rw [Lib.cell_of_heap hb2]; rfl
  have f4 : w2.frozen? ⟨b, 4, none⟩ = false := Lib.frozen_of_heap hb2 4
  have hown2 : w2.ownsRow b 5 1 v' (s.out ++ [c]).length (Lib.byteCells (s.out ++ [c])) := by simpa [Lib.byteCells] using hown'
  have HP := Lib.hid (RustIn.put hb2 hown2)
  have HB := Lib.hid (((hb1.alloc (by omega) _).grown hgrow (by simp; omega) (fun k hk => (hown.lt k hk).1) (fun g hg => by obtain ⟨c, fz, hc⟩ := Lib.ownsRow_kind hown g hg; exact ⟨c, fz, (Lib.alloc_old w1 _ g (Array.getElem?_eq_some_iff.1 hc).1).trans hc⟩)).setCell (p := ⟨b, 4, none⟩) rfl v')
  obtain ⟨ao, n', cap, rfl⟩ : ∃ ao n' cap, v' = .slice ao n' cap := by
    rcases hown2.2 with ⟨hv, _⟩ | ⟨g, cap, cur, hv, _⟩
    · exact ⟨_, _, _, hv⟩
    · exact ⟨_, _, _, hv⟩
  clear hcc hown' hown2
  go_wp2
  go_ret
  exact ⟨rfl, wrote (w0 := w) (w := w) hoff HP.out, HB.out⟩

set_option maxHeartbeats 2000000 in
set_option maxRecDepth 100000 in
theorem bldString_calls (b : Nat) (s : RS) (t : List UInt8) (w : World) (h : RustAt b s w) (hlen : s.out.length + t.length ≤ 140737488355328) :
    Calls Tryd.prog 73 #[.pointer (some ⟨b, 3, none⟩), .string (bs t)] w fun e w' => (∃ n, e = .returned (.tuple #[.int .i64 n, .nilIface])) ∧ RustAt b { s with out := s.out ++ t } w' ∧ Fr b w w' := by
  obtain ⟨i0, hi, hz0, hz1, hz2⟩ := info_parts byte_info
  have hoff := h.1
  have hlt := h.lt
  have hz := bs_size t
  have hcc := copyCheck_calls b s w h
  clear h
  go_enter Tryd.func73, Tryd.ntmps73
  go_wp2_with (go_at_call 99; refine hcc.mono ?_)
  rintro e w1 ⟨rfl, ⟨v, h1⟩, hb1⟩
  have c1 := h1.c4
  have hown := h1.2.1
  have hlt1 := h1.lt
  go_wp2_with (at_builtin; refine Lib.wpList_append_own_string _ rfl _ _ 27 9 rfl b 5 i0 Tryd.underlying27 Tryd.underlying9 hi hz0 hz1 hz2 _ _ _ rfl hown (bs t) rfl ?c3 ?c4 ?c5 ?_)
  case c3 => unfold maxLen; omega
  case c4 => omega
  case c5 => omega
  intro v' w2 hown' hgrow _
  have hb2 : w2.heap[b]? = some (.cells (s.cells (.pointer (some ⟨b, 3, none⟩)) v) 117 (0, 0)) := by
    rw [hgrow.block b hlt1 (fun e => h1.2.2 e.symm)]
    exact h1.1
  have d4 : w2.cell? ⟨b, 4, none⟩ = some v := by rw [Lib.cell_of_heap hb2]; rfl
  have f4 : w2.frozen? ⟨b, 4, none⟩ = false := Lib.frozen_of_heap hb2 4
  have hown2 : w2.ownsRow b 5 1 v' (s.out ++ t).length (Lib.byteCells (s.out ++ t)) := by
    have e : Lib.byteCells (s.out ++ t) = Lib.byteCells s.out ++ Lib.strCells (bs t) := by simp [Lib.byteCells, Lib.strCells, bs]
    rw [e, List.length_append, ← hz]
    exact hown'
  have HP := Lib.hid (RustIn.put hb2 hown2)
  have HB := Lib.hid ((hb1.grown hgrow (by omega) (fun k hk => (hown.lt k hk).1) (Lib.ownsRow_kind hown)).setCell (p := ⟨b, 4, none⟩) rfl v')
  obtain ⟨ao, n', cap, rfl⟩ : ∃ ao n' cap, v' = .slice ao n' cap := by
    rcases hown2.2 with ⟨hv, _⟩ | ⟨g, cap, cur, hv, _⟩
    · exact ⟨_, _, _, hv⟩
    · exact ⟨_, _, _, hv⟩
  clear hcc hown' hown2
  go_wp2
  go_ret2
  exact ⟨⟨_, rfl⟩, wrote (w0 := w) (w := w) hoff HP.out, HB.out⟩

/-- What writeByte and writeString leave. -/
def RS.putByte (s : RS) (c : UInt8) : RS :=
  if s.skip then s else if s.mx > 0 ∧ (s.out.length : Int) > s.mx then { s with skip := true } else { s with last := c.toNat, out := s.out ++ [c] }
def RS.putStr (s : RS) (t : List UInt8) : RS :=
  if s.skip then s else if s.mx > 0 ∧ (s.out.length : Int) > s.mx then { s with skip := true } else
    match t.getLast? with
    | none => s
    | some c => { s with last := c.toNat, out := s.out ++ t }

theorem RustAt.setSkip {b : Nat} {s : RS} {w : World} (h : RustAt b s w) (x : Bool) : RustAt b { s with skip := x } (w.setCell ⟨b, 5, none⟩ (.bool x)) := h.set 5 _ (fun _ _ => rfl) rfl h.1
theorem RustAt.setLast {b : Nat} {s : RS} {w : World} (h : RustAt b s w) (x : Int) : RustAt b { s with last := x } (w.setCell ⟨b, 7, none⟩ (.int .u8 x)) := h.set 7 _ (fun _ _ => rfl) rfl h.1
end Go.Proofs.YtpmlnhddkbgefaaDoor
namespace Go.Proofs.YtpmlnhddkbgefaaDoor
set_option linter.unusedVariables false
set_option linter.unusedSimpArgs false
open Go.RowKit

theorem bs_last (u : List UInt8) (c : UInt8) (h : u.length < (bs (u ++ [c])).size) : (bs (u ++ [c]))[u.length]'h = c := by
  have : (u ++ [c]).toArray[u.length]? = some c := by simp
  have e : ((bs (u ++ [c])).data)[u.length]? = some c := this
  exact (Array.getElem?_eq_some_iff.1 e).2
theorem heap_drewN (w : World) (n : Nat) : (w.drewN n).heap = w.heap := by
  induction n with
  | zero => rfl
  | succ n ih => first | exact ih | rfl | simp_all [World.drewN]
theorem RustAt.drewN {b : Nat} {s : RS} {w : World} (h : RustAt b s w) (n : Nat) : RustAt b s (w.drewN n) := by
  obtain ⟨hoff, p, v, hb, hp, hown, hne⟩ := h
  refine ⟨hoff, p, v, by rw [heap_drewN]; exact hb, hp, ?_, hne⟩
  unfold World.ownsRow at hown ⊢
  rw [heap_drewN]
  exact hown
theorem len_quiet (b : Nat) (s : RS) (w : World) (h : RustAt b s w) :
    Calls Tryd.prog 91 #[.pointer (some ⟨b, 3, none⟩)] w fun e w' => e = .returned (.int .i64 s.out.length) ∧ w' = w :=
  (len_calls b s w h).mono fun e w' ⟨a, c⟩ => ⟨a, c.symm⟩
theorem below_drewN {b : Nat} {w : World} (n : Nat) : Fr b w (w.drewN n) := by
  induction n with
  | zero => exact Fr.refl b w
  | succ n ih => exact ih.drew

set_option maxHeartbeats 2000000 in
set_option maxRecDepth 100000 in
theorem writeByte_calls (b : Nat) (s : RS) (c : UInt8) (w : World) (h : RustAt b s w) (hlen : s.out.length + 1 ≤ 140737488355328) :
    Calls Tryd.prog 71 #[.pointer (some ⟨b, 0, none⟩), .int .u8 c.toNat] w fun e w' => e = .returned (.tuple #[]) ∧ RustAt b (s.putByte c) w' ∧ Fr b w w' := by
  have h5 := h.c5
  have h9 := h.c9
  have H := Lib.hid h
  cases hs : s.skip with
  | true =>
    have hp : s.putByte c = s := by unfold RS.putByte; rw [hs]; rfl
    rw [hs] at h5
    rw [hp]
    go_enter Tryd.func71, Tryd.ntmps71
    go_wp2_with fail
    ((try simp only [Exit.inBlock, Exit.then]); refine bodyPost_ret (results_none rfl _ _ _) rfl ?_)
    exact ⟨rfl, H.out, Fr.refl _ _⟩
  | false =>
    rw [hs] at h5
    have hb : ∀ (n : Nat) (s2 : RS), s.putByte c = s2 → s2 = { s with last := c.toNat, out := s.out ++ [c] } →
        Calls Tryd.prog 94 #[.pointer (some ⟨b, 3, none⟩), .int .u8 c.toNat] ((w.drewN n).setCell ⟨b, 7, none⟩ (.int .u8 c.toNat)) fun e w' => e = .returned .nilIface ∧ RustAt b (s.putByte c) w' ∧ Fr b w w' := by
      intro n s2 e1 e2
      have hl : RustAt b { s with last := c.toNat } ((w.drewN n).setCell ⟨b, 7, none⟩ (.int .u8 c.toNat)) := (h.drewN n).setLast _
      refine (bldByte_calls b { s with last := c.toNat } c _ hl hlen).mono ?_
      rintro e w' ⟨rfl, hr, hbl⟩
      exact ⟨rfl, by rw [e1, e2]; exact hr, ((below_drewN n).setCell (p := ⟨b, 7, none⟩) rfl _).trans hbl⟩
    have f5 : ∀ n, (w.drewN n).frozen? ⟨b, 5, none⟩ = false := fun n => (h.drewN n).frozen 5
    have f7 : ∀ n, (w.drewN n).frozen? ⟨b, 7, none⟩ = false := fun n => (h.drewN n).frozen 7
    have d5 : ∀ n, (w.drewN n).cell? ⟨b, 5, none⟩ = some (.bool false) := fun n => by have := (h.drewN n).c5; rw [hs] at this; exact this
    have d7 : ∀ n, (w.drewN n).cell? ⟨b, 7, none⟩ = some (.int .u8 s.last) := fun n => (h.drewN n).c7
    by_cases h0 : 0 < s.mx
    · by_cases h1 : s.mx < (s.out.length : Int)
      · have hp : s.putByte c = { s with skip := true } := by unfold RS.putByte; rw [hs, if_neg (by simp), if_pos ⟨h0, h1⟩]
        have HB := Lib.hid hb
        clear hb h
        go_enter Tryd.func71, Tryd.ntmps71
        go_wp2_with fail
        go_quiet ((go_at_call 91; exact Calls.quiet_of_same (len_quiet b s _ H.out)))
        go_wp2_with fail
        ((try simp only [Exit.inBlock, Exit.then]); refine bodyPost_ret (results_none rfl _ _ _) rfl ?_)
        rw [hp]
        exact ⟨rfl, (H.out.drewN _).setSkip true, (below_drewN _).setCell (p := ⟨b, 5, none⟩) rfl _⟩
      · have hp : s.putByte c = { s with last := c.toNat, out := s.out ++ [c] } := by unfold RS.putByte; rw [hs, if_neg (by simp), if_neg (fun z => h1 z.2)]
        have HB := Lib.hid (fun n => hb n _ hp rfl)
        clear hb h
        go_enter Tryd.func71, Tryd.ntmps71
        go_wp2_with fail
        go_quiet ((go_at_call 91; exact Calls.quiet_of_same (len_quiet b s _ H.out)))
        go_wp2_with fail
        refine (HB.out _).mono ?_
        rintro e w' ⟨rfl, hr, hbl⟩
        go_wp2_with fail
        go_end0
        exact ⟨rfl, hr, hbl⟩
    · have hp : s.putByte c = { s with last := c.toNat, out := s.out ++ [c] } := by unfold RS.putByte; rw [hs, if_neg (by simp), if_neg (fun z => h0 z.1)]
      have hd : decide (0 < s.mx) = false := decide_eq_false h0
      have HB := Lib.hid (fun n => hb n _ hp rfl)
      clear hb h
      go_enter Tryd.func71, Tryd.ntmps71
      go_wp2_with fail
      go_quiet (fail)
      go_wp2_with fail
      refine (HB.out _).mono ?_
      rintro e w' ⟨rfl, hr, hbl⟩
      go_wp2_with fail
      go_end0
      exact ⟨rfl, hr, hbl⟩
set_option maxHeartbeats 2000000 in
set_option maxRecDepth 100000 in
theorem writeStr_some (b : Nat) (s : RS) (u : List UInt8) (c : UInt8) (w : World) (h : RustAt b s w) (hlen : s.out.length + (u ++ [c]).length ≤ 140737488355328) :
    Calls Tryd.prog 72 #[.pointer (some ⟨b, 0, none⟩), .string (bs (u ++ [c]))] w fun e w' => e = .returned (.tuple #[]) ∧ RustAt b (s.putStr (u ++ [c])) w' ∧ Fr b w w' := by
  have h5 := h.c5
  have h9 := h.c9
  have H := Lib.hid h
  have hz : (bs (u ++ [c])).size = u.length + 1 := by rw [bs_size, List.length_append, List.length_singleton]
  have hat : ∀ h : u.length < (bs (u ++ [c])).size, (bs (u ++ [c]))[u.length]'h = c := fun h => bs_last u c h
  have hw : wrap64 (u.length : Int) = (u.length : Int) := by
    rw [List.length_append, List.length_singleton] at hlen
    unfold wrap64; omega
  cases hs : s.skip with
  | true =>
    have hp : s.putStr (u ++ [c]) = s := by unfold RS.putStr; rw [hs]; rfl
    rw [hs] at h5
    rw [hp]
    go_enter Tryd.func72, Tryd.ntmps72
    go_wp2_with fail
    ((try simp only [Exit.inBlock, Exit.then]); refine bodyPost_ret (results_none rfl _ _ _) rfl ?_)
    exact ⟨rfl, H.out, Fr.refl _ _⟩
  | false =>
    rw [hs] at h5
    have hb : ∀ (n : Nat) (s2 : RS), s.putStr (u ++ [c]) = s2 → s2 = { s with last := c.toNat, out := s.out ++ (u ++ [c]) } →
        Calls Tryd.prog 73 #[.pointer (some ⟨b, 3, none⟩), .string (bs (u ++ [c]))] ((w.drewN n).setCell ⟨b, 7, none⟩ (.int .u8 c.toNat)) fun e w' => (∃ n, e = .returned (.tuple #[.int .i64 n, .nilIface])) ∧ RustAt b (s.putStr (u ++ [c])) w' ∧ Fr b w w' := by
      intro n s2 e1 e2
      have hl : RustAt b { s with last := c.toNat } ((w.drewN n).setCell ⟨b, 7, none⟩ (.int .u8 c.toNat)) := (h.drewN n).setLast _
      refine (bldString_calls b { s with last := c.toNat } (u ++ [c]) _ hl hlen).mono ?_
      rintro e w' ⟨he, hr, hbl⟩
      exact ⟨he, by rw [e1, e2]; exact hr, ((below_drewN n).setCell (p := ⟨b, 7, none⟩) rfl _).trans hbl⟩
    have f5 : ∀ n, (w.drewN n).frozen? ⟨b, 5, none⟩ = false := fun n => (h.drewN n).frozen 5
    have f7 : ∀ n, (w.drewN n).frozen? ⟨b, 7, none⟩ = false := fun n => (h.drewN n).frozen 7
    have d5 : ∀ n, (w.drewN n).cell? ⟨b, 5, none⟩ = some (.bool false) := fun n => by have := (h.drewN n).c5; rw [hs] at this; exact this
    have d7 : ∀ n, (w.drewN n).cell? ⟨b, 7, none⟩ = some (.int .u8 s.last) := fun n => (h.drewN n).c7
    by_cases h0 : 0 < s.mx
    · by_cases h1 : s.mx < (s.out.length : Int)
      · have hp : s.putStr (u ++ [c]) = { s with skip := true } := by unfold RS.putStr; rw [hs, if_neg (by simp), if_pos ⟨h0, h1⟩]
        have HB := Lib.hid hb
        clear hb h
        go_enter Tryd.func72, Tryd.ntmps72
        go_wp2_with fail
        go_quiet ((go_at_call 91; exact Calls.quiet_of_same (len_quiet b s _ H.out)))
        go_wp2_with fail
        ((try simp only [Exit.inBlock, Exit.then]); refine bodyPost_ret (results_none rfl _ _ _) rfl ?_)
        rw [hp]
        exact ⟨rfl, (H.out.drewN _).setSkip true, (below_drewN _).setCell (p := ⟨b, 5, none⟩) rfl _⟩
      · have hp : s.putStr (u ++ [c]) = { s with last := c.toNat, out := s.out ++ (u ++ [c]) } := by unfold RS.putStr; rw [hs, if_neg (by simp), if_neg (fun z => h1 z.2), List.getLast?_concat]
        have HB := Lib.hid (fun n => hb n _ hp rfl)
        clear hb h
        go_enter Tryd.func72, Tryd.ntmps72
        go_wp2_with fail
        go_quiet ((go_at_call 91; exact Calls.quiet_of_same (len_quiet b s _ H.out)))
        go_wp2_with fail
        refine (HB.out _).mono ?_
        rintro e w' ⟨⟨n, rfl⟩, hr, hbl⟩
        go_wp2_with fail
        go_end0
        exact ⟨rfl, hr, hbl⟩
    · have hp : s.putStr (u ++ [c]) = { s with last := c.toNat, out := s.out ++ (u ++ [c]) } := by unfold RS.putStr; rw [hs, if_neg (by simp), if_neg (fun z => h0 z.1), List.getLast?_concat]
      have hd : decide (0 < s.mx) = false := decide_eq_false h0
      have HB := Lib.hid (fun n => hb n _ hp rfl)
      clear hb h
      go_enter Tryd.func72, Tryd.ntmps72
      go_wp2_with fail
      go_quiet (fail)
      go_wp2_with fail
      refine (HB.out _).mono ?_
      rintro e w' ⟨⟨n, rfl⟩, hr, hbl⟩
      go_wp2_with fail
      go_end0
      exact ⟨rfl, hr, hbl⟩

set_option maxHeartbeats 2000000 in
set_option maxRecDepth 100000 in
theorem writeStr_none (b : Nat) (s : RS) (w : World) (h : RustAt b s w) :
    Calls Tryd.prog 72 #[.pointer (some ⟨b, 0, none⟩), .string (bs [])] w fun e w' => e = .returned (.tuple #[]) ∧ RustAt b (s.putStr []) w' ∧ Fr b w w' := by
  have h5 := h.c5
  have h9 := h.c9
  have H := Lib.hid h
  have hz : (bs []).size = 0 := rfl
  cases hs : s.skip with
  | true =>
    have hp : s.putStr [] = s := by unfold RS.putStr; rw [hs]; rfl
    rw [hs] at h5
    rw [hp]
    go_enter Tryd.func72, Tryd.ntmps72
    go_wp2_with fail
    ((try simp only [Exit.inBlock, Exit.then]); refine bodyPost_ret (results_none rfl _ _ _) rfl ?_)
    exact ⟨rfl, H.out, Fr.refl _ _⟩
  | false =>
    rw [hs] at h5
    have f5 : ∀ n, (w.drewN n).frozen? ⟨b, 5, none⟩ = false := fun n => (h.drewN n).frozen 5
    have d5 : ∀ n, (w.drewN n).cell? ⟨b, 5, none⟩ = some (.bool false) := fun n => by have := (h.drewN n).c5; rw [hs] at this; exact this
    by_cases h0 : 0 < s.mx
    · by_cases h1 : s.mx < (s.out.length : Int)
      · have hp : s.putStr [] = { s with skip := true } := by unfold RS.putStr; rw [hs, if_neg (by simp), if_pos ⟨h0, h1⟩]
        clear h
        go_enter Tryd.func72, Tryd.ntmps72
        go_wp2_with fail
        go_quiet ((go_at_call 91; exact Calls.quiet_of_same (len_quiet b s _ H.out)))
        go_wp2_with fail
        ((try simp only [Exit.inBlock, Exit.then]); refine bodyPost_ret (results_none rfl _ _ _) rfl ?_)
        rw [hp]
        exact ⟨rfl, (H.out.drewN _).setSkip true, (below_drewN _).setCell (p := ⟨b, 5, none⟩) rfl _⟩
      · have hp : s.putStr [] = s := by unfold RS.putStr; rw [hs, if_neg (by simp), if_neg (fun z => h1 z.2)]; rfl
        clear h
        go_enter Tryd.func72, Tryd.ntmps72
        go_wp2_with fail
        go_quiet ((go_at_call 91; exact Calls.quiet_of_same (len_quiet b s _ H.out)))
        go_wp2_with fail
        go_end0
        rw [hp]
        exact ⟨rfl, H.out.drewN _, below_drewN _⟩
    · have hp : s.putStr [] = s := by unfold RS.putStr; rw [hs, if_neg (by simp), if_neg (fun z => h0 z.1)]; rfl
      have hd : decide (0 < s.mx) = false := decide_eq_false h0
      clear h
      go_enter Tryd.func72, Tryd.ntmps72
      go_wp2_with fail
      go_quiet (fail)
      go_wp2_with fail
      go_end0
      rw [hp]
      exact ⟨rfl, H.out.drewN _, below_drewN _⟩

theorem writeStr_calls (b : Nat) (s : RS) (t : List UInt8) (w : World) (h : RustAt b s w) (hlen : s.out.length + t.length ≤ 140737488355328) :
    Calls Tryd.prog 72 #[.pointer (some ⟨b, 0, none⟩), .string (bs t)] w fun e w' => e = .returned (.tuple #[]) ∧ RustAt b (s.putStr t) w' ∧ Fr b w w' := by
  rcases List.eq_nil_or_concat t with rfl | ⟨u, c, rfl⟩
  · exact writeStr_none b s w h
  · rw [List.concat_eq_append] at hlen ⊢
    exact writeStr_some b s u c w h hlen
end Go.Proofs.YtpmlnhddkbgefaaDoor
namespace Go.Proofs.YtpmlnhddkbgefaaDoor
open Go.RowKit
class Stays (T : World → Prop) : Prop where
  below : ∀ {w w' : World}, T w → Below w.heap.size w w' → T w'
/-- What held of a world from whose size on the blocks lie that may have been written since. -/
def Based (T : World → Prop) (b : Nat) (w : World) : Prop := ∃ w0, T w0 ∧ w0.heap.size ≤ b ∧ Below w0.heap.size w0 w
theorem Based.on {T : World → Prop} {b : Nat} {w w' : World} (h : Based T b w) (hb : Below b w w') : Based T b w' := by
  obtain ⟨w0, h0, h1, h2⟩ := h
  exact ⟨w0, h0, h1, h2.trans (hb.mono h1)⟩
theorem Based.out {T : World → Prop} [Stays T] {b : Nat} {w : World} (h : Based T b w) : T w := by
  obtain ⟨w0, h0, h1, h2⟩ := h
  exact Stays.below h0 h2
theorem Based.mk' {T : World → Prop} {b : Nat} {w w' : World} (h : T w) (hb : w.heap.size ≤ b) (h2 : Below w.heap.size w w') : Based T b w' := ⟨w, h, hb, h2⟩
end Go.Proofs.YtpmlnhddkbgefaaDoor
