/- The reader of Rust names in plain Lean: lists of bytes, no Go. The state of the reader of Rust names, as it lies in memory: a predicate on worlds and what stores do to it. Contracts of the reader's smallest functions. What stays true of a world behind a call. -/
import Derived.RowKit
import Derived.Test.YtkhbmkccbhkolaaGreatDoorProg
import Derived.WalkKit
import Derived.WalkSpells
import Derived.WalkLawsBesides
import Derived.Lib.Builder
import Derived.Lib.AppendStr
import Derived.Lib.Strings
import Derived.Lib.BufferKept
import Derived.Lib.OwnKind
import Derived.Handy
import Derived.Outline
import Derived.Lib.IndexBytes
import Derived.Lib.Hide
import Derived.Below
namespace Go.Proofs.YtkhbmkccbhkolaaGreatDoor.Dm
set_option linter.unusedVariables false
set_option linter.unusedSimpArgs false
open Go.RowKit

def isDig (c : UInt8) : Bool := decide (48 ≤ (c.toNat : Int)) && decide ((c.toNat : Int) ≤ 57)

/-- decimalNumber's loop. -/
def dec : Int → List UInt8 → Option (Int × List UInt8)
  | v, [] => some (v, [])
  | v, c :: r => if isDig c then (if v ≥ 214748364 - ((c.toNat : Int) - 48) then none else dec (v * 10 + ((c.toNat : Int) - 48)) r) else some (v, c :: r)

def decimal (l : List UInt8) : Option (Int × List UInt8) := if l = [] then none else dec 0 l

/-- A digit in base 62. -/
def dig62 (c : UInt8) : Option Int :=
  if 48 ≤ (c.toNat : Int) ∧ (c.toNat : Int) ≤ 57 then some ((c.toNat : Int) - 48)
  else if 97 ≤ (c.toNat : Int) ∧ (c.toNat : Int) ≤ 122 then some ((c.toNat : Int) - 87)
  else if 65 ≤ (c.toNat : Int) ∧ (c.toNat : Int) ≤ 90 then some ((c.toNat : Int) - 29)
  else none

def b62 : Int → List UInt8 → Option (Int × List UInt8)
  | _, [] => none
  | v, c :: r => if c = 95 then some (wrap64 (v + 1), r) else match dig62 c with
    | some d => b62 (wrap64 (wrap64 (v * 62) + d)) r
    | none => none

def base62 : List UInt8 → Option (Int × List UInt8)
  | [] => none
  | c :: r => if c = 95 then some (0, r) else b62 0 (c :: r)

end Go.Proofs.YtkhbmkccbhkolaaGreatDoor.Dm
namespace Go.Proofs.YtkhbmkccbhkolaaGreatDoor
set_option linter.unusedVariables false
set_option linter.unusedSimpArgs false
open Go.RowKit

/-- A list of bytes as a Go string. -/
def bs (l : List UInt8) : ByteArray := ⟨l.toArray⟩

structure RS where
  orig : List UInt8
  str : List UInt8
  off : Int
  out : List UInt8
  skip : Bool
  lt : Int
  last : Int
  ng : Bool
  mx : Int

/-- Read on, up to r. -/
def RS.adv (s : RS) (r : List UInt8) : RS := { s with str := r, off := s.off + ((s.str.length : Int) - r.length) }
theorem RS.adv_adv (s : RS) (r t : List UInt8) : (s.adv r).adv t = s.adv t := by simp [RS.adv]; omega
theorem RS.adv_self (s : RS) : s.adv s.str = s := by simp [RS.adv]
theorem RS.adv_str (s : RS) (r : List UInt8) : (s.adv r).str = r := rfl

def RS.cells (s : RS) (p v : Value) : Array Value :=
  #[.string (bs s.orig), .string (bs s.str), .int .i64 s.off, p, v, .bool s.skip, .int .i64 s.lt, .int .u8 s.last, .bool s.ng, .int .i64 s.mx]

/-- In the world w the block b holds a rustState that reads s. -/
def RustAt (b : Nat) (s : RS) (w : World) : Prop :=
  (0 ≤ s.off ∧ s.off + s.str.length ≤ 4611686018427387904) ∧
  ∃ p v, w.heap[b]? = some (.cells (s.cells (.pointer p) v) 72 (0, 0)) ∧ (p = none ∨ p = some ⟨b, 3, none⟩) ∧
    w.ownsRow b 5 1 v s.out.length (Lib.byteCells s.out) ∧ v.ownBlock ≠ some b

theorem bs_size (l : List UInt8) : (bs l).size = l.length := by simp [bs, ByteArray.size]
theorem bs_toList (l : List UInt8) : (bs l).data.toList = l := by simp [bs]

theorem RustAt.lt {b : Nat} {s : RS} {w : World} (h : RustAt b s w) : b < w.heap.size := by
  obtain ⟨_, p, v, hb, _⟩ := h
  exact (Array.getElem?_eq_some_iff.1 hb).1

theorem RustAt.frozen {b : Nat} {s : RS} {w : World} (h : RustAt b s w) (j : Nat) : w.frozen? ⟨b, j, none⟩ = false := by
  obtain ⟨_, p, v, hb, _⟩ := h
  exact Lib.frozen_of_heap hb j

theorem RustAt.c0 {b : Nat} {s : RS} {w : World} (h : RustAt b s w) : w.cell? ⟨b, 0, none⟩ = some (.string (bs s.orig)) := by
  obtain ⟨_, p, v, hb, _⟩ := h
  rw [Lib.cell_of_heap hb]; rfl
theorem RustAt.c1 {b : Nat} {s : RS} {w : World} (h : RustAt b s w) : w.cell? ⟨b, 1, none⟩ = some (.string (bs s.str)) := by
  obtain ⟨_, p, v, hb, _⟩ := h
  rw [Lib.cell_of_heap hb]; rfl
theorem RustAt.c2 {b : Nat} {s : RS} {w : World} (h : RustAt b s w) : w.cell? ⟨b, 2, none⟩ = some (.int .i64 s.off) := by
  obtain ⟨_, p, v, hb, _⟩ := h
  rw [Lib.cell_of_heap hb]; rfl
theorem RustAt.c5 {b : Nat} {s : RS} {w : World} (h : RustAt b s w) : w.cell? ⟨b, 5, none⟩ = some (.bool s.skip) := by
  obtain ⟨_, p, v, hb, _⟩ := h
  rw [Lib.cell_of_heap hb]; rfl
theorem RustAt.c6 {b : Nat} {s : RS} {w : World} (h : RustAt b s w) : w.cell? ⟨b, 6, none⟩ = some (.int .i64 s.lt) := by
  obtain ⟨_, p, v, hb, _⟩ := h
  rw [Lib.cell_of_heap hb]; rfl
theorem RustAt.c7 {b : Nat} {s : RS} {w : World} (h : RustAt b s w) : w.cell? ⟨b, 7, none⟩ = some (.int .u8 s.last) := by
  obtain ⟨_, p, v, hb, _⟩ := h
  rw [Lib.cell_of_heap hb]; rfl
theorem RustAt.c8 {b : Nat} {s : RS} {w : World} (h : RustAt b s w) : w.cell? ⟨b, 8, none⟩ = some (.bool s.ng) := by
  obtain ⟨_, p, v, hb, _⟩ := h
  rw [Lib.cell_of_heap hb]; rfl
theorem RustAt.c9 {b : Nat} {s : RS} {w : World} (h : RustAt b s w) : w.cell? ⟨b, 9, none⟩ = some (.int .i64 s.mx) := by
  obtain ⟨_, p, v, hb, _⟩ := h
  rw [Lib.cell_of_heap hb]; rfl

theorem RustAt.drew {b : Nat} {s : RS} {w : World} (h : RustAt b s w) : RustAt b s w.drew := h

/-- A store into one of its cells that is neither of the builder's two. -/
theorem RustAt.set {b : Nat} {s s' : RS} {w : World} (h : RustAt b s w) (j : Nat) (x : Value)
    (hs : ∀ p v, (s.cells p v).setIfInBounds j x = s'.cells p v) (ho : s'.out = s.out)
    (hoff : 0 ≤ s'.off ∧ s'.off + s'.str.length ≤ 4611686018427387904) : RustAt b s' (w.setCell ⟨b, j, none⟩ x) := by
  obtain ⟨_, p, v, hb, hp, hown, hne⟩ := h
  refine ⟨hoff, p, v, ?_, hp, ?_, hne⟩
  · simp [World.setCell, Array.getElem?_modify, hb, ← hs]
  · rw [ho]
    exact hown.kept (row := some b) ⟨rfl, rfl, rfl, by simp [World.setCell], fun k _ hk => Below.heap_setCell _ _ _ _ (fun e => hk (by simp [e]))⟩ (Or.inr hne)

/-- A new block. -/
theorem RustAt.alloc {b : Nat} {s : RS} {w : World} (h : RustAt b s w) (o : Obj) : RustAt b s (w.alloc o) := by
  have hlt := h.lt
  obtain ⟨hoff, p, v, hb, hp, hown, hne⟩ := h
  exact ⟨hoff, p, v, (Lib.alloc_old w o b hlt).trans hb, hp, hown.alloc o, hne⟩

/-- How many bytes are left to be read: a loop's measure. -/
def strLen (b : Nat) (w : World) : Nat := match w.cell? ⟨b, 1, none⟩ with | some (.string s) => s.size | _ => 0
theorem RustAt.strLen {b : Nat} {s : RS} {w : World} (h : RustAt b s w) : strLen b w = s.str.length := by
  simp [YtkhbmkccbhkolaaGreatDoor.strLen, h.c1, bs_size]

/-- What a call of the reader's may do to memory: below its state's block b nothing has turned; of the other blocks none that is no row of bytes. -/
structure Fr (b : Nat) (w w' : World) : Prop where
  below : Below b w w'
  kept : Lib.OthersKept 5 (some b) w w'
instance (b : Nat) (w w' : World) : Coe (Fr b w w') (Below b w w') := ⟨Fr.below⟩
theorem Fr.refl (b : Nat) (w : World) : Fr b w w := ⟨Below.refl b w, Lib.OthersKept.refl _ _ w⟩
theorem Fr.trans {b : Nat} {u v w : World} (h : Fr b u v) (k : Fr b v w) : Fr b u w := ⟨h.below.trans k.below, h.kept.trans k.kept⟩
theorem Fr.mono {b B : Nat} {w w' : World} (h : Fr b w w') (hB : B ≤ b) : Below B w w' := h.below.mono hB
theorem Fr.block {b : Nat} {w w' : World} (h : Fr b w w') : ∀ k, k < b → w'.heap[k]? = w.heap[k]? := h.below.block
theorem Fr.size {b : Nat} {w w' : World} (h : Fr b w w') : w.heap.size ≤ w'.heap.size := h.below.size
theorem Fr.of_below {b : Nat} {w w' : World} (h : Below w.heap.size w w') (hb : b ≤ w.heap.size) : Fr b w w' := ⟨h.mono hb, (Lib.OthersKept.refl _ _ w).below h⟩
theorem Fr.drew {b : Nat} {u w : World} (h : Fr b u w) : Fr b u w.drew := ⟨h.below.drew, h.kept.drew⟩
theorem Fr.alloc {b : Nat} {u w : World} (h : Fr b u w) (hB : b ≤ w.heap.size) (o : Obj) : Fr b u (w.alloc o) := ⟨h.below.alloc hB o, h.kept.alloc o⟩
theorem Fr.setCell {b : Nat} {u w : World} (h : Fr b u w) {p : Addr} (hp : p.block = b) (v : Value) : Fr b u (w.setCell p v) := ⟨h.below.setCell (by omega) v, h.kept.setCell p hp v⟩
theorem Fr.grown {b : Nat} {u w w' : World} {row : Option Nat} (h : Fr b u w) (hg : w.grownBy w' row) (hB : b ≤ w.heap.size) (hr : ∀ k, row = some k → b ≤ k)
    (hrow : ∀ g, row = some g → ∃ c fz, w.heap[g]? = some (.cells c 5 fz)) : Fr b u w' := ⟨h.below.grown hg hB hr, h.kept.grown hg hrow⟩
/-- Another block, that is no row of bytes. -/
theorem Fr.other {b k : Nat} {w w' : World} {o : Obj} (h : Fr b w w') (hk : w.heap[k]? = some o) (hb : k ≠ b) (ho : ∀ c fz, o ≠ .cells c 5 fz) : w'.heap[k]? = some o :=
  h.kept k o hk (by simpa using hb) ho

/-- The reader's own panic. -/
def Fails (b : Nat) (w : World) (e : Ending) (w' : World) : Prop :=
  (∃ m o, e = .panicked [{ v := .iface 64 (.agg #[.string m, .int .i64 o]), recovered := false }]) ∧ Fr b w w'

/-- What a call may do to memory: what lay below b is as it was. -/
theorem rust_below_set {b : Nat} {w w' : World} (h : Fr b w w') (j : Nat) (x : Value) : Fr b w (w'.setCell ⟨b, j, none⟩ x) :=
  h.setCell (p := ⟨b, j, none⟩) rfl x

end Go.Proofs.YtkhbmkccbhkolaaGreatDoor
namespace Go.Proofs.YtkhbmkccbhkolaaGreatDoor
set_option linter.unusedVariables false
set_option linter.unusedSimpArgs false
open Go.RowKit

theorem isDigit_calls (c : Int) (w : World) :
    Calls Tryz.prog 54 #[.int .u8 c] w fun e w' => e = .returned (.bool (decide (48 ≤ c) && decide (c ≤ 57))) ∧ w = w' := by
  go_enter Tryz.func54, Tryz.ntmps54
  go_wp2
  · go_ret
    exact ⟨by simp [*], rfl⟩
  · have h : ¬ 48 ≤ c := by omega
    go_ret
    exact ⟨by simp [h], rfl⟩

theorem fail_calls (b : Nat) (s : RS) (m : ByteArray) (w : World) (h : RustAt b s w) :
    Calls Tryz.prog 37 #[.pointer (some ⟨b, 0, none⟩), .string m] w fun e w' => Fails b w e w' := by
  have h2 := h.c2
  go_enter Tryz.func37, Tryz.ntmps37
  go_wp2
  exact ⟨rfl, ⟨_, _, rfl⟩, Fr.refl _ _⟩

theorem fail_same (b : Nat) (s : RS) (m : ByteArray) (w : World) (h : RustAt b s w) :
    Calls Tryz.prog 37 #[.pointer (some ⟨b, 0, none⟩), .string m] w fun e w' => (∃ m o, e = .panicked [{ v := .iface 64 (.agg #[.string m, .int .i64 o]), recovered := false }]) ∧ w = w' := by
  have h2 := h.c2
  go_enter Tryz.func37, Tryz.ntmps37
  go_wp2
  exact ⟨rfl, ⟨_, _, rfl⟩, rfl⟩

theorem bs_extract (l : List UInt8) (n : Nat) : (bs l).extract n l.length = bs (l.drop n) := by
  apply ByteArray.ext
  simp [bs, ByteArray.data_extract]
  rw [List.take_of_length_le (by simp)]
@[go_sem] theorem bs_zero (c : UInt8) (r : List UInt8) (h : 0 < (bs (c :: r)).size) : (bs (c :: r))[0]'h = c := rfl
theorem bs_take (l : List UInt8) (n : Nat) : (bs l).extract 0 n = bs (l.take n) := by
  apply ByteArray.ext
  simp [bs, ByteArray.data_extract]

theorem advance_calls (b : Nat) (s : RS) (n : Nat) (w : World) (h : RustAt b s w) (hn : n ≤ s.str.length) :
    Calls Tryz.prog 65 #[.pointer (some ⟨b, 0, none⟩), .int .i64 n] w fun e w' =>
      e = .returned (.tuple #[]) ∧ RustAt b (s.adv (s.str.drop n)) w' ∧ Fr b w w' := by
  have h1 := h.c1
  have h2 := h.c2
  have f1 := h.frozen 1
  have f2 := h.frozen 2
  obtain ⟨o0, o1⟩ := h.1
  have hz := bs_size s.str
  go_enter Tryz.func65, Tryz.ntmps65
  go_wp2
  go_end0
  rw [bs_extract]
  refine ⟨rfl, ?_, rust_below_set (rust_below_set (Fr.refl _ _) _ _) _ _⟩
  refine RustAt.set (s := { s with str := s.str.drop n }) (h.set (s' := { s with str := s.str.drop n }) 1 _ (fun _ _ => rfl) rfl ?_) 2 _ (fun _ _ => ?_) rfl ?_
  · simp; omega
  · have e : ((s.str.length : Int) - ((s.str.drop n).length : Int)) = n := by simp; omega
    simp only [RS.adv, RS.cells, e]; rfl
  · simp [RS.adv]; omega

theorem dec_step (c : UInt8) (r : List UInt8) (v : Int) (h : Dm.isDig c = true) (hv : ¬ v ≥ 214748364 - ((c.toNat : Int) - 48)) :
    Dm.dec v (c :: r) = Dm.dec (v * 10 + ((c.toNat : Int) - 48)) r := by
  rw [Dm.dec, if_pos h, if_neg hv]

/-- What decimalNumber leaves. -/
def DecPost (b : Nat) (s : RS) (w : World) (e : Ending) (w' : World) : Prop :=
  match Dm.decimal s.str with
  | some (n, r) => e = .returned (.int .i64 n) ∧ RustAt b (s.adv r) w' ∧ Fr b w w'
  | none => Fails b w e w'

theorem dec_post {b : Nat} {s : RS} {w w' : World} {n : Int} {r : List UInt8} (h : Dm.decimal s.str = some (n, r)) (h1 : RustAt b (s.adv r) w') (h2 : Fr b w w') :
    DecPost b s w (.returned (.int .i64 n)) w' := by
  unfold DecPost; rw [h]; exact ⟨rfl, h1, h2⟩
theorem dec_fails {b : Nat} {s : RS} {w w' : World} {e : Ending} (h : Dm.decimal s.str = none) (h1 : Fails b w e w') : DecPost b s w e w' := by
  unfold DecPost; rw [h]; exact h1

/-- decimalNumber's loop, behind x of the value and r of the text. -/
def DecRel (b : Nat) (s : RS) (w : World) (v : Value) (wr : World) : Prop :=
  ∃ (x : Int) (r : List UInt8), v = .int .i64 x ∧ Dm.dec x r = Dm.decimal s.str ∧ RustAt b (s.adv r) wr ∧ Fr b w wr ∧ 0 ≤ x ∧ x ≤ 2147483647

set_option maxHeartbeats 1000000 in
theorem decimalNumber_calls (b : Nat) (s : RS) (w : World) (h : RustAt b s w) :
    Calls Tryz.prog 89 #[.pointer (some ⟨b, 0, none⟩)] w fun e w' => DecPost b s w e w' := by
  have h1 := h.c1
  have hz := bs_size s.str
  by_cases he : s.str = []
  · have hl : ((s.str.length : Int) == 0) = true := by simp [he]
    have hd : Hid (Dm.decimal s.str = none) := Lib.hid (by simp [Dm.decimal, he])
    clear he
    go_enter Tryz.func89, Tryz.ntmps89
    go_wp2_with (go_at_call 37; refine (fail_calls b s _ _ h).mono ?_; rintro e w1 ⟨⟨m, o, rfl⟩, hb1⟩)
    exact ⟨rfl, dec_fails hd.out ⟨⟨m, o, rfl⟩, hb1⟩⟩
  · have hl : ((s.str.length : Int) == 0) = false := by cases hs : s.str; exact absurd hs he; simp; omega
    have hd : Hid (Dm.dec 0 s.str = Dm.decimal s.str) := Lib.hid (by simp [Dm.decimal, he])
    clear he
    go_enter Tryz.func89, Tryz.ntmps89
    go_wp2_with fail
    go_loopw [3] (fun v wr => DecRel b s w v wr) (fun _ wr => strLen b wr)
    case atStart => exact ⟨0, s.str, rfl, hd.out, by rw [RS.adv_self]; exact h, Fr.refl _ _, by omega, by omega⟩
    case round =>
      clear h1 hz hl h
      obtain ⟨x, r, rfl, hx, hr, hb, x0, x1⟩ := hrel
      have h1 := hr.c1
      rw [RS.adv_str] at h1
      have hz := bs_size r
      cases r with
      | nil =>
        have Hx := Lib.hid hx
        clear hx
        go_wp2_with fail
        go_ret
        exact dec_post (by rw [← Hx.out]; simp [Dm.dec]) hr hb
      | cons c r =>
        have hc := UInt8.toNat_lt c
        have hm : strLen b wr = (c :: r).length := hr.strLen
        by_cases hd : Dm.isDig c = true
        · have hx2 : Hid (¬ x ≥ 214748364 - ((c.toNat : Int) - 48) → Dm.dec (x * 10 + ((c.toNat : Int) - 48)) r = Dm.decimal s.str) := Lib.hid fun hv => by rw [← hx, dec_step c r x hd hv]
          have hx3 : Hid (x ≥ 214748364 - ((c.toNat : Int) - 48) → Dm.decimal s.str = none) := Lib.hid fun hv => by rw [← hx, Dm.dec, if_pos hd, if_pos hv]
          have Hm := Lib.hid hm
          clear hx hm
          simp only [Dm.isDig, Bool.and_eq_true, decide_eq_true_eq] at hd
          obtain ⟨d0, d1⟩ := hd
          go_wp2_with (go_at_call 54; refine (isDigit_calls _ _).mono ?_; rintro e w1 ⟨rfl, rfl⟩)
          · have hv : x ≥ 214748364 - ((c.toNat : Int) - 48) := by assumption
            refine (fail_calls b _ _ _ hr).mono ?_
            rintro e w1 ⟨⟨m, o, rfl⟩, hb1⟩
            exact ⟨rfl, dec_fails (hx3.out hv) ⟨⟨m, o, rfl⟩, hb.trans hb1⟩⟩
          · have hv : ¬ x ≥ 214748364 - ((c.toNat : Int) - 48) := by omega
            refine (advance_calls b _ 1 _ hr (by simp [RS.adv_str])).mono ?_
            rintro e w1 ⟨rfl, hr1, hb1⟩
            go_wp2_with fail
            rw [RS.adv_adv] at hr1
            go_roundw
            case rel => exact ⟨_, r, rfl, hx2.out hv, hr1, hb.trans hb1, by omega, by omega⟩
            case measure => rw [hr1.strLen, Hm.out]; simp [RS.adv_str]
        · have hx2 : Hid (some (x, c :: r) = Dm.decimal s.str) := Lib.hid (by rw [← hx, Dm.dec, if_neg hd])
          clear hx hm
          simp only [Dm.isDig, Bool.and_eq_true, decide_eq_true_eq] at hd
          go_wp2_with (go_at_call 54; refine (isDigit_calls _ _).mono ?_; rintro e w1 ⟨rfl, rfl⟩)
          go_ret
          exact dec_post hx2.out.symm hr hb
/-! ### numbers in base 62 -/
def B62Post (b : Nat) (s : RS) (w : World) (e : Ending) (w' : World) : Prop :=
  match Dm.base62 s.str with
  | some (n, r) => e = .returned (.int .i64 n) ∧ RustAt b (s.adv r) w' ∧ Fr b w w'
  | none => Fails b w e w'

theorem b62_post {b : Nat} {s : RS} {w w' : World} {n : Int} {r : List UInt8} (h : Dm.base62 s.str = some (n, r)) (h1 : RustAt b (s.adv r) w') (h2 : Fr b w w') :
    B62Post b s w (.returned (.int .i64 n)) w' := by
  unfold B62Post; rw [h]; exact ⟨rfl, h1, h2⟩
theorem b62_fails {b : Nat} {s : RS} {w w' : World} {e : Ending} (h : Dm.base62 s.str = none) (h1 : Fails b w e w') : B62Post b s w e w' := by
  unfold B62Post; rw [h]; exact h1

def B62Rel (b : Nat) (s : RS) (w : World) (v : Value) (wr : World) : Prop :=
  ∃ (x : Int) (r : List UInt8), v = .int .i64 x ∧ Dm.b62 x r = Dm.base62 s.str ∧ RustAt b (s.adv r) wr ∧ Fr b w wr

theorem toNat_eq {c : UInt8} {n : Nat} (hn : n < 256) : (((c.toNat : Int) == (n : Int)) = true) ↔ c = UInt8.ofNat n := by
  rw [beq_iff_eq]
  constructor
  · intro h
    have : c.toNat = n := by omega
    rw [← this]; simp
  · rintro rfl
    simp; omega

/-- The loop's round at a digit: what the reader comes to. -/
theorem b62_step {x d : Int} {c : UInt8} {r : List UInt8} (hc : c ≠ 95) (hd : Dm.dig62 c = some d) : Dm.b62 x (c :: r) = Dm.b62 (wrap64 (wrap64 (x * 62) + d)) r := by
  rw [Dm.b62, if_neg hc, hd]
theorem b62_none {x : Int} {c : UInt8} {r : List UInt8} (hc : c ≠ 95) (hd : Dm.dig62 c = none) : Dm.b62 x (c :: r) = none := by
  rw [Dm.b62, if_neg hc, hd]
theorem b62_end {x : Int} {r : List UInt8} : Dm.b62 x (95 :: r) = some (wrap64 (x + 1), r) := by
  rw [Dm.b62, if_pos rfl]

set_option maxHeartbeats 4000000 in
theorem base62Number_calls (b : Nat) (s : RS) (w : World) (h : RustAt b s w) :
    Calls Tryz.prog 81 #[.pointer (some ⟨b, 0, none⟩)] w fun e w' => B62Post b s w e w' := by
  have h1 := h.c1
  by_cases hu : s.str.head? = some 95
  · obtain ⟨r, hr⟩ : ∃ r, s.str = 95 :: r := by
      cases hs : s.str with
      | nil => rw [hs] at hu; cases hu
      | cons c r => rw [hs] at hu; cases hu; exact ⟨r, rfl⟩
    have hp : Hid (Dm.base62 s.str = some (0, r)) := Lib.hid (by rw [hr]; rfl)
    have hdr : Hid (s.str.drop 1 = r) := Lib.hid (by rw [hr]; rfl)
    have hl : 1 ≤ s.str.length := by rw [hr]; simp
    rw [hr] at h1
    have hz := bs_size (95 :: r)
    have had := advance_calls b s 1 w h hl
    clear hr hu
    go_enter Tryz.func81, Tryz.ntmps81
    go_wp2_with (go_at_call 65; refine had.mono ?_; rintro e w1 ⟨rfl, hr1, hb1⟩)
    go_ret
    rw [hdr.out] at hr1
    exact b62_post hp.out hr1 hb1
  · have HB : Hid (Dm.b62 0 s.str = Dm.base62 s.str) := Lib.hid (by
      cases hs : s.str with
      | nil => rfl
      | cons c r => rw [hs] at hu; simp only [List.head?_cons, Option.some.injEq] at hu; rw [Dm.base62, if_neg hu])
    have hgu : s.str = [] ∨ ∃ c r, s.str = c :: r ∧ ((c.toNat : Int) == 95) = false := by
      cases hs : s.str with
      | nil => exact .inl rfl
      | cons c r =>
        rw [hs] at hu
        simp only [List.head?_cons, Option.some.injEq] at hu
        refine .inr ⟨c, r, rfl, ?_⟩
        rw [beq_eq_false_iff_ne]
        intro e
        exact hu ((toNat_eq (n := 95) (by omega)).1 (by rw [e]; rfl))
    clear hu
    have hat : RustAt b (s.adv s.str) w := by rw [RS.adv_self]; exact h
    rcases hgu with hs | ⟨c, r, hs, hc⟩
    all_goals
      rw [hs] at h1
      have hz := bs_size s.str
      rw [hs] at hz
      clear hs h
      go_enter Tryz.func81, Tryz.ntmps81
      go_wp2_with fail
      clear h1 hz
      go_loopw [3] (fun v wr => B62Rel b s w v wr) (fun _ wr => strLen b wr)
      case atStart => exact ⟨0, s.str, rfl, HB.out, hat, Fr.refl _ _⟩
      case round =>
        obtain ⟨x, r, rfl, hx, hr, hb⟩ := hrel
        have h1 := hr.c1
        rw [RS.adv_str] at h1
        have hz := bs_size r
        have hm := Lib.hid hr.strLen
        cases r with
        | nil =>
          have Hx : Hid (Dm.base62 s.str = none) := Lib.hid (by rw [← hx]; rfl)
          clear hx
          go_wp2_with (go_at_call 37; refine (fail_calls b _ _ _ hr).mono ?_; rintro e w1 ⟨⟨m, o, rfl⟩, hb1⟩)
          exact ⟨rfl, b62_fails Hx.out ⟨⟨m, o, rfl⟩, hb.trans hb1⟩⟩
        | cons c r =>
          have had := advance_calls b _ 1 wr hr (by simp [RS.adv_str])
          have hc := UInt8.toNat_lt c
          by_cases h95 : c = 95
          · subst h95
            have Hx : Hid (Dm.base62 s.str = some (wrap64 (x + 1), r)) := Lib.hid (by rw [← hx, b62_end])
            clear hx
            go_wp2_with (go_at_call 65; refine had.mono ?_; rintro e w1 ⟨rfl, hr1, hb1⟩)
            go_ret
            rw [RS.adv_adv] at hr1
            exact b62_post Hx.out hr1 (hb.trans hb1)
          · have hn : ((c.toNat : Int) == 95) = false := by
              rw [beq_eq_false_iff_ne]; intro e; exact h95 ((toNat_eq (n := 95) (by omega)).1 (by rw [e]; rfl))
            have hcs : (∃ d, Dm.dig62 c = some d ∧ 48 ≤ (c.toNat : Int) ∧ (c.toNat : Int) ≤ 57 ∧ d = (c.toNat : Int) - 48) ∨ (∃ d, Dm.dig62 c = some d ∧ 97 ≤ (c.toNat : Int) ∧ (c.toNat : Int) ≤ 122 ∧ d = (c.toNat : Int) - 97 + 10) ∨
                (∃ d, Dm.dig62 c = some d ∧ 65 ≤ (c.toNat : Int) ∧ (c.toNat : Int) ≤ 90 ∧ d = (c.toNat : Int) - 65 + 36) ∨
                (Dm.dig62 c = none ∧ ((c.toNat : Int) < 48 ∨ 57 < (c.toNat : Int)) ∧ ((c.toNat : Int) < 65 ∨ 90 < (c.toNat : Int)) ∧ ((c.toNat : Int) < 97 ∨ 122 < (c.toNat : Int))) := by
              unfold Dm.dig62
              by_cases a1 : 48 ≤ (c.toNat : Int) ∧ (c.toNat : Int) ≤ 57
              · rw [if_pos a1]; exact .inl ⟨_, rfl, a1.1, a1.2, rfl⟩
              · rw [if_neg a1]
                by_cases a2 : 97 ≤ (c.toNat : Int) ∧ (c.toNat : Int) ≤ 122
                · rw [if_pos a2]; exact .inr (.inl ⟨_, rfl, a2.1, a2.2, by omega⟩)
                · rw [if_neg a2]
                  by_cases a3 : 65 ≤ (c.toNat : Int) ∧ (c.toNat : Int) ≤ 90
                  · rw [if_pos a3]; exact .inr (.inr (.inl ⟨_, rfl, a3.1, a3.2, by omega⟩))
                  · rw [if_neg a3]; exact .inr (.inr (.inr ⟨rfl, by omega, by omega, by omega⟩))
            rcases hcs with ⟨d, hd, a1, a2, a3⟩ | ⟨d, hd, a1, a2, a3⟩ | ⟨d, hd, a1, a2, a3⟩ | ⟨hd, a1, a2, a3⟩
            · have Hx : Hid (Dm.b62 (wrap64 (wrap64 (x * 62) + ((c.toNat : Int) - 48))) r = Dm.base62 s.str) := Lib.hid (by rw [← hx, b62_step h95 hd, a3])
              clear hx hd a3 h95
              go_wp2_with (go_at_call 65; refine had.mono ?_; rintro e w1 ⟨rfl, hr1, hb1⟩)
              rw [RS.adv_adv] at hr1
              go_roundw
              case rel => exact ⟨_, r, rfl, Hx.out, hr1, hb.trans hb1⟩
              case measure => rw [hr1.strLen, hm.out]; simp [RS.adv_str]
            · have Hx : Hid (Dm.b62 (wrap64 (wrap64 (x * 62) + ((c.toNat : Int) - 97 + 10))) r = Dm.base62 s.str) := Lib.hid (by rw [← hx, b62_step h95 hd, a3])
              clear hx hd a3 h95
              go_wp2_with (go_at_call 65; refine had.mono ?_; rintro e w1 ⟨rfl, hr1, hb1⟩)
              rw [RS.adv_adv] at hr1
              go_roundw
              case rel => exact ⟨_, r, rfl, Hx.out, hr1, hb.trans hb1⟩
              case measure => rw [hr1.strLen, hm.out]; simp [RS.adv_str]
            · have Hx : Hid (Dm.b62 (wrap64 (wrap64 (x * 62) + ((c.toNat : Int) - 65 + 36))) r = Dm.base62 s.str) := Lib.hid (by rw [← hx, b62_step h95 hd, a3])
              clear hx hd a3 h95
              go_wp2_with (go_at_call 65; refine had.mono ?_; rintro e w1 ⟨rfl, hr1, hb1⟩)
              rw [RS.adv_adv] at hr1
              go_roundw
              case rel => exact ⟨_, r, rfl, Hx.out, hr1, hb.trans hb1⟩
              case measure => rw [hr1.strLen, hm.out]; simp [RS.adv_str]
            · have Hx : Hid (Dm.base62 s.str = none) := Lib.hid (by rw [← hx, b62_none h95 hd])
              clear hx hd h95
              go_wp2_with (first | (go_at_call 65; refine had.mono ?_; rintro e w1 ⟨rfl, hr1, hb1⟩) | (go_at_call 37; refine (fail_calls b _ _ _ hr1).mono ?_; rintro e w2 ⟨⟨m, o, rfl⟩, hb2⟩))
              all_goals exact ⟨rfl, b62_fails Hx.out ⟨⟨m, o, rfl⟩, (hb.trans hb1).trans hb2⟩⟩

end Go.Proofs.YtkhbmkccbhkolaaGreatDoor
namespace Go.Proofs.YtkhbmkccbhkolaaGreatDoor
open Go.RowKit
class Stays (T : World → Prop) : Prop where
  below : ∀ {w w' : World}, T w → Below w.heap.size w w' → T w'
/-- What held of a world from whose size on the blocks lie that may have been written since. -/
def Based (T : World → Prop) (b : Nat) (w : World) : Prop := ∃ w0, T w0 ∧ w0.heap.size ≤ b ∧ Below w0.heap.size w0 w
theorem Based.on {T : World → Prop} {b : Nat} {w w' : World} (h : Based T b w) (hb : Below b w w') : Based T b w' := by
  obtain ⟨w0, h0, h1, h2⟩ := h
  exact ⟨w0, h0, h1, h2.trans (hb.mono h1)⟩
theorem Based.out {T : World → Prop} [Stays T] {b : Nat} {w : World} (h : Based T b w) : T w := by
  obtain ⟨w0, h0, h1, h2⟩ := h
  exact Stays.below h0 h2
theorem Based.mk' {T : World → Prop} {b : Nat} {w w' : World} (h : T w) (hb : w.heap.size ≤ b) (h2 : Below w.heap.size w w') : Based T b w' := ⟨w, h, hb, h2⟩
end Go.Proofs.YtkhbmkccbhkolaaGreatDoor
