/- The grammar's reader in memory: its small steps. -/
import Derived.Test.YtaegllbokgjoeaaDoorPconstantHerex4
import Derived.Test.YtaegllbokgjoeaaDoorStr
import Derived.Test.YtaegllbokgjoeaaDoorPl
import Derived.Test.YtaegllbokgjoeaaDoorRead
import Derived.Deep.RegionWith
namespace Go.Proofs.YtaegllbokgjoeaaDoor
set_option linter.unusedVariables false
set_option linter.unusedSimpArgs false
open Go.RowKit Go.Proofs.YtaegllbokgjoeaaDoorW.PrintWords Go.Proofs.YtaegllbokgjoeaaDoorW.PrintLast Go.Proofs.YtaegllbokgjoeaaDoorW.PrintMore

/-- The reader's fields: where it stands, how many pieces are left, its state, whether something refers back. -/
def rdC (l : List UInt8) (K : Value) (en pos left st : Int) (rf : Bool) : Array Value :=
  #[.string (bs l), .int .i64 pos, K, .int .i64 left, .int .i64 st, .int .i64 en, .bool true, .bool false, .int .i64 0, .bool rf]
def RdAt (g : Nat) (l : List UInt8) (K : Value) (en pos left st : Int) (rf : Bool) (w : World) : Prop :=
  w.heap[g]? = some (.cells (rdC l K en pos left st rf) 34 (0, 0))
/-- What a call of the reader's may do to memory: no block but the reader's turns. -/
structure Kg (g : Nat) (w w' : World) : Prop where
  below : Below g w w'
  other : ∀ k, k ≠ g → k < w.heap.size → w'.heap[k]? = w.heap[k]?
theorem Kg.refl (g : Nat) (w : World) : Kg g w w := ⟨Below.refl g w, fun _ _ _ => rfl⟩
theorem Kg.trans {g : Nat} {u v w : World} (h : Kg g u v) (k : Kg g v w) : Kg g u w :=
  ⟨h.below.trans k.below, fun j hj hs => (k.other j hj (Nat.lt_of_lt_of_le hs h.below.size)).trans (h.other j hj hs)⟩
theorem Kg.size {g : Nat} {u v : World} (h : Kg g u v) : u.heap.size ≤ v.heap.size := h.below.size
theorem Kg.blk {g k : Nat} {w w' : World} {o : Obj} (h : Kg g w w') (hk : w.heap[k]? = some o) (hne : k ≠ g) : w'.heap[k]? = some o := (h.other k hne (blk_lt hk)).trans hk
theorem Kg.set {g : Nat} {u w : World} (h : Kg g u w) (j : Nat) (v : Value) : Kg g u (w.setCell ⟨g, j, none⟩ v) :=
  ⟨h.below.setCell (p := ⟨g, j, none⟩) (Nat.le_refl _) v, fun k hk hs => by
    rw [← h.other k hk hs]
    simp [World.setCell, Array.getElem?_modify, Ne.symm hk]⟩
theorem Kg.drewN {g : Nat} {u w : World} (h : Kg g u w) (n : Nat) : Kg g u (w.drewN n) := ⟨pw_below_drewN h.below n, h.other⟩
theorem Kg.of_below {g : Nat} {w w' : World} (h : Below w.heap.size w w') (hg : g ≤ w.heap.size) : Kg g w w' := ⟨h.mono hg, fun k _ hk => h.block k hk⟩
theorem Kg.alloc {g : Nat} {u w : World} (h : Kg g u w) (hg : g ≤ w.heap.size) (o : Obj) : Kg g u (w.alloc o) := h.trans (Kg.of_below (below_alloc (Below.refl _ _) o) hg)
theorem RdAt.lt {g : Nat} {l : List UInt8} {K : Value} {en pos left st : Int} {rf : Bool} {w : World} (h : RdAt g l K en pos left st rf w) : g < w.heap.size := blk_lt h
theorem RdAt.drewN {g : Nat} {l : List UInt8} {K : Value} {en pos left st : Int} {rf : Bool} {w : World} (h : RdAt g l K en pos left st rf w) (n : Nat) : RdAt g l K en pos left st rf (w.drewN n) := h
theorem RdAt.below {g : Nat} {l : List UInt8} {K : Value} {en pos left st : Int} {rf : Bool} {w w' : World} (h : RdAt g l K en pos left st rf w) (hb : Below w.heap.size w w') : RdAt g l K en pos left st rf w' := blk_below h hb
theorem RdAt.alloc {g : Nat} {l : List UInt8} {K : Value} {en pos left st : Int} {rf : Bool} {w : World} (h : RdAt g l K en pos left st rf w) (o : Obj) : RdAt g l K en pos left st rf (w.alloc o) := blk_alloc h o
theorem RdAt.set1 {g : Nat} {l : List UInt8} {K : Value} {en pos left st : Int} {rf : Bool} {w : World} (h : RdAt g l K en pos left st rf w) (x : Int) : RdAt g l K en x left st rf (w.setCell ⟨g, 1, none⟩ (.int .i64 x)) := blk_put h 1 _ rfl
theorem RdAt.set3 {g : Nat} {l : List UInt8} {K : Value} {en pos left st : Int} {rf : Bool} {w : World} (h : RdAt g l K en pos left st rf w) (x : Int) : RdAt g l K en pos x st rf (w.setCell ⟨g, 3, none⟩ (.int .i64 x)) := blk_put h 3 _ rfl
theorem RdAt.set4 {g : Nat} {l : List UInt8} {K : Value} {en pos left st : Int} {rf : Bool} {w : World} (h : RdAt g l K en pos left st rf w) (x : Int) : RdAt g l K en pos left x rf (w.setCell ⟨g, 4, none⟩ (.int .i64 x)) := blk_put h 4 _ rfl
theorem RdAt.set9 {g : Nat} {l : List UInt8} {K : Value} {en pos left st : Int} {rf : Bool} {w : World} (h : RdAt g l K en pos left st rf w) (x : Bool) : RdAt g l K en pos left st x (w.setCell ⟨g, 9, none⟩ (.bool x)) := blk_put h 9 _ rfl
theorem RdAt.far {g : Nat} {l : List UInt8} {K : Value} {en pos left st : Int} {rf : Bool} {w : World} (h : RdAt g l K en pos left st rf w) {p : Addr} (hp : g ≠ p.block) (u : Value) : RdAt g l K en pos left st rf (w.setCell p u) := blk_far h hp u
section cells
variable {g : Nat} {l : List UInt8} {K : Value} {en pos left st : Int} {rf : Bool} {w : World}
theorem RdAt.c0 (h : RdAt g l K en pos left st rf w) : w.cell? ⟨g, 0, none⟩ = some (.string (bs l)) := (blk_cell h 0).trans rfl
theorem RdAt.c1 (h : RdAt g l K en pos left st rf w) : w.cell? ⟨g, 1, none⟩ = some (.int .i64 pos) := (blk_cell h 1).trans rfl
theorem RdAt.c2 (h : RdAt g l K en pos left st rf w) : w.cell? ⟨g, 2, none⟩ = some K := (blk_cell h 2).trans rfl
theorem RdAt.c3 (h : RdAt g l K en pos left st rf w) : w.cell? ⟨g, 3, none⟩ = some (.int .i64 left) := (blk_cell h 3).trans rfl
theorem RdAt.c4 (h : RdAt g l K en pos left st rf w) : w.cell? ⟨g, 4, none⟩ = some (.int .i64 st) := (blk_cell h 4).trans rfl
theorem RdAt.c6 (h : RdAt g l K en pos left st rf w) : w.cell? ⟨g, 6, none⟩ = some (.bool true) := (blk_cell h 6).trans rfl
theorem RdAt.c7 (h : RdAt g l K en pos left st rf w) : w.cell? ⟨g, 7, none⟩ = some (.bool false) := (blk_cell h 7).trans rfl
theorem RdAt.fz (h : RdAt g l K en pos left st rf w) (i : Nat) : w.frozen? ⟨g, i, none⟩ = false := blk_frozen h i
end cells

/-- stop: the first reason stands. -/
def stopSt (st why : Int) : Int := if st = 0 then why else st
theorem stop_calls {g : Nat} {l : List UInt8} {K : Value} {en pos left st : Int} {rf : Bool} (why : Int) (w : World) (h : RdAt g l K en pos left st rf w) :
    Calls Tryd.prog 18 #[.pointer (some ⟨g, 0, none⟩), .int .i64 why] w fun e w' => e = .returned (.tuple #[]) ∧ RdAt g l K en pos left (stopSt st why) rf w' ∧ Kg g w w' := by
  have c4 := h.c4
  have f4 := h.fz 4
  have H := Lib.hid h
  unfold stopSt
  by_cases hs : st = 0
  · subst hs
    clear h
    go_enter Tryd.func18, Tryd.ntmps18
    go_wp2
    go_end0
    exact ⟨rfl, H.out.set4 why, (Kg.refl g w).set 4 _⟩
  · have hb : (st == 0) = false := beq_eq_false_iff_ne.2 hs
    rw [if_neg hs]
    clear h hs
    go_enter Tryd.func18, Tryd.ntmps18
    go_wp2
    go_end0
    exact ⟨rfl, H.out, Kg.refl g w⟩
/-- The next byte, 0 at the end. -/
def nx (l : List UInt8) (i : Nat) : Int := match l[i]? with | some c => (c.toNat : Int) | none => 0
theorem nx_some {l : List UInt8} {i : Nat} {c : UInt8} (h : l[i]? = some c) : nx l i = (c.toNat : Int) := by unfold nx; rw [h]
theorem nx_none {l : List UInt8} {i : Nat} (h : l[i]? = none) : nx l i = 0 := by unfold nx; rw [h]
theorem bt_nx {l : List UInt8} {i : Nat} (h : i < l.length) : bt (bs l) (i : Int) = nx l i := by
  rw [nx_some (List.getElem?_eq_getElem h)]
  exact bt_bs l i h
theorem byte_at {l : List UInt8} {i : Nat} {pos : Int} (hp : pos = (i : Int)) (hi : i < l.length) : ∀ h : pos.toNat < (bs l).size, (((bs l)[pos.toNat]'h).toNat : Int) = nx l i := fun h => by
  subst hp
  have := bt_at (bs l) (i : Int) h
  rw [bt_nx hi] at this
  exact this
theorem next_calls {g : Nat} {l : List UInt8} {K : Value} {en left st : Int} {rf : Bool} (i : Nat) (w : World) (h : RdAt g l K en (i : Int) left st rf w) :
    Calls Tryd.prog 21 #[.pointer (some ⟨g, 0, none⟩)] w fun e w' => e = .returned (.int .u8 (nx l i)) ∧ ∃ n, w' = w.drewN n := by
  obtain ⟨pos, hp⟩ : ∃ p : Int, p = (i : Int) := ⟨_, rfl⟩
  have HP := Lib.hid hp
  rw [← hp] at h
  have c0 := h.c0
  have c1 := h.c1
  have hz := bs_size l
  clear h
  by_cases hi : i < l.length
  · have hb : decide (pos < ((bs l).size : Int)) = true := decide_eq_true (by rw [hz]; omega)
    have p4 : (0 ≤ pos) = True := eq_true (by omega)
    have q4 : (pos < ((bs l).size : Int)) = True := eq_true (by rw [hz]; omega)
    have hx4 := byte_at hp hi
    clear hz hp
    go_enter Tryd.func21, Tryd.ntmps21
    go_wp2
    repeat (go_quiet (fail); try go_wp2)
    go_ret
    exact ⟨rfl, by first | exact ⟨_, rfl⟩ | exact (Drawn0.step ⟨⟨_, rfl⟩⟩ _).out⟩
  · have hb : decide (pos < ((bs l).size : Int)) = false := decide_eq_false (by rw [hz]; omega)
    rw [nx_none (List.getElem?_eq_none (by omega))]
    clear hz hp
    go_enter Tryd.func21, Tryd.ntmps21
    go_wp2
    repeat (go_quiet (fail); try go_wp2)
    go_ret
    exact ⟨rfl, by first | exact ⟨_, rfl⟩ | exact (Drawn0.step ⟨⟨_, rfl⟩⟩ _).out⟩
/-- take: a byte, if it comes next. -/
theorem take_calls {g : Nat} {l : List UInt8} {K : Value} {en left st : Int} {rf : Bool} (i : Nat) (c : UInt8) (cv : Int) (hcv : cv = (c.toNat : Int)) (w : World) (h : RdAt g l K en (i : Int) left st rf w) (hl : l.length ≤ 4611686018427387904) :
    Calls Tryd.prog 19 #[.pointer (some ⟨g, 0, none⟩), .int .u8 cv] w fun e w' =>
      ((st = 0 ∧ l[i]? = some c ∧ e = .returned (.bool true) ∧ RdAt g l K en ((i + 1 : Nat) : Int) left st rf w') ∨ (¬ (st = 0 ∧ l[i]? = some c) ∧ e = .returned (.bool false) ∧ RdAt g l K en (i : Int) left st rf w')) ∧ Kg g w w' := by
  obtain ⟨pos, hp⟩ : ∃ p : Int, p = (i : Int) := ⟨_, rfl⟩
  have HP := Lib.hid hp
  rw [← hp] at h
  have c0 := h.c0
  have c1 := h.c1
  have c4 := h.c4
  have f1 := h.fz 1
  have hz := bs_size l
  have H := Lib.hid h
  clear h
  by_cases hs : st = 0
  · subst hs
    by_cases hi : i < l.length
    · have hb : decide (pos < ((bs l).size : Int)) = true := decide_eq_true (by rw [hz]; omega)
      have p4 : (0 ≤ pos) = True := eq_true (by omega)
      have q4 : (pos < ((bs l).size : Int)) = True := eq_true (by rw [hz]; omega)
      have hx4 := byte_at hp hi
      rw [nx_some (List.getElem?_eq_getElem hi)] at hx4
      have HG : Hid (l[i]? = some l[i]) := List.getElem?_eq_getElem hi
      clear hz hp
      generalize l[i] = d at hx4 HG
      by_cases hd : d = c
      · have hde : ((d.toNat : Int) == cv) = true := by rw [hd, hcv]; exact beq_self_eq_true _
        have HD : Hid (l[i]? = some c) := by rw [← hd]; exact HG.out
        clear hd hcv HG
        go_enter Tryd.func19, Tryd.ntmps19
        go_wp2
        repeat (go_quiet (fail); try go_wp2)
        go_ret
        refine ⟨.inl ⟨by trivial, HD.out, rfl, ?_⟩, ?_⟩
        · rw [show ((i + 1 : Nat) : Int) = wrap64 (pos + 1) by rw [HP.out, wrap_id (by omega) (by omega)]; rfl]
          exact (H.out.drewN _).set1 _
        · exact ((Kg.refl g w).drewN _).set 1 _
      · have hde : ((d.toNat : Int) == cv) = false := by rw [hcv]; exact beq_eq_false_iff_ne.2 (fun e => hd (UInt8.toNat_inj.1 (by omega)))
        have HD : Hid (l[i]? ≠ some c) := by intro e; rw [HG.out] at e; injection e with e; exact hd e
        clear hd hcv HG
        go_enter Tryd.func19, Tryd.ntmps19
        go_wp2
        repeat (go_quiet (fail); try go_wp2)
        go_ret
        exact ⟨.inr ⟨fun z => HD.out z.2, rfl, by rw [← HP.out]; exact H.out.drewN _⟩, (Kg.refl g w).drewN _⟩
    · have hb : decide (pos < ((bs l).size : Int)) = false := decide_eq_false (by rw [hz]; omega)
      have HD : Hid (l[i]? ≠ some c) := by intro e; rw [List.getElem?_eq_none (by omega)] at e; cases e
      clear hz hi hcv hp
      go_enter Tryd.func19, Tryd.ntmps19
      go_wp2
      repeat (go_quiet (fail); try go_wp2)
      go_ret
      exact ⟨.inr ⟨fun z => HD.out z.2, rfl, by rw [← HP.out]; exact H.out.drewN _⟩, (Kg.refl g w).drewN _⟩
  · have hb : (st == 0) = false := beq_eq_false_iff_ne.2 hs
    have HS := Lib.hid hs
    clear hs hz hcv hp
    go_enter Tryd.func19, Tryd.ntmps19
    go_wp2
    repeat (go_quiet (fail); try go_wp2)
    go_ret
    exact ⟨.inr ⟨fun z => HS.out z.1, rfl, by rw [← HP.out]; exact H.out.drewN _⟩, (Kg.refl g w).drewN _⟩
end Go.Proofs.YtaegllbokgjoeaaDoor
