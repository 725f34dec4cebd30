/- The grammar's reader: a constant. -/
import Derived.Test.YtaegllbokgjoeaaDoorRdr2
import Derived.Deep.DeepCutAuto
import Derived.Deep.CutBlock
namespace Go.Proofs.YtaegllbokgjoeaaDoor
set_option linter.unusedVariables false
set_option linter.unusedSimpArgs false
open Go.RowKit Go.Proofs.YtaegllbokgjoeaaDoorW.PrintWords Go.Proofs.YtaegllbokgjoeaaDoorW.PrintLast Go.Proofs.YtaegllbokgjoeaaDoorW.PrintMore

/-- A tree's fields in memory. -/
abbrev tC (kind letter num : Int) (flag : Bool) : Array Value := #[.int .i64 kind, .int .u8 letter, .string ⟨#[]⟩, .int .u64 num, .bool flag, .slice none 0 0]
abbrev TAt (a : Nat) (kind letter num : Int) (flag : Bool) (w : World) : Prop := w.heap[a]? = some (.cells (tC kind letter num flag) 25 (0, 0))
/-- What is read of a constant, where the grammar tells something, and what it refuses. -/
def HereOk (l : List UInt8) (kind letter num : Int) (flag : Bool) (pos st : Int) : Prop :=
  (st = 0 → ∃ t r, Dm.const l = .told t r ∧ pos = ((l.length - r.length : Nat) : Int) ∧ l.drop (l.length - r.length) = r ∧ ((kind = 21 ∧ t = [95]) ∨ (kind = 20 ∧ ∃ (c : UInt8) (v : Nat), letter = (c.toNat : Int) ∧ num = (v : Int) ∧ v < 18446744073709551616 ∧ Dm.GoodNum c flag (v : Int) ∧ t = Dm.numT c flag (v : Int)))) ∧
    (st = 1 → Dm.const l = .bad)

/-- What a call does to a block of its own, that is new, is not seen. -/
theorem Kg.loc {g T : Nat} {u w w' : World} (h : Kg g u w) (k : Kg T w w') (hu : u.heap.size ≤ T) (hg : g ≤ T) : Kg g u w' :=
  ⟨h.below.trans (k.below.mono hg), fun j hj hs => (k.other j (by omega) (Nat.lt_of_lt_of_le hs h.size)).trans (h.other j hj hs)⟩
theorem RdAt.loc {g T : Nat} {l : List UInt8} {K : Value} {en pos left st : Int} {rf : Bool} {w w' : World} (h : RdAt g l K en pos left st rf w) (k : Kg T w w') (hne : g ≠ T) : RdAt g l K en pos left st rf w' := k.blk h hne
theorem Kg.of_drawn {g : Nat} {w w' : World} (h : Drawn0 w w') : Kg g w w' := by
  obtain ⟨n, rfl⟩ := h.out
  exact (Kg.refl g w).drewN n
theorem next_drawn {g : Nat} {l : List UInt8} {K : Value} {en left st : Int} {rf : Bool} (i : Nat) (w : World) (h : RdAt g l K en (i : Int) left st rf w) :
    Calls Tryd.prog 21 #[.pointer (some ⟨g, 0, none⟩)] w fun e w' => e = .returned (.int .u8 (nx l i)) ∧ Drawn0 w w' :=
  (next_calls i w h).mono fun e w' ⟨h1, h2⟩ => ⟨h1, ⟨h2⟩⟩
theorem st6 {w : World} {T : Nat} {t : TypeId} {a0 a1 a2 a3 a4 a5 : Value} (hz : w.heap[T]? = some (.cells #[a0, a1, a2, a3, a4, a5] t (0, 0))) (b0 b1 b2 b3 b4 b5 : Value) :
    w.cell? ⟨T, 0, none⟩ = some a0 ∧
    w.frozen? ⟨T, 0, none⟩ = false ∧
    (w.setCell ⟨T, 0, none⟩ b0).cell? ⟨T, 1, none⟩ = some a1 ∧
    (w.setCell ⟨T, 0, none⟩ b0).frozen? ⟨T, 1, none⟩ = false ∧
    ((w.setCell ⟨T, 0, none⟩ b0).setCell ⟨T, 1, none⟩ b1).cell? ⟨T, 2, none⟩ = some a2 ∧
    ((w.setCell ⟨T, 0, none⟩ b0).setCell ⟨T, 1, none⟩ b1).frozen? ⟨T, 2, none⟩ = false ∧
    (((w.setCell ⟨T, 0, none⟩ b0).setCell ⟨T, 1, none⟩ b1).setCell ⟨T, 2, none⟩ b2).cell? ⟨T, 3, none⟩ = some a3 ∧
    (((w.setCell ⟨T, 0, none⟩ b0).setCell ⟨T, 1, none⟩ b1).setCell ⟨T, 2, none⟩ b2).frozen? ⟨T, 3, none⟩ = false ∧
    ((((w.setCell ⟨T, 0, none⟩ b0).setCell ⟨T, 1, none⟩ b1).setCell ⟨T, 2, none⟩ b2).setCell ⟨T, 3, none⟩ b3).cell? ⟨T, 4, none⟩ = some a4 ∧
    ((((w.setCell ⟨T, 0, none⟩ b0).setCell ⟨T, 1, none⟩ b1).setCell ⟨T, 2, none⟩ b2).setCell ⟨T, 3, none⟩ b3).frozen? ⟨T, 4, none⟩ = false ∧
    (((((w.setCell ⟨T, 0, none⟩ b0).setCell ⟨T, 1, none⟩ b1).setCell ⟨T, 2, none⟩ b2).setCell ⟨T, 3, none⟩ b3).setCell ⟨T, 4, none⟩ b4).cell? ⟨T, 5, none⟩ = some a5 ∧
    (((((w.setCell ⟨T, 0, none⟩ b0).setCell ⟨T, 1, none⟩ b1).setCell ⟨T, 2, none⟩ b2).setCell ⟨T, 3, none⟩ b3).setCell ⟨T, 4, none⟩ b4).frozen? ⟨T, 5, none⟩ = false ∧
    ((((((w.setCell ⟨T, 0, none⟩ b0).setCell ⟨T, 1, none⟩ b1).setCell ⟨T, 2, none⟩ b2).setCell ⟨T, 3, none⟩ b3).setCell ⟨T, 4, none⟩ b4).setCell ⟨T, 5, none⟩ b5).heap[T]? = some (.cells #[b0, b1, b2, b3, b4, b5] t (0, 0)) ∧
    Kg T w ((((((w.setCell ⟨T, 0, none⟩ b0).setCell ⟨T, 1, none⟩ b1).setCell ⟨T, 2, none⟩ b2).setCell ⟨T, 3, none⟩ b3).setCell ⟨T, 4, none⟩ b4).setCell ⟨T, 5, none⟩ b5) := by
  have h1 : (w.setCell ⟨T, 0, none⟩ b0).heap[T]? = some (.cells #[b0, a1, a2, a3, a4, a5] t (0, 0)) := blk_put hz 0 b0 rfl
  have h2 : ((w.setCell ⟨T, 0, none⟩ b0).setCell ⟨T, 1, none⟩ b1).heap[T]? = some (.cells #[b0, b1, a2, a3, a4, a5] t (0, 0)) := blk_put h1 1 b1 rfl
  have h3 : (((w.setCell ⟨T, 0, none⟩ b0).setCell ⟨T, 1, none⟩ b1).setCell ⟨T, 2, none⟩ b2).heap[T]? = some (.cells #[b0, b1, b2, a3, a4, a5] t (0, 0)) := blk_put h2 2 b2 rfl
  have h4 : ((((w.setCell ⟨T, 0, none⟩ b0).setCell ⟨T, 1, none⟩ b1).setCell ⟨T, 2, none⟩ b2).setCell ⟨T, 3, none⟩ b3).heap[T]? = some (.cells #[b0, b1, b2, b3, a4, a5] t (0, 0)) := blk_put h3 3 b3 rfl
  have h5 : (((((w.setCell ⟨T, 0, none⟩ b0).setCell ⟨T, 1, none⟩ b1).setCell ⟨T, 2, none⟩ b2).setCell ⟨T, 3, none⟩ b3).setCell ⟨T, 4, none⟩ b4).heap[T]? = some (.cells #[b0, b1, b2, b3, b4, a5] t (0, 0)) := blk_put h4 4 b4 rfl
  have h6 : ((((((w.setCell ⟨T, 0, none⟩ b0).setCell ⟨T, 1, none⟩ b1).setCell ⟨T, 2, none⟩ b2).setCell ⟨T, 3, none⟩ b3).setCell ⟨T, 4, none⟩ b4).setCell ⟨T, 5, none⟩ b5).heap[T]? = some (.cells #[b0, b1, b2, b3, b4, b5] t (0, 0)) := blk_put h5 5 b5 rfl
  exact ⟨(blk_cell hz 0).trans rfl, blk_frozen hz 0, (blk_cell h1 1).trans rfl, blk_frozen h1 1, (blk_cell h2 2).trans rfl, blk_frozen h2 2, (blk_cell h3 3).trans rfl, blk_frozen h3 3, (blk_cell h4 4).trans rfl, blk_frozen h4 4, (blk_cell h5 5).trans rfl, blk_frozen h5 5, h6, (((((((Kg.refl T w).set 0 b0).set 1 b1).set 2 b2).set 3 b3).set 4 b4).set 5 b5)⟩

/-- Where the reader stands. -/
def posOf (g : Nat) (w : World) : Nat := match w.cell? ⟨g, 1, none⟩ with | some (.int _ x) => x.toNat | _ => 0
theorem posOf_rd {g : Nat} {l : List UInt8} {K : Value} {en left st : Int} {rf : Bool} {w : World} {i : Nat} (h : RdAt g l K en (i : Int) left st rf w) : posOf g w = i := by
  unfold posOf
  rw [h.c1]; rfl
/-- What stands in memory while a constant is read: the reader, its tree (block T), and its result (block U). -/
structure Bk (g T U : Nat) (l : List UInt8) (K : Value) (en left : Int) (rf : Bool) (w : World) (c : UInt8) (pos st num : Int) (flag : Bool) (wr : World) : Prop where
  rd : RdAt g l K en pos left st rf wr
  tt : TAt T 20 (c.toNat : Int) num flag wr
  zz : wr.heap[U]? = some (.cells (tC 0 0 0 false) 25 (0, 0))
  kg : Kg g w wr
section bk
variable {g T U : Nat} {l : List UInt8} {K : Value} {en left : Int} {rf : Bool} {w : World} {c : UInt8} {pos st num : Int} {flag : Bool} {wr : World}
theorem Bk.below {w' : World} (h : Bk g T U l K en left rf w c pos st num flag wr) (hb : Below wr.heap.size wr w') : Bk g T U l K en left rf w c pos st num flag w' :=
  ⟨h.rd.below hb, blk_below h.tt hb, blk_below h.zz hb, h.kg.trans (Kg.of_below hb (Nat.le_of_lt h.rd.lt))⟩
theorem Bk.drawn {w' : World} (h : Bk g T U l K en left rf w c pos st num flag wr) (hb : Drawn0 wr w') : Bk g T U l K en left rf w c pos st num flag w' := h.below hb.below
theorem Bk.call {w' : World} {pos' st' : Int} (h : Bk g T U l K en left rf w c pos st num flag wr) (hg : g < U) (hU : U < T) (hr : RdAt g l K en pos' left st' rf w') (hk : Kg g wr w') : Bk g T U l K en left rf w c pos' st' num flag w' :=
  ⟨hr, hk.blk h.tt (by omega), hk.blk h.zz (by omega), h.kg.trans hk⟩
theorem Bk.set1 (h : Bk g T U l K en left rf w c pos st num flag wr) (hg : g < U) (hU : U < T) (x : Int) : Bk g T U l K en left rf w c x st num flag (wr.setCell ⟨g, 1, none⟩ (.int .i64 x)) :=
  h.call hg hU (h.rd.set1 x) ((Kg.refl g wr).set 1 _)
theorem Bk.setN (h : Bk g T U l K en left rf w c pos st num flag wr) (hg : g < U) (hU : U < T) (hw : w.heap.size ≤ U) (x : Int) : Bk g T U l K en left rf w c pos st x flag (wr.setCell ⟨T, 3, none⟩ (.int .u64 x)) :=
  ⟨h.rd.far (by show g ≠ T; omega) _, blk_put h.tt 3 _ rfl, blk_far h.zz (by show U ≠ T; omega) _, h.kg.loc ((Kg.refl T wr).set 3 _) (by omega) (by omega)⟩
theorem Bk.setF (h : Bk g T U l K en left rf w c pos st num flag wr) (hg : g < U) (hU : U < T) (hw : w.heap.size ≤ U) (x : Bool) : Bk g T U l K en left rf w c pos st num x (wr.setCell ⟨T, 4, none⟩ (.bool x)) :=
  ⟨h.rd.far (by show g ≠ T; omega) _, blk_put h.tt 4 _ rfl, blk_far h.zz (by show U ≠ T; omega) _, h.kg.loc ((Kg.refl T wr).set 4 _) (by omega) (by omega)⟩
theorem Bk.drewN (h : Bk g T U l K en left rf w c pos st num flag wr) (n : Nat) : Bk g T U l K en left rf w c pos st num flag (wr.drewN n) := ⟨h.rd, h.tt, h.zz, h.kg.drewN n⟩
theorem Bk.t1 (h : Bk g T U l K en left rf w c pos st num flag wr) : wr.cell? ⟨T, 1, none⟩ = some (.int .u8 (c.toNat : Int)) := (blk_cell h.tt 1).trans rfl
theorem Bk.t3 (h : Bk g T U l K en left rf w c pos st num flag wr) : wr.cell? ⟨T, 3, none⟩ = some (.int .u64 num) := (blk_cell h.tt 3).trans rfl
theorem Bk.t4 (h : Bk g T U l K en left rf w c pos st num flag wr) : wr.cell? ⟨T, 4, none⟩ = some (.bool flag) := (blk_cell h.tt 4).trans rfl
theorem Bk.tf (h : Bk g T U l K en left rf w c pos st num flag wr) (j : Nat) : wr.frozen? ⟨T, j, none⟩ = false := blk_frozen h.tt j
end bk
theorem head_byte (l : List UInt8) : ∃ c : UInt8, nx l 0 = (c.toNat : Int) ∧ ((l = [] ∧ c = 0) ∨ ∃ r, l = c :: r) := by
  cases l with
  | nil => exact ⟨0, rfl, .inl ⟨rfl, rfl⟩⟩
  | cons c r => exact ⟨c, rfl, .inr ⟨r, rfl⟩⟩
theorem ne98 {c : UInt8} (h : Dm.ckind c = 0) : ((c.toNat : Int) != 98) = true ∧ ((c.toNat : Int) != 99) = true := by
  refine ⟨bne_iff_ne.2 fun e => ?_, bne_iff_ne.2 fun e => ?_⟩
  · have : c = 98 := UInt8.toNat_inj.1 (by rw [show (98 : UInt8).toNat = 98 from rfl]; omega)
    rw [this] at h; revert h; decide
  · have : c = 99 := UInt8.toNat_inj.1 (by rw [show (99 : UInt8).toNat = 99 from rfl]; omega)
    rw [this] at h; revert h; decide

theorem wrapU_lt' (x : Int) : 0 ≤ IntKind.u64.wrap x ∧ IntKind.u64.wrap x < 18446744073709551616 := by rw [IntKind.wrap_u64]; omega
theorem nx_nil {l : List UInt8} {i : Nat} (h : l.drop i = []) : nx l i = 0 := nx_none (List.getElem?_eq_none (List.drop_eq_nil_iff.1 h))
theorem nx_cons {l q : List UInt8} {i : Nat} {x : UInt8} (h : l.drop i = x :: q) : nx l i = (x.toNat : Int) := by
  apply nx_some
  have := List.head?_drop (l := l) (i := i)
  rw [h] at this
  exact this.symm
theorem drop_next {l q : List UInt8} {i : Nat} {x : UInt8} (h : l.drop i = x :: q) : l.drop (i + 1) = q ∧ i < l.length := by
  refine ⟨?_, ?_⟩
  · rw [← List.drop_drop, h]; rfl
  · apply Decidable.byContradiction
    intro hn
    rw [List.drop_of_length_le (by omega)] at h
    cases h
theorem digit_calls (v : Int) (h0 : 0 ≤ v) (h1 : v < 256) (w : World) : Calls Tryd.prog 24 #[.int .u8 v] w fun e w' => e = .returned (.int .i64 (Rt.hexv v)) ∧ Drawn0 w w' :=
  PconstantHere.spec_rustHexDigit.calls 1 v (Rt.hexv v) w (Rt.hexv_f v h0 h1)

set_option maxHeartbeats 1000000 in
set_option maxRecDepth 100000 in
theorem here_calls {g : Nat} {l : List UInt8} {K : Value} {en left : Int} {rf : Bool} (w : World) (h : RdAt g l K en ((0 : Nat) : Int) left 0 rf w) (hl : l.length ≤ 4611686018427387904) (h66 : l.head? ≠ some 66) :
    Calls Tryd.prog 13 #[.pointer (some ⟨g, 0, none⟩)] w fun e w' =>
      ∃ kind letter num flag pos st, e = .returned (.agg (tC kind letter num flag)) ∧ RdAt g l K en pos left st rf w' ∧ Kg g w w' ∧ HereOk l kind letter num flag pos st := by
  have hu := Tryd.underlying25
  have HT := Lib.hid (take_calls 0 112 112 rfl (w.alloc (.cells (tC 0 0 0 false) 25 (0, 0))) (h.alloc _) hl)
  have H := Lib.hid h
  clear h
  go_enter Tryd.func13, Tryd.ntmps13
  go_wp2_with fail
  refine HT.out.mono ?_
  have hne : w.heap.size ≠ g := by have := H.out.lt; omega
  rintro e w1 ⟨⟨_, hc, rfl, hr1⟩ | ⟨hn, rfl, hr1⟩, hk1⟩
  · have hz1 : w1.heap[w.heap.size]? = some (.cells (tC 0 0 0 false) 25 (0, 0)) := hk1.blk (blk_new w _) hne
    have hgT : g ≤ w.heap.size := Nat.le_of_lt H.out.lt
    obtain ⟨p0, q0, p1, q1, p2, q2, p3, q3, p4, q4, p5, q5, hb6, ho6⟩ := st6 hz1 (.int .i64 21) (.int .u8 0) (.string ⟨#[]⟩) (.int .u64 0) (.bool false) (.slice none 0 0)
    have HO := Lib.hid ho6
    have HB6 := Lib.hid hb6
    clear hb6 ho6 hz1
    go_wp2_with fail
    (try simp only [Exit.inBlock, Exit.then])
    refine bodyPost_ret (results_cell_row rfl _ _ w.heap.size 25 _ (0, 0) _ rfl HB6.out hu rfl (by kernel_rfl)) rfl ?_
    refine ⟨21, 0, 0, false, ((0 + 1 : Nat) : Int), 0, rfl, hr1.loc HO.out hne.symm, (((Kg.refl g w).alloc hgT _).trans hk1).loc HO.out (Nat.le_refl _) hgT, ?_⟩
    cases l with
    | nil => cases hc
    | cons c r =>
      have hc' : c = 112 := by simpa using hc
      subst hc'
      exact ⟨fun _ => ⟨[95], r, rfl, by simp, by simp, .inl ⟨rfl, rfl⟩⟩, fun e => by cases e⟩
  · have h112 : l.head? ≠ some 112 := fun e => hn ⟨by trivial, by rw [← List.head?_eq_getElem?]; exact e⟩
    have hgT : g ≤ w.heap.size := Nat.le_of_lt H.out.lt
    have HZ1 : Hid (w1.heap[w.heap.size]? = some (.cells (tC 0 0 0 false) 25 (0, 0))) := hk1.blk (blk_new w _) hne
    have HK1 : Hid (Kg g w w1) := ((Kg.refl g w).alloc hgT _).trans hk1
    have HR1 := Lib.hid hr1
    have HN := Lib.hid (next_drawn 0 w1 hr1)
    have HGT : Hid (g < w.heap.size) := H.out.lt
    clear hn hr1 hk1 hne hgT HT
    go_upto_region 3 with (fail)
    go_cut [3] from 11 to 13 (fun v3 wc => ∃ T, v3 = .pointer (some ⟨T, 0, none⟩) ∧ w.heap.size < T ∧ TAt T 20 (nx l 0) 0 false wc ∧ RdAt g l K en ((0 : Nat) : Int) left 0 rf wc ∧ wc.heap[w.heap.size]? = some (.cells (tC 0 0 0 false) 25 (0, 0)) ∧ Kg g w wc)
    case first =>
      go_wp2_with fail
      refine HN.out.mono ?_
      rintro e w2 ⟨rfl, hd2⟩
      have hk2 := HK1.out.trans (Kg.of_drawn hd2)
      have hz2 := (Kg.of_drawn (g := g) hd2).blk HZ1.out (by have := HGT.out; omega)
      have hr2 := HR1.out.below hd2.below
      have HX : Hid (w.heap.size < w2.heap.size ∧ RdAt g l K en ((0 : Nat) : Int) left 0 rf w2 ∧ w2.heap[w.heap.size]? = some (.cells (tC 0 0 0 false) 25 (0, 0)) ∧ Kg g w w2) := Lib.hid ⟨blk_lt hz2, hr2, hz2, hk2⟩
      clear hz2 hk2 hr2 hd2
      go_wp2_with fail
      go_meet
      case rel =>
        obtain ⟨x1, x2, x3, x4⟩ := HX.out
        have hg := HGT.out
        exact ⟨w2.heap.size, rfl, x1, blk_new _ _, x2.alloc _, blk_alloc x3 _, x4.alloc (by omega) _⟩
    case rest =>
    obtain ⟨T, rfl, hUT, ht, hr, hz, hk⟩ := hcut
    obtain ⟨c, hc, hlc⟩ := head_byte l
    rw [hc] at ht
    have HB : Hid (Bk g T w.heap.size l K en left rf w c ((0 : Nat) : Int) 0 0 false wc) := ⟨hr, ht, hz, hk⟩
    obtain ⟨nb, sb, hbits, hkind⟩ := Rt.bits_f c
    have HBITS := Lib.hid (PconstantHere.spec_rustBits.calls 1 (c.toNat : Int) nb sb wc hbits)
    have t1 := HB.out.t1
    clear hr ht hz hk hc hbits HZ1 HK1 HR1 HN
    by_cases hk0 : Dm.ckind c = 0
    · have hn0 : nb = 0 := by rcases hkind with h | h | h <;> omega
      subst hn0
      obtain ⟨n98, n99⟩ := ne98 hk0
      obtain ⟨rn, hrn, hrn12⟩ := Rt.noc_f (c.toNat : Int)
      go_wp2_with fail
      refine HBITS.out.mono ?_
      rintro e w3 ⟨rfl, hd3⟩
      have HB3 := Lib.hid (HB.out.drawn hd3)
      have t1 := HB3.out.t1
      have HNO := Lib.hid (PconstantHere.spec_rustNoConstant.calls (c.toNat : Int) rn w3 hrn)
      clear hd3 hrn
      go_wp2_with fail
      refine HNO.out.mono ?_
      rintro e w4 ⟨rfl, hd4⟩
      have HB4 := Lib.hid (HB3.out.drawn hd4)
      have HS := Lib.hid (stop_calls rn w4 HB4.out.rd)
      clear hd4
      go_wp2_with fail
      refine HS.out.mono ?_
      rintro e w5 ⟨rfl, hr5, hk5⟩
      have HB5 := Lib.hid (HB4.out.call HGT.out hUT hr5 hk5)
      obtain ⟨p0, q0, p1, q1, p2, q2, p3, q3, p4, q4, p5, q5, hb6, ho6⟩ := st6 HB5.out.zz (.int .i64 0) (.int .u8 0) (.string ⟨#[]⟩) (.int .u64 0) (.bool false) (.slice none 0 0)
      have HO := Lib.hid ho6
      have HB6 := Lib.hid hb6
      clear hb6 ho6 hr5 hk5
      go_wp2_with fail
      (try simp only [Exit.inBlock, Exit.then])
      refine bodyPost_ret (results_cell_row rfl _ _ w.heap.size 25 _ (0, 0) _ rfl HB6.out hu rfl (by kernel_rfl)) rfl ?_
      have hg := HGT.out
      refine ⟨0, 0, 0, false, _, _, rfl, HB5.out.rd.loc HO.out (by omega), HB5.out.kg.loc HO.out (Nat.le_refl _) (by omega), ?_⟩
      have hst : stopSt 0 rn = rn := by unfold stopSt; rw [if_pos rfl]
      rw [hst]
      refine ⟨fun e => by omega, fun _ => ?_⟩
      rcases hlc with ⟨rfl, _⟩ | ⟨r, rfl⟩
      · rfl
      · exact Dm.none_refused (fun e => h112 (by rw [e]; rfl)) hk0
    · obtain ⟨r, rfl⟩ : ∃ r, l = c :: r := by
        rcases hlc with ⟨_, rfl⟩ | h
        · exact absurd (by decide) hk0
        · exact h
      have hlen : (c :: r).length = r.length + 1 := rfl
      have HK0 := Lib.hid hk0
      have HB0 : Hid (nb = 0 → Dm.ckind c = 3 ∨ Dm.ckind c = 4) := Lib.hid (fun e => by
        have h5 : Dm.ckind c ≤ 4 := by unfold Dm.ckind; repeat' split
                                       all_goals omega
        rcases hkind with h | h | h <;> omega)
      clear hlc hkind
      go_wp2_with fail
      refine HBITS.out.mono ?_
      rintro e w3 ⟨rfl, hd3⟩
      have HB3 := Lib.hid (HB.out.drawn hd3)
      have t1 := HB3.out.t1
      clear hd3 HBITS
      go_upto_region 5 with (fail)
      go_cut [31] from 20 to 31 (fun v31 wd => v31 = .bool false ∧ w3 = wd)
      case first =>
        by_cases hn : nb = 0
        · rcases HB0.out hn with h3 | h4
          · have hc := Dm.ckind_3 h3
            subst hc hn
            go_wp2_with fail
            go_meet
            case rel => exact ⟨by simp, rfl⟩
          · have hc := Dm.ckind_4 h4
            subst hc hn
            go_wp2_with fail
            go_meet
            case rel => exact ⟨by simp, rfl⟩
        · have hne : (nb == 0) = false := beq_eq_false_iff_ne.2 hn
          clear hn
          go_wp2_with fail
          go_meet
          case rel => exact ⟨by simp, rfl⟩
      case rest =>
      obtain ⟨rfl, rfl⟩ := hcut
      have c1 := HB3.out.rd.c1
      have f1 := HB3.out.rd.fz 1
      have HB4 := Lib.hid (HB3.out.set1 HGT.out hUT 1)
      have HT9 := Lib.hid (take_calls 1 110 110 rfl _ HB4.out.rd hl)
      go_upto_region 9 with (fail)
      clear c1 f1 t1
      go_cut [] from 45 to 47 (fun wd => ∃ (fl : Bool) (p : Nat), Hid (Dm.takeN r = (fl, (c :: r).drop p)) ∧ p ≤ (c :: r).length ∧ Hid (Bk g T w.heap.size (c :: r) K en left rf w c (p : Int) 0 0 fl wd))
      case first =>
        go_wp2_with fail
        refine HT9.out.mono ?_
        rintro e w5 ⟨⟨_, hc, rfl, hr5⟩ | ⟨hn, rfl, hr5⟩, hk5⟩
        · have HB5 := Lib.hid (HB4.out.call HGT.out hUT hr5 hk5)
          have t4 := HB5.out.t4
          have tf := HB5.out.tf 4
          have HBF := Lib.hid (HB5.out.setF HGT.out hUT (Nat.le_refl _) true)
          clear hr5 hk5
          go_wp2_with fail
          go_meet
          case rel =>
            refine ⟨true, 2, ?_, ?_, HBF.out⟩
            · cases r with
              | nil => cases hc
              | cons x r =>
                have hx : x = 110 := by simpa using hc
                subst hx
                rfl
            · cases r with
              | nil => cases hc
              | cons x r => simp
        · have HB5 := Lib.hid (HB4.out.call HGT.out hUT hr5 hk5)
          have t4 := HB5.out.t4
          have tf := HB5.out.tf 4
          have HBF := Lib.hid (HB5.out.setF HGT.out hUT (Nat.le_refl _) false)
          have HNN := Lib.hid hn
          clear hr5 hk5 hn
          go_wp2_with fail
          go_meet
          case rel =>
            refine ⟨false, 1, ?_, by simp, HBF.out⟩
            cases r with
            | nil => rfl
            | cons x r =>
              have hx : x ≠ 110 := fun e => HNN.out ⟨by trivial, by rw [e]; rfl⟩
              show Dm.takeN (x :: r) = (false, x :: r)
              simp only [Dm.takeN]
              rw [if_neg hx]
      case rest =>
      obtain ⟨fl, p, HTN, hp, HB5⟩ := hcut
      clear HB HB3 HB4 HT9
      have c1 := HB5.out.rd.c1
      generalize ht0 : (c :: r).drop p = t0 at HTN
      have HT0 := Lib.hid ht0
      clear ht0
      go_upto_block 0 with (fail)
      go_cut [] from 52 to 78 (fun wd => ∃ (k : Nat) (v : Int) (q : List UInt8), Hid (Dm.hexr 0 0 t0 = (v, k, q)) ∧ Hid (∀ x y, q = x :: y → Dm.hexd x = none) ∧ Hid (0 ≤ v ∧ v < 18446744073709551616) ∧ Hid ((c :: r).drop (p + k) = q ∧ p + k ≤ (c :: r).length) ∧ Hid (Bk g T w.heap.size (c :: r) K en left rf w c ((p + k : Nat) : Int) 0 v fl wd))
      case first =>
        go_wp2_with fail
        go_loopw [] (fun wr => ∃ (k : Nat) (v : Int) (q : List UInt8), Hid (Dm.hexr v k q = Dm.hexr 0 0 t0) ∧ Hid (0 ≤ v ∧ v < 18446744073709551616) ∧ Hid ((c :: r).drop (p + k) = q ∧ p + k ≤ (c :: r).length) ∧ Hid (Bk g T w.heap.size (c :: r) K en left rf w c ((p + k : Nat) : Int) 0 v fl wr)) (fun wr => (c :: r).length - posOf g wr)
        case atStart => exact ⟨0, 0, t0, rfl, ⟨by omega, by omega⟩, ⟨HT0.out, hp⟩, HB5⟩
        case round =>
          obtain ⟨k, v, q, HX, HV, HQ, HBK⟩ := hrel
          have HN := Lib.hid (next_drawn (p + k) wr HBK.out.rd)
          have hpos := posOf_rd HBK.out.rd
          have HPO := Lib.hid hpos
          clear hpos
          cases q with
          | nil =>
            rw [nx_nil HQ.out.1] at HN
            go_wp2_with fail
            refine HN.out.mono ?_
            rintro e w6 ⟨rfl, hd6⟩
            have HD := Lib.hid (digit_calls 0 (by omega) (by omega) w6)
            have HB6 := Lib.hid (HBK.out.drawn hd6)
            clear hd6
            go_wp2_with fail
            refine HD.out.mono ?_
            rintro e w7 ⟨rfl, hd7⟩
            have HB7 := Lib.hid (HB6.out.drawn hd7)
            clear hd7
            rw [Rt.hexv_zero]
            go_wp2_with fail
            go_meet
            case rel => exact ⟨k, v, [], Lib.hid HX.out.symm, Lib.hid (by intro x y e; cases e), HV, HQ, HB7⟩
          | cons x q =>
            rw [nx_cons HQ.out.1] at HN
            have hx := UInt8.toNat_lt x
            cases hdx : Dm.hexd x with
            | none =>
              have HHN := Lib.hid hdx
              clear hdx
              go_wp2_with fail
              refine HN.out.mono ?_
              rintro e w6 ⟨rfl, hd6⟩
              have HD := Lib.hid (digit_calls (x.toNat : Int) (by omega) (by omega) w6)
              have HB6 := Lib.hid (HBK.out.drawn hd6)
              clear hd6
              go_wp2_with fail
              refine HD.out.mono ?_
              rintro e w7 ⟨rfl, hd7⟩
              have HB7 := Lib.hid (HB6.out.drawn hd7)
              clear hd7
              rw [Rt.hexv_none HHN.out]
              go_wp2_with fail
              go_meet
              case rel => exact ⟨k, v, x :: q, Lib.hid (by rw [← HX.out]; exact Dm.hexr_none HHN.out), Lib.hid (by intro x' y e; injection e with e1 e2; rw [← e1]; exact HHN.out), HV, HQ, HB7⟩
            | some d =>
              have HHD := Lib.hid hdx
              have hdb := Dm.hexd_le hdx
              clear hdx
              go_wp2_with fail
              refine HN.out.mono ?_
              rintro e w6 ⟨rfl, hd6⟩
              have HD := Lib.hid (digit_calls (x.toNat : Int) (by omega) (by omega) w6)
              have HB6 := Lib.hid (HBK.out.drawn hd6)
              clear hd6
              go_wp2_with fail
              refine HD.out.mono ?_
              rintro e w7 ⟨rfl, hd7⟩
              have HB7 := Lib.hid (HB6.out.drawn hd7)
              clear hd7
              rw [Rt.hexv_digit HHD.out]
              have hd0 : (0 ≤ d) = True := eq_true hdb.1
              have c1 := HB7.out.rd.c1
              obtain ⟨P, hP⟩ : ∃ P : Int, P = ((p + k : Nat) : Int) := ⟨_, rfl⟩
              have hq2 := HQ.out.2
              have hsub : wrap64 (P - (p : Int)) = (k : Int) := by rw [hP, wrap_id (by omega) (by omega)]; omega
              rw [← hP] at c1
              have HP := Lib.hid hP
              clear hP
              go_upto_if 62 with (fail)
              clear hq2 c1 hsub
              go_cut [] from 62 to 71 (fun wd => Hid (Bk g T w.heap.size (c :: r) K en left rf w c ((p + k : Nat) : Int) 0 (if k < 16 then IntKind.u64.wrap (IntKind.u64.wrap (v * 16) + d) else v) fl wd))
              case first =>
                by_cases h16 : (k : Int) < 16
                · have hk16 : k < 16 := by omega
                  have t3 := HB7.out.t3
                  have tf := HB7.out.tf 3
                  have HN2 : Hid (∀ W : World, RdAt g (c :: r) K en ((p + k : Nat) : Int) left 0 rf W → Calls Tryd.prog 21 #[.pointer (some ⟨g, 0, none⟩)] W fun e w' => e = .returned (.int .u8 (x.toNat : Int)) ∧ Drawn0 W w') := Lib.hid fun W hW => by
                    have := next_drawn (p + k) W hW
                    rw [nx_cons HQ.out.1] at this
                    exact this
                  have HD2 : Hid (∀ W : World, Calls Tryd.prog 24 #[.int .u8 (x.toNat : Int)] W fun e w' => e = .returned (.int .i64 d) ∧ Drawn0 W w') := Lib.hid fun W => by
                    have := digit_calls (x.toNat : Int) (by omega) (by omega) W
                    rw [Rt.hexv_digit HHD.out] at this
                    exact this
                  go_wp2_with fail
                  go_region_with (first | (go_at_call 21; refine Calls.mono (HN2.out _ (by exact HB7.out.rd)) ?_; rintro e w8 ⟨rfl, ⟨⟨n8, rfl⟩⟩⟩) | (go_at_call 24; refine (HD2.out _).mono ?_; rintro e w9 ⟨rfl, ⟨⟨n9, rfl⟩⟩⟩))
                  all_goals
                    go_wp2_with fail
                    go_meet
                    case rel =>
                      rw [if_pos hk16]
                      have hwd : IntKind.u64.wrap d = d := Rt.uwrap hdb.1 (by omega)
                      have := (HB7.out.drewN (1 + n8 + n9)).setN HGT.out hUT (Nat.le_refl _) (IntKind.u64.wrap (IntKind.u64.wrap (v * 16) + d))
                      rw [hwd]
                      exact this
                · have hk16 : ¬ k < 16 := by omega
                  go_wp2_with fail
                  go_meet
                  case rel => rw [if_neg hk16]; exact HB7
              case rest =>
              have HB8 := hcut
              clear hcut
              have c1 := HB8.out.rd.c1
              have f1 := HB8.out.rd.fz 1
              rw [← HP.out] at c1
              have HNX := Lib.hid (drop_next HQ.out.1)
              have HB9 : Hid (Bk g T w.heap.size (c :: r) K en left rf w c ((p + (k + 1) : Nat) : Int) 0 (if k < 16 then IntKind.u64.wrap (IntKind.u64.wrap (v * 16) + d) else v) fl (wc.setCell ⟨g, 1, none⟩ (.int .i64 (wrap64 (P + 1))))) := Lib.hid (by
                have e : ((p + (k + 1) : Nat) : Int) = wrap64 (P + 1) := by
                  have h1 := HP.out
                  have h2 := HNX.out.2
                  rw [wrap_id (by omega) (by omega)]; omega
                rw [e]
                exact HB8.out.set1 HGT.out hUT _)
              clear hd0
              go_wp2_with fail
              go_roundw
              case rel =>
                refine ⟨k + 1, (if k < 16 then IntKind.u64.wrap (IntKind.u64.wrap (v * 16) + d) else v), q, Lib.hid ?_, Lib.hid ?_, Lib.hid ⟨HNX.out.1, HNX.out.2⟩, HB9⟩
                · rw [← HX.out]; exact (Dm.hexr_some HHD.out).symm
                · split
                  · exact wrapU_lt' _
                  · exact HV.out
              case measure =>
                rw [posOf_rd HB9.out.rd, HPO.out]
                have := HNX.out.2
                omega
      case rest =>
      obtain ⟨k, v, q, HX, HHQ, HV, HQ, HBK⟩ := hcut
      clear HB5 c1
      obtain ⟨P, hP⟩ : ∃ P : Int, P = ((p + k : Nat) : Int) := ⟨_, rfl⟩
      have c1 := HBK.out.rd.c1
      have hq2 := HQ.out.2
      have hsub : wrap64 (P - (p : Int)) = (k : Int) := by rw [hP, wrap_id (by omega) (by omega)]; omega
      rw [← hP] at c1
      have HP := Lib.hid hP
      have HQL : Hid (p + k + q.length = (c :: r).length) := Lib.hid (by rw [← HQ.out.1, List.length_drop]; omega)
      clear hP hq2
      --{T0
      go_upto_region 15 with (fail)
      go_cut [7] from 79 to 84 (fun v7 wd => v7 = .int .i64 (k : Int) ∧ wc = wd)
      case first =>
        go_wp2_with fail
        go_meet
        case rel => exact ⟨by rw [hsub], rfl⟩
      --}T0
      case rest =>
      obtain ⟨rfl, rfl⟩ := hcut
      clear hsub
      --{T1
      go_upto_region 16 with (fail)
      go_cut [106] from 85 to 106 (fun v106 wd => v106 = .bool (decide (q = [])) ∧ Drawn0 wc wd)
      case first =>
        have c0 := HBK.out.rd.c0
        have c6 := HBK.out.rd.c6
        have hz := bs_size (c :: r)
        have hpz : (P == ((bs (c :: r)).size : Int)) = decide (q = []) := by
          rw [hz, HP.out]
          have := HQL.out
          cases q with
          | nil => simp at this ⊢; omega
          | cons x y => simp at this ⊢; omega
        clear hz
        by_cases hq : q = []
        · rw [decide_eq_true hq] at hpz
          have HQE := Lib.hid hq
          clear hq
          go_wp2_with fail
          repeat (go_quiet (fail); try go_wp2_with fail)
          go_meet
          case rel => exact ⟨by rw [decide_eq_true HQE.out], ⟨⟨_, rfl⟩⟩⟩
        · rw [decide_eq_false hq] at hpz
          have HQE := Lib.hid hq
          clear hq
          go_wp2_with fail
          repeat (go_quiet (fail); try go_wp2_with fail)
          go_meet
          case rel => exact ⟨by rw [decide_eq_false HQE.out], ⟨⟨_, rfl⟩⟩⟩
      --}T1
      case rest =>
      obtain ⟨rfl, hdr⟩ := hcut
      have HB1 := Lib.hid (HBK.out.drawn hdr)
      clear hdr HBK c1
      --{T2
      go_upto_if 106 with (fail)
      go_cut [] from 106 to 108 (fun wd => Hid (Bk g T w.heap.size (c :: r) K en left rf w c ((p + k : Nat) : Int) (if q = [] then 2 else 0) v fl wd))
      case first =>
        by_cases hq : q = []
        · rw [decide_eq_true hq]
          have HQE := Lib.hid hq
          have HS := Lib.hid (stop_calls 2 _ HB1.out.rd)
          clear hq
          go_wp2_with fail
          refine HS.out.mono ?_
          rintro e w6 ⟨rfl, hr6, hk6⟩
          have HB6 := Lib.hid (HB1.out.call HGT.out hUT hr6 hk6)
          clear hr6 hk6
          go_wp2_with fail
          go_meet
          case rel => rw [if_pos HQE.out]; exact HB6
        · rw [decide_eq_false hq]
          have HQE := Lib.hid hq
          clear hq
          go_wp2_with fail
          go_meet
          case rel => rw [if_neg HQE.out]; exact HB1
      --}T2
      case rest =>
      have HB2 := hcut
      clear hcut HB1
      have HT18 := Lib.hid (take_calls (p + k) 95 95 rfl _ HB2.out.rd hl)
      --{T3
      go_upto_region 18 with (fail)
      go_cut [111] from 109 to 111 (fun v111 wd => ∃ (b : Bool) (P2 : Nat), v111 = .bool (!b) ∧ Hid (b = true → ∃ y, q = 95 :: y ∧ P2 = p + k + 1) ∧ Hid (b = false → q = [] ∨ ∃ x y, q = x :: y ∧ x ≠ 95) ∧ Hid (Bk g T w.heap.size (c :: r) K en left rf w c (P2 : Int) (if q = [] then 2 else 0) v fl wd))
      case first =>
        go_wp2_with fail
        refine HT18.out.mono ?_
        have hdq : (c :: r)[p + k]? = q.head? := by rw [← HQ.out.1, List.head?_drop]
        rintro e w6 ⟨⟨_, hc, rfl, hr6⟩ | ⟨hn, rfl, hr6⟩, hk6⟩
        · have HB6 := Lib.hid (HB2.out.call HGT.out hUT hr6 hk6)
          have HC : Hid (∃ y, q = 95 :: y) := Lib.hid (by
            rw [hdq] at hc
            cases q with
            | nil => cases hc
            | cons x y => have hx : x = 95 := by simpa using hc
                          exact ⟨y, by rw [hx]⟩)
          clear hr6 hk6 hc hdq
          go_wp2_with fail
          go_meet
          case rel => exact ⟨true, p + k + 1, rfl, Lib.hid (fun _ => by obtain ⟨y, hy⟩ := HC.out; exact ⟨y, hy, rfl⟩), Lib.hid (fun e => by cases e), HB6⟩
        · have HB6 := Lib.hid (HB2.out.call HGT.out hUT hr6 hk6)
          have HC : Hid (q = [] ∨ ∃ x y, q = x :: y ∧ x ≠ 95) := Lib.hid (by
            cases q with
            | nil => exact .inl rfl
            | cons x y => exact .inr ⟨x, y, rfl, fun e => hn ⟨rfl, by rw [hdq, e]; rfl⟩⟩)
          clear hr6 hk6 hn hdq
          go_wp2_with fail
          go_meet
          case rel => exact ⟨false, p + k, rfl, Lib.hid (fun e => by cases e), Lib.hid (fun _ => HC.out), HB6⟩
      --}T3
      case rest =>
      obtain ⟨b95, P2, rfl, HY, HN95, HB3⟩ := hcut
      clear HB2 HT18
      have HS19 := Lib.hid (stop_calls 1 _ HB3.out.rd)
      --{T4
      go_upto_if 111 with (fail)
      go_cut [] from 111 to 113 (fun wd => ∃ st : Int, Hid (st = 2 ∨ (st = 1 ∧ ∃ x y, q = x :: y ∧ x ≠ 95) ∨ (st = 0 ∧ ∃ y, q = 95 :: y ∧ P2 = p + k + 1)) ∧ Hid (Bk g T w.heap.size (c :: r) K en left rf w c (P2 : Int) st v fl wd))
      case first =>
        cases b95 with
        | true =>
          go_wp2_with fail
          go_meet
          case rel =>
            obtain ⟨y, hy, hP2⟩ := HY.out (by trivial)
            have hst : (if q = [] then (2 : Int) else 0) = 0 := if_neg (by rw [hy]; simp)
            refine ⟨0, .inr (.inr ⟨rfl, y, hy, hP2⟩), ?_⟩
            rw [hst] at HB3
            exact HB3
        | false =>
          go_wp2_with fail
          refine HS19.out.mono ?_
          rintro e w6 ⟨rfl, hr6, hk6⟩
          have HB6 := Lib.hid (HB3.out.call HGT.out hUT hr6 hk6)
          clear hr6 hk6
          go_wp2_with fail
          go_meet
          case rel =>
            refine ⟨_, ?_, HB6⟩
            rcases HN95.out (by trivial) with hq | ⟨x, y, hq, hx⟩
            · rw [if_pos hq]; exact .inl rfl
            · rw [if_neg (by rw [hq]; simp)]; exact .inr (.inl ⟨rfl, x, y, hq, hx⟩)
      --}T4
      case rest =>
      obtain ⟨st, HST, HB4⟩ := hcut
      clear HB3 HS19 HY HN95
      obtain ⟨bn, hbn, hgood⟩ := Rt.number_f c v fl ⟨#[]⟩
      have HGOOD := Lib.hid hgood
      have HNU : Hid (∀ W : World, Calls Tryd.prog 25 #[.agg #[.int .i64 20, .int .u8 (c.toNat : Int), .string ⟨#[]⟩, .int .u64 v, .bool fl, .slice none 0 0]] W fun e w' => e = .returned (.bool bn) ∧ Below W.heap.size W w') := Lib.hid fun W =>
        PconstantHere.spec_isRustNumber.calls 1 20 (c.toNat : Int) ⟨#[]⟩ v fl none 0 [] bn W (Kd.C_nil _ _) (Nat.le_refl _) hbn
      clear hbn hgood
      --{T5
      go_upto_region 20 with (fail)
      go_cut [137] from 7 to 137 (fun v137 wd => ∃ b : Bool, v137 = .bool b ∧ Hid (b = false → k ≠ 0 ∧ k ≤ 16 ∧ (k = 1 ∨ t0.head? ≠ some 48) ∧ Dm.GoodNum c fl v) ∧ Hid (Bk g T w.heap.size (c :: r) K en left rf w c (P2 : Int) st v fl wd))
      case first =>
        have c0 := HB4.out.rd.c0
        have d0 := (blk_cell HB4.out.tt 0).trans rfl
        have d1 := (blk_cell HB4.out.tt 1).trans rfl
        have d2 := (blk_cell HB4.out.tt 2).trans rfl
        have d3 := (blk_cell HB4.out.tt 3).trans rfl
        have d4 := (blk_cell HB4.out.tt 4).trans rfl
        have d5 := (blk_cell HB4.out.tt 5).trans rfl
        by_cases hk0 : k = 0
        · have e0 : ((k : Int) == 0) = true := beq_iff_eq.2 (by omega)
          clear hk0
          go_wp2_with fail
          go_meet
          case rel => exact ⟨true, rfl, Lib.hid (fun e => by cases e), HB4⟩
        · have e0 : ((k : Int) == 0) = false := beq_eq_false_iff_ne.2 (by omega)
          have HK1 := Lib.hid hk0
          by_cases hk16 : (16 : Int) < (k : Int)
          · clear hk0
            go_wp2_with fail
            go_meet
            case rel => exact ⟨true, rfl, Lib.hid (fun e => by cases e), HB4⟩
          · have HK16 : Hid (k ≤ 16) := Lib.hid (by omega)
            by_cases hk1 : (1 : Int) < (k : Int)
            · obtain ⟨y, ys, hy⟩ : ∃ y ys, t0 = y :: ys := by
                cases ht : t0 with
                | nil => have := (Dm.hexr_mono t0 0 0 HX.out).2; rw [ht] at this; simp at this; omega
                | cons y ys => exact ⟨y, ys, rfl⟩
              have HYT := Lib.hid hy
              have hpl : p < (bs (c :: r)).size := by
                rw [bs_size]
                exact (drop_next (by rw [HT0.out]; exact hy)).2
              have hxp : ∀ h : p < (bs (c :: r)).size, (((bs (c :: r))[p]'h).toNat : Int) = (y.toNat : Int) := fun h => by
                have h1 := byte_at (pos := (p : Int)) rfl (by rw [bs_size] at h; exact h) h
                rw [nx_cons (by rw [HT0.out]; exact hy)] at h1
                exact h1
              have q4 : (p < (bs (c :: r)).size) = True := eq_true hpl
              clear hy hpl hk0
              by_cases h48 : y = 48
              · have e48 : ((y.toNat : Int) == 48) = true := by rw [h48]; rfl
                clear h48
                go_wp2_with fail
                go_meet
                case rel => exact ⟨true, rfl, Lib.hid (fun e => by cases e), HB4⟩
              · have e48 : ((y.toNat : Int) == 48) = false := beq_eq_false_iff_ne.2 (fun e => h48 (UInt8.toNat_inj.1 (by rw [show (48 : UInt8).toNat = 48 from rfl]; omega)))
                have H48 := Lib.hid h48
                clear h48
                go_wp2_with fail
                refine (HNU.out _).mono ?_
                rintro e w6 ⟨rfl, hb6⟩
                have HB6 := Lib.hid (HB4.out.below hb6)
                clear hb6
                go_wp2_with fail
                go_meet
                case rel => exact ⟨!bn, rfl, Lib.hid (fun e => ⟨HK1.out, HK16.out, .inr (by rw [HYT.out]; intro z; exact H48.out (by simpa using z)), HGOOD.out (by simpa using e)⟩), HB6⟩
            · have HKE : Hid (k = 1) := Lib.hid (by omega)
              clear hk0
              go_wp2_with fail
              refine (HNU.out _).mono ?_
              rintro e w6 ⟨rfl, hb6⟩
              have HB6 := Lib.hid (HB4.out.below hb6)
              clear hb6
              go_wp2_with fail
              go_meet
              case rel => exact ⟨!bn, rfl, Lib.hid (fun e => ⟨HK1.out, HK16.out, .inl HKE.out, HGOOD.out (by simpa using e)⟩), HB6⟩
      --}T5
      case rest =>
      obtain ⟨b2, rfl, HB2, HB5⟩ := hcut
      clear HB4 HNU
      have HS21 := Lib.hid (stop_calls 2 _ HB5.out.rd)
      --{T6
      go_upto_if 137 with (fail)
      go_cut [] from 137 to 139 (fun wd => ∃ s2 : Int, Hid (s2 = 0 → st = 0 ∧ b2 = false) ∧ Hid (s2 = 1 → st = 1) ∧ Hid (Bk g T w.heap.size (c :: r) K en left rf w c (P2 : Int) s2 v fl wd))
      case first =>
        cases b2 with
        | true =>
          go_wp2_with fail
          refine HS21.out.mono ?_
          rintro e w6 ⟨rfl, hr6, hk6⟩
          have HB6 := Lib.hid (HB5.out.call HGT.out hUT hr6 hk6)
          clear hr6 hk6
          go_wp2_with fail
          go_meet
          case rel =>
            refine ⟨_, Lib.hid ?_, Lib.hid ?_, HB6⟩
            · intro e; unfold stopSt at e; split at e
              · cases e
              · rename_i h; exact absurd e h
            · intro e; unfold stopSt at e; split at e
              · cases e
              · exact e
        | false =>
          go_wp2_with fail
          go_meet
          case rel => exact ⟨st, Lib.hid (fun e => ⟨e, by trivial⟩), Lib.hid (fun e => e), HB5⟩
      --}T6
      case rest =>
      obtain ⟨s2, HS0, HS1, HB6⟩ := hcut
      clear HB5 HS21
      have d0 := (blk_cell HB6.out.tt 0).trans rfl
      have d1 := (blk_cell HB6.out.tt 1).trans rfl
      have d2 := (blk_cell HB6.out.tt 2).trans rfl
      have d3 := (blk_cell HB6.out.tt 3).trans rfl
      have d4 := (blk_cell HB6.out.tt 4).trans rfl
      have d5 := (blk_cell HB6.out.tt 5).trans rfl
      obtain ⟨p0, q0, p1, q1, p2, q2, p3, q3, p4, q4, p5, q5, hb6, ho6⟩ := st6 HB6.out.zz (.int .i64 20) (.int .u8 (c.toNat : Int)) (.string ⟨#[]⟩) (.int .u64 v) (.bool fl) (.slice none 0 0)
      have HO := Lib.hid ho6
      have HBB := Lib.hid hb6
      clear hb6 ho6
      go_wp2_with fail
      (try simp only [Exit.inBlock, Exit.then])
      refine bodyPost_ret (results_cell_row rfl _ _ w.heap.size 25 _ (0, 0) _ rfl HBB.out hu rfl (by kernel_rfl)) rfl ?_
      have hg := HGT.out
      refine ⟨20, (c.toNat : Int), v, fl, (P2 : Int), s2, rfl, HB6.out.rd.loc HO.out (by omega), HB6.out.kg.loc HO.out (Nat.le_refl _) (by omega), ?_⟩
      have hc112 : c ≠ 112 := fun e => h112 (by rw [e]; rfl)
      clear d0 d1 d2 d3 d4 d5 p0 q0 p1 q1 p2 q2 p3 q3 p4 q4 p5 q5 HO HBB
      have hql := HQL.out
      refine ⟨fun e => ?_, fun e => ?_⟩
      · obtain ⟨hs0, hb2⟩ := HS0.out e
        obtain ⟨a1, a2, a3, a4⟩ := HB2.out hb2
        rcases HST.out with h | ⟨h, _⟩ | ⟨_, y, hy, hP2⟩
        · omega
        · omega
        · have hx := HX.out
          rw [hy] at hx
          have hdn := drop_next (HQ.out.1.trans hy)
          rw [hy, List.length_cons] at hql
          obtain ⟨vn, hvn⟩ := Int.eq_ofNat_of_zero_le HV.out.1
          have hpl : (c :: r).length - y.length = p + k + 1 := by omega
          refine ⟨_, y, Dm.num_told HTN.out hx (by omega) a2 a3 a4, by rw [hP2, hpl], by rw [hpl]; exact hdn.1, .inr ⟨rfl, c, vn, rfl, hvn, by have := HV.out.2; omega, by rw [← hvn]; exact a4, by rw [hvn]⟩⟩
      · have hs1 := HS1.out e
        rcases HST.out with h | ⟨_, x, y, hy, hx95⟩ | ⟨h, _⟩
        · omega
        · have hx := HX.out
          rw [hy] at hx
          exact Dm.num_refused hc112 HTN.out hx hx95
        · omega
end Go.Proofs.YtaegllbokgjoeaaDoor
