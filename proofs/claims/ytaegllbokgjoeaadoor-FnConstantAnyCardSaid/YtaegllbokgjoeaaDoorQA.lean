/- The grammar's reader: a piece, and the constant in front of a text. The grammar's reader: the constant in front of a text. The grammar's constant in front of a text: RustReadsConstant. -/
import Derived.Test.YtaegllbokgjoeaaDoorRdr3
import Derived.Test.YtaegllbokgjoeaaDoorRdr4
import Derived.Shelf.Abstract
import Derived.Laws.MakeOwn
import Derived.Laws.OwnMore
import Derived.Laws.Rows
namespace Go.Proofs.YtaegllbokgjoeaaDoor
set_option linter.unusedVariables false
set_option linter.unusedSimpArgs false
open Go.RowKit Go.Proofs.YtaegllbokgjoeaaDoorW.PrintWords Go.Proofs.YtaegllbokgjoeaaDoorW.PrintLast Go.Proofs.YtaegllbokgjoeaaDoorW.PrintMore

def HereP (g : Nat) (l : List UInt8) (K : Value) (en left : Int) (rf : Bool) (w : World) (e : Ending) (w' : World) : Prop :=
  ∃ kind letter num flag pos st, e = .returned (.agg (tC kind letter num flag)) ∧ RdAt g l K en pos left st rf w' ∧ Kg g w w' ∧ HereOk l kind letter num flag pos st

theorem enters_con1 (args : Array Value) (w : World) : (callFunc 12 args).run Tryd.prog w = .ok (.enter 12 args) w :=
  enters_of Tryd.func12 (by kernel_rfl) rfl args w

set_option maxHeartbeats 1000000 in
set_option maxRecDepth 100000 in
theorem clo_calls {g x : Nat} {l : List UInt8} {K : Value} {en left : Int} {rf : Bool} (w : World) (h : RdAt g l K en ((0 : Nat) : Int) left 0 rf w) (hx : w.cell? ⟨x, 0, none⟩ = some (.pointer (some ⟨g, 0, none⟩))) (hxl : x < w.heap.size) (hl : l.length ≤ 4611686018427387904) (h66 : l.head? ≠ some 66) :
    Calls Tryd.prog 12 #[.pointer (some ⟨x, 0, none⟩)] w fun e w' => HereP g l K en left rf w e w' := by
  have hu := Tryd.underlying25
  have hx' : (w.alloc (.cells (tC 0 0 0 false) 25 (0, 0))).cell? ⟨x, 0, none⟩ = some (.pointer (some ⟨g, 0, none⟩)) := by rw [← hx]; exact World.cell?_of_block (Lib.alloc_old w _ x hxl)
  have HH := Lib.hid (here_calls (w.alloc (.cells (tC 0 0 0 false) 25 (0, 0))) (h.alloc _) hl h66)
  have H := Lib.hid h
  clear h hx
  go_enter Tryd.func12, Tryd.ntmps12
  go_wp2_with fail
  refine HH.out.mono ?_
  have hgT : g < w.heap.size := H.out.lt
  rintro e w1 ⟨kind, letter, num, flag, pos, st, rfl, hr1, hk1, hok⟩
  have hz1 : w1.heap[w.heap.size]? = some (.cells (tC 0 0 0 false) 25 (0, 0)) := hk1.blk (blk_new w _) (by omega)
  obtain ⟨p0, q0, p1, q1, p2, q2, p3, q3, p4, q4, p5, q5, hb6, ho6⟩ := st6 hz1 (.int .i64 kind) (.int .u8 letter) (.string ⟨#[]⟩) (.int .u64 num) (.bool flag) (.slice none 0 0)
  have HO := Lib.hid ho6
  have HBB := Lib.hid hb6
  have HOK := Lib.hid hok
  have HR1 := Lib.hid hr1
  have HK1 := Lib.hid hk1
  clear hb6 ho6 hok hr1 hk1 hz1
  go_wp2_with fail
  (try simp only [Exit.inBlock, Exit.then])
  refine bodyPost_ret (results_cell_row rfl _ _ w.heap.size 25 _ (0, 0) _ rfl HBB.out hu rfl (by kernel_rfl)) rfl ?_
  exact ⟨kind, letter, num, flag, pos, st, rfl, HR1.out.loc HO.out (by omega), (((Kg.refl g w).alloc (by omega) _).trans HK1.out).loc HO.out (Nat.le_refl _) (by omega), HOK.out⟩

/-- What refers back from the first place is none. -/
def ReferP (g : Nat) (l : List UInt8) (K : Value) (en left : Int) (w : World) (e : Ending) (w' : World) : Prop :=
  ∃ pos st rf, e = .returned (.agg (tC 0 0 0 false)) ∧ RdAt g l K en pos left st rf w' ∧ Kg g w w' ∧ st ≠ 0
set_option maxHeartbeats 1000000 in
set_option maxRecDepth 100000 in
theorem refer_calls {g : Nat} {l : List UInt8} {K v : Value} {en left kd : Int} {rf : Bool} (i : Nat) (w : World) (h : RdAt g l K en (i : Int) left 0 rf w) (hl : l.length ≤ 4611686018427387904) (hi : i ≤ l.length) :
    Calls Tryd.prog 20 #[.pointer (some ⟨g, 0, none⟩), .int .i64 0, .int .i64 kd, v] w fun e w' => ReferP g l K en left w e w' := by
  have hu := Tryd.underlying25
  have HB := Lib.hid (b62_calls i (w.alloc (.cells (tC 0 0 0 false) 25 (0, 0))) (h.alloc _) hl hi)
  have H := Lib.hid h
  clear h
  go_enter Tryd.func20, Tryd.ntmps20
  go_wp2_with fail
  refine HB.out.mono ?_
  have hgT : g < w.heap.size := H.out.lt
  rintro e w1 ⟨n, pos, st, rfl, hn, hr1, hk1⟩
  have hz1 : w1.heap[w.heap.size]? = some (.cells (tC 0 0 0 false) 25 (0, 0)) := hk1.blk (blk_new w _) (by omega)
  have hr2 := hr1.set9 true
  have hk2 := hk1.set 9 (.bool true)
  have hz2 := blk_far hz1 (p := ⟨g, 9, none⟩) (by show w.heap.size ≠ g; omega) (.bool true)
  have a9 : w1.cell? ⟨g, 9, none⟩ = some (.bool rf) := (blk_cell hr1 9).trans rfl
  have f9 := hr1.fz 9
  have c4 := hr2.c4
  have c7 := hr2.c7
  have hn0 : (n ≥ 0) = True := eq_true hn
  have hnd : decide (n ≥ 0) = true := decide_eq_true hn
  have HR2 := Lib.hid hr2
  have HK2 := Lib.hid hk2
  have HZ2 := Lib.hid hz2
  clear hr1 hk1 hz1 hr2 hk2 hz2
  by_cases hs : st = 0
  · subst hs
    have HS := Lib.hid (stop_calls 1 _ HR2.out)
    go_wp2_with fail
    refine HS.out.mono ?_
    rintro e w3 ⟨rfl, hr3, hk3⟩
    obtain ⟨p0, q0, p1, q1, p2, q2, p3, q3, p4, q4, p5, q5, hb6, ho6⟩ := st6 (hk3.blk HZ2.out (by omega)) (.int .i64 0) (.int .u8 0) (.string ⟨#[]⟩) (.int .u64 0) (.bool false) (.slice none 0 0)
    have HO := Lib.hid ho6
    have HBB := Lib.hid hb6
    clear hb6 ho6
    go_wp2_with fail
    (try simp only [Exit.inBlock, Exit.then])
    refine bodyPost_ret (results_cell_row rfl _ _ w.heap.size 25 _ (0, 0) _ rfl HBB.out hu rfl (by kernel_rfl)) rfl ?_
    exact ⟨_, _, _, rfl, hr3.loc HO.out (by omega), ((((Kg.refl g w).alloc (by omega) _).trans HK2.out).trans hk3).loc HO.out (Nat.le_refl _) (by omega), by unfold stopSt; rw [if_pos rfl]; decide⟩
  · have hb : (st != 0) = true := bne_iff_ne.2 hs
    have HS := Lib.hid hs
    clear hs
    obtain ⟨p0, q0, p1, q1, p2, q2, p3, q3, p4, q4, p5, q5, hb6, ho6⟩ := st6 HZ2.out (.int .i64 0) (.int .u8 0) (.string ⟨#[]⟩) (.int .u64 0) (.bool false) (.slice none 0 0)
    have HO := Lib.hid ho6
    have HBB := Lib.hid hb6
    clear hb6 ho6
    go_wp2_with fail
    (try simp only [Exit.inBlock, Exit.then])
    refine bodyPost_ret (results_cell_row rfl _ _ w.heap.size 25 _ (0, 0) _ rfl HBB.out hu rfl (by kernel_rfl)) rfl ?_
    exact ⟨_, _, _, rfl, HR2.out.loc HO.out (by omega), (((Kg.refl g w).alloc (by omega) _).trans HK2.out).loc HO.out (Nat.le_refl _) (by omega), HS.out⟩
end Go.Proofs.YtaegllbokgjoeaaDoor
namespace Go.Proofs.YtaegllbokgjoeaaDoor
set_option linter.unusedVariables false
set_option linter.unusedSimpArgs false
open Go.RowKit Go.Proofs.YtaegllbokgjoeaaDoorW.PrintWords Go.Proofs.YtaegllbokgjoeaaDoorW.PrintLast Go.Proofs.YtaegllbokgjoeaaDoorW.PrintMore

/-- What a piece's reading may do to memory: no block but the reader's and that of its marks turns. -/
structure K2 (g kb : Nat) (w w' : World) : Prop where
  below : ∀ m, m ≤ g → m ≤ kb → Below m w w'
  size : w.heap.size ≤ w'.heap.size
  other : ∀ k, k ≠ g → k ≠ kb → k < w.heap.size → w'.heap[k]? = w.heap[k]?
theorem K2.of_g {g kb : Nat} {w w' : World} (h : Kg g w w') : K2 g kb w w' := ⟨fun m hm _ => h.below.mono hm, h.size, fun k hk _ hs => h.other k hk hs⟩
theorem K2.of_k {g kb : Nat} {w w' : World} (h : Kg kb w w') : K2 g kb w w' := ⟨fun m _ hm => h.below.mono hm, h.size, fun k _ hk hs => h.other k hk hs⟩
theorem K2.trans {g kb : Nat} {u v w : World} (h : K2 g kb u v) (k : K2 g kb v w) : K2 g kb u w :=
  ⟨fun m h1 h2 => (h.below m h1 h2).trans (k.below m h1 h2), Nat.le_trans h.size k.size, fun j h1 h2 hs => (k.other j h1 h2 (Nat.lt_of_lt_of_le hs h.size)).trans (h.other j h1 h2 hs)⟩
theorem K2.loc {g kb T : Nat} {u w w' : World} (h : K2 g kb u w) (k : Kg T w w') (hu : u.heap.size ≤ T) (hg : g ≤ T) : K2 g kb u w' :=
  ⟨fun m h1 h2 => (h.below m h1 h2).trans (k.below.mono (by omega)), Nat.le_trans h.size k.size, fun j h1 h2 hs => (k.other j (by omega) (Nat.lt_of_lt_of_le hs h.size)).trans (h.other j h1 h2 hs)⟩
theorem K2.blk {g kb k : Nat} {w w' : World} {o : Obj} (h : K2 g kb w w') (hk : w.heap[k]? = some o) (h1 : k ≠ g) (h2 : k ≠ kb) : w'.heap[k]? = some o := (h.other k h1 h2 (blk_lt hk)).trans hk
def PieceP (g kb : Nat) (l : List UInt8) (K : Value) (en : Int) (w : World) (e : Ending) (w' : World) : Prop :=
  ∃ kind letter num flag pos st rf, e = .returned (.agg (tC kind letter num flag)) ∧ RdAt g l K en pos 299 st rf w' ∧ K2 g kb w w' ∧ HereOk l kind letter num flag pos st

set_option maxHeartbeats 1000000 in
set_option maxRecDepth 100000 in
theorem piece_calls {g x kb : Nat} {l : List UInt8} {en : Int} {rf : Bool} {cs : Array Value} {tk : TypeId} (w : World) (h : RdAt g l (.slice (some ⟨kb, 0, none⟩) l.length l.length) en ((0 : Nat) : Int) 300 0 rf w)
    (hx : w.cell? ⟨x, 0, none⟩ = some (.pointer (some ⟨g, 0, none⟩))) (hxl : x < w.heap.size) (hxg : x ≠ g) (hxk : x ≠ kb) (hkb : w.heap[kb]? = some (.cells cs tk (0, 0))) (hk0 : l ≠ [] → cs[0]? = some (.int .i64 0)) (hkg : kb ≠ g) (hl : l.length ≤ 4611686018427387904) :
    Calls Tryd.prog 11 #[.pointer (some ⟨g, 0, none⟩), .int .i64 24, .int .i64 3, .func (.func 12) #[] #[.pointer (some ⟨x, 0, none⟩)]] w fun e w' => PieceP g kb l (.slice (some ⟨kb, 0, none⟩) l.length l.length) en w e w' := by
  have hu := Tryd.underlying25
  have HEN := enters_con1
  have h1 := (h.alloc (.cells (tC 0 0 0 false) 25 (0, 0))).set3 299
  have a3 : (w.alloc (.cells (tC 0 0 0 false) 25 (0, 0))).cell? ⟨g, 3, none⟩ = some (.int .i64 300) := (h.alloc _).c3
  have b3 := (h.alloc (.cells (tC 0 0 0 false) 25 (0, 0))).fz 3
  have c1 := h1.c1
  have c3 := h1.c3
  have c4 := h1.c4
  have HT := Lib.hid (take_calls 0 66 66 rfl _ h1 hl)
  have H := Lib.hid h
  clear h
  go_enter Tryd.func11, Tryd.ntmps11
  go_wp2_with fail
  have hgT : g < w.heap.size := H.out.lt
  have hkT : kb < w.heap.size := blk_lt hkb
  have HK1 : Hid (Kg g w ((w.alloc (.cells (tC 0 0 0 false) 25 (0, 0))).setCell ⟨g, 3, none⟩ (.int .i64 299))) := Lib.hid (((Kg.refl g w).alloc (by omega) _).set 3 _)
  have HZ1 : Hid (((w.alloc (.cells (tC 0 0 0 false) 25 (0, 0))).setCell ⟨g, 3, none⟩ (.int .i64 299)).heap[w.heap.size]? = some (.cells (tC 0 0 0 false) 25 (0, 0))) := Lib.hid (blk_far (blk_new w _) (p := ⟨g, 3, none⟩) (by show w.heap.size ≠ g; omega) _)
  clear h1 a3 b3 c1 c3 c4
  refine HT.out.mono ?_
  clear HT
  generalize (w.alloc (.cells (tC 0 0 0 false) 25 (0, 0))).setCell ⟨g, 3, none⟩ (.int .i64 299) = w1 at *
  rintro e w2 ⟨⟨_, hc, rfl, hr2⟩ | ⟨hn, rfl, hr2⟩, hk2⟩
  · have hlen : 1 ≤ l.length := by
      cases l with
      | nil => cases hc
      | cons c r => simp
    have HRF := Lib.hid (refer_calls (v := .func (.func 12) #[] #[.pointer (some ⟨x, 0, none⟩)]) (kd := 3) 1 w2 hr2 hl hlen)
    have HK2 := Lib.hid (HK1.out.trans hk2)
    have HZ2 := Lib.hid (hk2.blk HZ1.out (by omega))
    clear hr2 hk2 hx hkb hk0
    go_wp2_with fail
    refine HRF.out.mono ?_
    rintro e w3 ⟨pos, st, rf3, rfl, hr3, hk3, hst⟩
    obtain ⟨p0, q0, p1, q1, p2, q2, p3, q3, p4, q4, p5, q5, hb6, ho6⟩ := st6 (hk3.blk HZ2.out (by omega)) (.int .i64 0) (.int .u8 0) (.string ⟨#[]⟩) (.int .u64 0) (.bool false) (.slice none 0 0)
    have HO := Lib.hid ho6
    have HBB := Lib.hid hb6
    clear hb6 ho6
    go_wp2_with fail
    (try simp only [Exit.inBlock, Exit.then])
    refine bodyPost_ret (results_cell_row rfl _ _ w.heap.size 25 _ (0, 0) _ rfl HBB.out hu rfl (by kernel_rfl)) rfl ?_
    refine ⟨0, 0, 0, false, pos, st, rf3, rfl, hr3.loc HO.out (by omega), (K2.of_g (HK2.out.trans hk3)).loc HO.out (Nat.le_refl _) (by omega), fun e => absurd e hst, fun _ => ?_⟩
    cases l with
    | nil => cases hc
    | cons c r =>
      have hcc : c = 66 := by simpa using hc
      subst hcc
      rfl
  · have h66 : l.head? ≠ some 66 := fun e => hn ⟨by trivial, by rw [← List.head?_eq_getElem?]; exact e⟩
    have hk12 := HK1.out.trans hk2
    have hz2 := hk2.blk HZ1.out (by omega)
    have hx2 : w2.cell? ⟨x, 0, none⟩ = some (.pointer (some ⟨g, 0, none⟩)) := by rw [← hx]; exact World.cell?_of_block (hk12.other x hxg hxl)
    have hkb2 := hk12.blk hkb hkg
    have hxl2 : x < w2.heap.size := Nat.lt_of_lt_of_le hxl hk12.size
    clear hx hkb hn HZ1
    by_cases hle : l = []
    · subst hle
      have HCL := Lib.hid (clo_calls w2 hr2 hx2 hxl2 hl h66)
      have c0 := hr2.c0
      have hz := bs_size []
      have HK2 := Lib.hid hk12
      have HZ2 := Lib.hid hz2
      clear hr2 hk2 hx2 hk12 hz2 hkb2 hk0
      go_wp2_with fail
      refine HCL.out.mono ?_
      rintro e w3 ⟨kind, letter, num, flag, pos, st, rfl, hr3, hk3, hok⟩
      have c0' := (hr3.alloc (.cells (tC kind letter num flag) 25 (0, 0))).c0
      have hn := blk_new w3 (.cells (tC kind letter num flag) 25 (0, 0))
      have d0 := (blk_cell hn 0).trans rfl
      have d1 := (blk_cell hn 1).trans rfl
      have d2 := (blk_cell hn 2).trans rfl
      have d3 := (blk_cell hn 3).trans rfl
      have d4 := (blk_cell hn 4).trans rfl
      have d5 := (blk_cell hn 5).trans rfl
      obtain ⟨p0, q0, p1, q1, p2, q2, p3, q3, p4, q4, p5, q5, hb6, ho6⟩ := st6 (blk_alloc (hk3.blk HZ2.out (by omega)) (.cells (tC kind letter num flag) 25 (0, 0))) (.int .i64 kind) (.int .u8 letter) (.string ⟨#[]⟩) (.int .u64 num) (.bool flag) (.slice none 0 0)
      have HO := Lib.hid ho6
      have HBB := Lib.hid hb6
      clear hb6 ho6
      have HOK := Lib.hid hok
      have HR3 := Lib.hid hr3
      have HK3 := Lib.hid hk3
      clear hok hr3 hk3 hn
      go_wp2_with fail
      (try simp only [Exit.inBlock, Exit.then])
      refine bodyPost_ret (results_cell_row rfl _ _ w.heap.size 25 _ (0, 0) _ rfl HBB.out hu rfl (by kernel_rfl)) rfl ?_
      have hs3 := HK3.out.size
      have hs2 := HK2.out.size
      exact ⟨kind, letter, num, flag, pos, st, rf, rfl, (HR3.out.alloc _).loc HO.out (by omega), (K2.of_g ((HK2.out.trans HK3.out).alloc (by omega) _)).loc HO.out (Nat.le_refl _) (by omega), HOK.out⟩
    · obtain ⟨c, r, rfl⟩ : ∃ c r, l = c :: r := by
        cases l with
        | nil => exact absurd rfl hle
        | cons c r => exact ⟨c, r, rfl⟩
      have hcs := hk0 (by simp)
      have hcsz : 0 < cs.size := (Array.getElem?_eq_some_iff.1 hcs).1
      have k0 : w2.cell? ⟨kb, 0, none⟩ = some (.int .i64 0) := (blk_cell hkb2 0).trans hcs
      have kf := blk_frozen hkb2 0
      have c0 := hr2.c0
      have c2 := hr2.c2
      have hz := bs_size (c :: r)
      have hkb3 := blk_put hkb2 0 (.int .i64 1) rfl
      have hr3 := hr2.far (p := ⟨kb, 0, none⟩) (by show g ≠ kb; omega) (.int .i64 1)
      have hx3 : (w2.setCell ⟨kb, 0, none⟩ (.int .i64 1)).cell? ⟨x, 0, none⟩ = some (.pointer (some ⟨g, 0, none⟩)) := by
        rw [← hx2]; exact World.cell?_of_block (((Kg.refl kb w2).set 0 _).other x hxk hxl2)
      have hxl3 : x < (w2.setCell ⟨kb, 0, none⟩ (.int .i64 1)).heap.size := Nat.lt_of_lt_of_le hxl2 ((Kg.refl kb w2).set 0 (.int .i64 1)).size
      have HCL := Lib.hid (clo_calls _ hr3 hx3 hxl3 hl h66)
      have HZ3 : Hid ((w2.setCell ⟨kb, 0, none⟩ (.int .i64 1)).heap[w.heap.size]? = some (.cells (tC 0 0 0 false) 25 (0, 0))) := Lib.hid (blk_far hz2 (p := ⟨kb, 0, none⟩) (by show w.heap.size ≠ kb; omega) _)
      have HB3 : Hid (K2 g kb w (w2.setCell ⟨kb, 0, none⟩ (.int .i64 1))) := Lib.hid ((K2.of_g hk12).trans (K2.of_k ((Kg.refl kb w2).set 0 _)))
      have HKB3 := Lib.hid hkb3
      have HS2 := Lib.hid hk12.size
      clear hr2 hk2 hx2 hk12 hz2 hkb2 hk0 hcs hkb3 hr3 hx3
      go_wp2_with fail
      refine HCL.out.mono ?_
      clear k0 kf c0 c2
      rintro e w4 ⟨kind, letter, num, flag, pos, st, rfl, hr4, hk4, hok⟩
      have hs3 : (w2.setCell ⟨kb, 0, none⟩ (.int .i64 1)).heap.size = w2.heap.size := by simp [World.setCell]
      have hs4 := hk4.size
      have c0 := (hr4.alloc (.cells (tC kind letter num flag) 25 (0, 0))).c0
      have c2 := (hr4.alloc (.cells (tC kind letter num flag) 25 (0, 0))).c2
      have hkb5 := blk_alloc (hk4.blk HKB3.out hkg) (.cells (tC kind letter num flag) 25 (0, 0))
      have k5 : (w4.alloc (.cells (tC kind letter num flag) 25 (0, 0))).cell? ⟨kb, 0, none⟩ = some (.int .i64 1) := (blk_cell hkb5 0).trans (by simp [hcsz])
      have f5 := blk_frozen hkb5 0
      have hs2 := HS2.out
      have hn := blk_far (blk_new w4 (.cells (tC kind letter num flag) 25 (0, 0))) (p := ⟨kb, 0, none⟩) (by show w4.heap.size ≠ kb; omega) (.int .i64 3)
      have d0 := (blk_cell hn 0).trans rfl
      have d1 := (blk_cell hn 1).trans rfl
      have d2 := (blk_cell hn 2).trans rfl
      have d3 := (blk_cell hn 3).trans rfl
      have d4 := (blk_cell hn 4).trans rfl
      have d5 := (blk_cell hn 5).trans rfl
      obtain ⟨p0, q0, p1, q1, p2, q2, p3, q3, p4, q4, p5, q5, hb6, ho6⟩ := st6 (blk_far (blk_alloc (hk4.blk HZ3.out (by omega)) (.cells (tC kind letter num flag) 25 (0, 0))) (p := ⟨kb, 0, none⟩) (by show w.heap.size ≠ kb; omega) (.int .i64 3)) (.int .i64 kind) (.int .u8 letter) (.string ⟨#[]⟩) (.int .u64 num) (.bool flag) (.slice none 0 0)
      have HO := Lib.hid ho6
      have HBB := Lib.hid hb6
      have HOK := Lib.hid hok
      have HR5 := Lib.hid ((hr4.alloc (.cells (tC kind letter num flag) 25 (0, 0))).far (p := ⟨kb, 0, none⟩) (by show g ≠ kb; omega) (.int .i64 3))
      have HB5 : Hid (K2 g kb w ((w4.alloc (.cells (tC kind letter num flag) 25 (0, 0))).setCell ⟨kb, 0, none⟩ (.int .i64 3))) := Lib.hid ((HB3.out.trans (K2.of_g (hk4.alloc (by omega) _))).trans (K2.of_k ((Kg.refl kb _).set 0 _)))
      clear hb6 ho6 hok hr4 hk4 hn hkb5
      go_wp2_with fail
      (try simp only [Exit.inBlock, Exit.then])
      refine bodyPost_ret (results_cell_row rfl _ _ w.heap.size 25 _ (0, 0) _ rfl HBB.out hu rfl (by kernel_rfl)) rfl ?_
      exact ⟨kind, letter, num, flag, pos, st, rf, rfl, HR5.out.loc HO.out (by omega), HB5.out.loc HO.out (Nat.le_refl _) (by omega), HOK.out⟩
end Go.Proofs.YtaegllbokgjoeaaDoor
namespace Go.Proofs.YtaegllbokgjoeaaDoor
set_option linter.unusedVariables false
set_option linter.unusedSimpArgs false
open Go.RowKit Go.Proofs.YtaegllbokgjoeaaDoorW.PrintWords Go.Proofs.YtaegllbokgjoeaaDoorW.PrintLast Go.Proofs.YtaegllbokgjoeaaDoorW.PrintMore

set_option maxHeartbeats 1000000 in
set_option maxRecDepth 100000 in
theorem rcon_calls {g kb : Nat} {l : List UInt8} {en : Int} {rf : Bool} {cs : Array Value} {tk : TypeId} (w : World) (h : RdAt g l (.slice (some ⟨kb, 0, none⟩) l.length l.length) en ((0 : Nat) : Int) 300 0 rf w)
    (hkb : w.heap[kb]? = some (.cells cs tk (0, 0))) (hk0 : l ≠ [] → cs[0]? = some (.int .i64 0)) (hkg : kb ≠ g) (hl : l.length ≤ 4611686018427387904) :
    Calls Tryd.prog 8 #[.pointer (some ⟨g, 0, none⟩), .int .i64 24] w fun e w' => PieceP g kb l (.slice (some ⟨kb, 0, none⟩) l.length l.length) en w e w' := by
  have hu := Tryd.underlying25
  have hmf : ∀ (fn : Fn) (first cap : Array Value) (w : World), (Instr.makeFunc fn first cap).run Tryd.prog w = .ok (.func fn first cap) w := fun _ _ _ _ => rfl
  have H := Lib.hid h
  have hgT : g < w.heap.size := h.lt
  have hkT : kb < w.heap.size := blk_lt hkb
  have hz : ((w.alloc (.cells #[.pointer (some ⟨g, 0, none⟩)] 40 (0, 0))).alloc (.cells (tC 0 0 0 false) 25 (0, 0))).heap[w.heap.size + 1]? = some (.cells (tC 0 0 0 false) 25 (0, 0)) := by
    have := blk_new (w.alloc (.cells #[.pointer (some ⟨g, 0, none⟩)] 40 (0, 0))) (.cells (tC 0 0 0 false) 25 (0, 0))
    rw [World.size_alloc] at this
    exact this
  have hxb := blk_alloc (blk_new w (.cells #[.pointer (some ⟨g, 0, none⟩)] 40 (0, 0))) (.cells (tC 0 0 0 false) 25 (0, 0))
  have cx := (blk_cell hxb 0).trans rfl
  have HP := Lib.hid (piece_calls ((w.alloc (.cells #[.pointer (some ⟨g, 0, none⟩)] 40 (0, 0))).alloc (.cells (tC 0 0 0 false) 25 (0, 0))) ((h.alloc _).alloc _) cx (by rw [World.size_alloc, World.size_alloc]; omega) (by omega) (by omega) (blk_alloc (blk_alloc hkb _) _) hk0 hkg hl)
  have HZ := Lib.hid hz
  clear h hz hxb hkb hk0
  go_enter Tryd.func8, Tryd.ntmps8
  go_wp2_with fail
  refine HP.out.mono ?_
  rintro e w1 ⟨kind, letter, num, flag, pos, st, rf1, rfl, hr1, hk1, hok⟩
  obtain ⟨p0, q0, p1, q1, p2, q2, p3, q3, p4, q4, p5, q5, hb6, ho6⟩ := st6 (hk1.blk HZ.out (by omega) (by omega)) (.int .i64 kind) (.int .u8 letter) (.string ⟨#[]⟩) (.int .u64 num) (.bool flag) (.slice none 0 0)
  have HO := Lib.hid ho6
  have HBB := Lib.hid hb6
  have HOK := Lib.hid hok
  have HR1 := Lib.hid hr1
  have HK1 : Hid (K2 g kb w w1) := Lib.hid ((K2.of_g (((Kg.refl g w).alloc (by omega) _).alloc (by rw [World.size_alloc]; omega) _)).trans hk1)
  clear hb6 ho6 hok hr1 hk1
  go_wp2_with fail
  (try simp only [Exit.inBlock, Exit.then])
  refine bodyPost_ret (results_cell_row rfl _ _ (w.heap.size + 1) 25 _ (0, 0) _ rfl HBB.out hu rfl (by kernel_rfl)) rfl ?_
  exact ⟨kind, letter, num, flag, pos, st, rf1, rfl, HR1.out.loc HO.out (by omega), HK1.out.loc HO.out (by omega) (by omega), HOK.out⟩

/-- What the grammar tells of a text. -/
def ReadsP (l : List UInt8) (e : Ending) : Prop :=
  (∃ st : Int, st ≠ 0 ∧ e = .returned (.tuple #[.agg (tC 0 0 0 false), .string ⟨#[]⟩, .int .i64 st]) ∧ (st = 1 → Dm.const l = .bad)) ∨
  ∃ kind letter num flag t r, e = .returned (.tuple #[.agg (tC kind letter num flag), .string (bs r), .int .i64 0]) ∧ Dm.const l = .told t r ∧
    ((kind = 21 ∧ t = [95]) ∨ (kind = 20 ∧ ∃ (c : UInt8) (v : Nat), letter = (c.toNat : Int) ∧ num = (v : Int) ∧ v < 18446744073709551616 ∧ Dm.GoodNum c flag (v : Int) ∧ t = Dm.numT c flag (v : Int)))
theorem results_row3 {fn : Func} {p u v : Tmp} {ty : TypeId} (h : fn.results = #[.cell p ty, .tmp u, .tmp v]) (tmps : Array Value) (w : World) (g : Nat) (cs : Array Value)
    (hp : tmps.getD p undef = .pointer (some ⟨g, 0, none⟩)) (hload : (loadVar ty ⟨g, 0, none⟩).run Tryd.prog w = .ok (.agg cs) w) :
    (results fn tmps).run Tryd.prog w = .ok (.tuple #[.agg cs, tmps.getD u undef, tmps.getD v undef]) w := by
  have hp' : tmps[p]?.getD undef = .pointer (some ⟨g, 0, none⟩) := by simpa using hp
  simp [results, h, hp', asAddr, hload]
theorem int_info : (Tryd.prog.info? 3).map (fun i => (i.zero, i.size, i.bytes)) = some (some (.int .i64 0), 1, 8) := by kernel_rfl
theorem make_ints (l : List UInt8) (hl : l.length ≤ 2147483647) (w : World) : (Instr.makeSlice 32 (.int .i64 (l.length : Int)) (.int .i64 (l.length : Int))).run Tryd.prog w = .ok (.slice (some ⟨w.heap.size, 0, none⟩) l.length l.length) (w.alloc (.cells (madeCells #[.int .i64 0] l.length) 3)) := by
  obtain ⟨i, hi, hzz⟩ := Option.map_eq_some_iff.1 int_info
  simp only [Prod.mk.injEq] at hzz
  obtain ⟨h1, h2, h3⟩ := hzz
  have := run_make (P := Tryd.prog) w 32 3 i _ Tryd.underlying32 hi h1 .i64 .i64 (l.length : Int) (l.length : Int) (by omega) (by omega) (by rw [h3]; omega) (by omega)
  rw [h2, Nat.mul_one, Int.toNat_natCast] at this
  exact this
theorem made_first (l : List UInt8) (h : l ≠ []) : (madeCells #[.int .i64 0] l.length)[0]? = some (.int .i64 0) := by
  have : 0 < l.length := List.length_pos_iff.2 h
  unfold madeCells
  simp [this]

set_option maxHeartbeats 1000000 in
set_option maxRecDepth 100000 in
theorem reads_calls (l : List UInt8) (hl : l.length ≤ 2147483647) (w : World) :
    Calls Tryd.prog 4 #[.string (bs l)] w fun e w' => ReadsP l e ∧ Below w.heap.size w w' := by
  have hu := Tryd.underlying25
  have hu2 := Tryd.underlying34
  have hmk := make_ints l hl
  have hz := bs_size l
  have HU : Hid (((w.alloc (.cells (tC 0 0 0 false) 25 (0, 0))).alloc (.cells (madeCells #[.int .i64 0] l.length) 3 (0, 0))).heap[w.heap.size]? = some (.cells (tC 0 0 0 false) 25 (0, 0))) := Lib.hid (blk_alloc (blk_new w _) _)
  have hkb : ((w.alloc (.cells (tC 0 0 0 false) 25 (0, 0))).alloc (.cells (madeCells #[.int .i64 0] l.length) 3 (0, 0))).heap[w.heap.size + 1]? = some (.cells (madeCells #[.int .i64 0] l.length) 3 (0, 0)) := by
    have := blk_new (w.alloc (.cells (tC 0 0 0 false) 25 (0, 0))) (.cells (madeCells #[.int .i64 0] l.length) 3 (0, 0))
    rw [World.size_alloc] at this
    exact this
  have hg : (((w.alloc (.cells (tC 0 0 0 false) 25 (0, 0))).alloc (.cells (madeCells #[.int .i64 0] l.length) 3 (0, 0))).alloc (.cells (rdC l (.slice (some ⟨w.heap.size + 1, 0, none⟩) l.length l.length) (l.length : Int) 0 300 0 false) 34 (0, 0))).heap[w.heap.size + 1 + 1]? = some (.cells (rdC l (.slice (some ⟨w.heap.size + 1, 0, none⟩) l.length l.length) (l.length : Int) 0 300 0 false) 34 (0, 0)) := by
    have := blk_new ((w.alloc (.cells (tC 0 0 0 false) 25 (0, 0))).alloc (.cells (madeCells #[.int .i64 0] l.length) 3 (0, 0))) (.cells (rdC l (.slice (some ⟨w.heap.size + 1, 0, none⟩) l.length l.length) (l.length : Int) 0 300 0 false) 34 (0, 0))
    rw [World.size_alloc, World.size_alloc] at this
    exact this
  have HB : Hid (Below w.heap.size w (((w.alloc (.cells (tC 0 0 0 false) 25 (0, 0))).alloc (.cells (madeCells #[.int .i64 0] l.length) 3 (0, 0))).alloc (.cells (rdC l (.slice (some ⟨w.heap.size + 1, 0, none⟩) l.length l.length) (l.length : Int) 0 300 0 false) 34 (0, 0)))) := Lib.hid ((((Below.refl _ w).alloc (Nat.le_refl _) _).alloc (by rw [World.size_alloc]; omega) _).alloc (by rw [World.size_alloc, World.size_alloc]; omega) _)
  have HC := Lib.hid (rcon_calls (g := w.heap.size + 1 + 1) (kb := w.heap.size + 1) (l := l) (en := (l.length : Int)) (rf := false) _ hg (blk_alloc hkb _) (made_first l) (by omega) (by omega))
  have HU3 := Lib.hid (blk_alloc HU.out (.cells (rdC l (.slice (some ⟨w.heap.size + 1, 0, none⟩) l.length l.length) (l.length : Int) 0 300 0 false) 34 (0, 0)))
  clear hg hkb HU
  go_enter Tryd.func4, Tryd.ntmps4
  go_wp2_with fail
  refine HC.out.mono ?_
  rintro e w1 ⟨kind, letter, num, flag, pos, st, rf1, rfl, hr1, hk1, hok⟩
  have hu1 := hk1.blk HU3.out (by omega) (by omega)
  have hb1 := HB.out.trans (hk1.below w.heap.size (by omega) (by omega))
  have hb2 := hb1.alloc hb1.size (.cells (tC kind letter num flag) 25 (0, 0))
  have hr2 := hr1.alloc (.cells (tC kind letter num flag) 25 (0, 0))
  have hu2' := blk_alloc hu1 (.cells (tC kind letter num flag) 25 (0, 0))
  have hn := blk_new w1 (.cells (tC kind letter num flag) 25 (0, 0))
  have c4 := hr2.c4
  have c1 := hr2.c1
  have hok0 := hok.1
  have HOK := Lib.hid hok
  have HB2 := Lib.hid hb2
  have HN := Lib.hid hn
  have HU2 := Lib.hid hu2'
  clear hmk hr1 hk1 hok hu1 hb1 hb2 hu2' hn HC HU3 HB
  by_cases hs : st = 0
  · subst hs
    obtain ⟨t, r, hct, hp, hdr, hkd⟩ := hok0 rfl
    subst hp
    have hrl : l.length - r.length ≤ l.length := Nat.sub_le _ _
    have HCT := Lib.hid hct
    have HKD := Lib.hid hkd
    have HDR := Lib.hid hdr
    clear hct hkd hok0 hdr
    generalize l.length - r.length = n0 at *
    have u0 := (blk_cell HU2.out 0).trans rfl
    have uf0 := blk_frozen HU2.out 0
    have u1 := (blk_cell HU2.out 1).trans rfl
    have uf1 := blk_frozen HU2.out 1
    have u2 := (blk_cell HU2.out 2).trans rfl
    have uf2 := blk_frozen HU2.out 2
    have u3 := (blk_cell HU2.out 3).trans rfl
    have uf3 := blk_frozen HU2.out 3
    have u4 := (blk_cell HU2.out 4).trans rfl
    have uf4 := blk_frozen HU2.out 4
    have u5 := (blk_cell HU2.out 5).trans rfl
    have uf5 := blk_frozen HU2.out 5
    have d0 := (blk_cell HN.out 0).trans rfl
    have d1 := (blk_cell HN.out 1).trans rfl
    have d2 := (blk_cell HN.out 2).trans rfl
    have d3 := (blk_cell HN.out 3).trans rfl
    have d4 := (blk_cell HN.out 4).trans rfl
    have d5 := (blk_cell HN.out 5).trans rfl
    go_wp2_with fail
    go_region
    all_goals
      go_wp2_with fail
      (try simp only [Exit.inBlock, Exit.then])
      obtain ⟨_, _, _, _, _, _, _, _, _, _, _, _, hb6, ho6⟩ := st6 HU2.out (.int .i64 kind) (.int .u8 letter) (.string ⟨#[]⟩) (.int .u64 num) (.bool flag) (.slice none 0 0)
      have he : (bs l).extract n0 l.length = bs r := by rw [bs_extract, HDR.out]
      refine bodyPost_ret (results_row3 rfl _ _ w.heap.size _ rfl (run_loadVar_row _ w.heap.size 25 _ _ (0, 0) _ (blk_drew hb6) hu rfl (by kernel_rfl))) rfl ?_
      refine ⟨.inr ⟨kind, letter, num, flag, t, r, ?_, HCT.out, HKD.out⟩, Below.drew (HB2.out.trans (ho6.below.mono (Nat.le_refl _)))⟩
      rw [← he]
      rfl
  · have hb : (st != 0) = true := bne_iff_ne.2 hs
    have HS := Lib.hid hs
    clear hs hok0
    have u0 := (blk_cell HU2.out 0).trans rfl
    have uf0 := blk_frozen HU2.out 0
    have u1 := (blk_cell HU2.out 1).trans rfl
    have uf1 := blk_frozen HU2.out 1
    have u2 := (blk_cell HU2.out 2).trans rfl
    have uf2 := blk_frozen HU2.out 2
    have u3 := (blk_cell HU2.out 3).trans rfl
    have uf3 := blk_frozen HU2.out 3
    have u4 := (blk_cell HU2.out 4).trans rfl
    have uf4 := blk_frozen HU2.out 4
    have u5 := (blk_cell HU2.out 5).trans rfl
    have uf5 := blk_frozen HU2.out 5
    go_wp2_with fail
    go_region
    all_goals
      go_wp2_with fail
      (try simp only [Exit.inBlock, Exit.then])
      obtain ⟨_, _, _, _, _, _, _, _, _, _, _, _, hb6, ho6⟩ := st6 HU2.out (.int .i64 0) (.int .u8 0) (.string ⟨#[]⟩) (.int .u64 0) (.bool false) (.slice none 0 0)
      refine bodyPost_ret (results_row3 rfl _ _ w.heap.size _ rfl (run_loadVar_row _ w.heap.size 25 _ _ (0, 0) _ (blk_drew hb6) hu rfl (by kernel_rfl))) rfl ?_
      exact ⟨.inl ⟨st, HS.out, rfl, HOK.out.2⟩, Below.drew (HB2.out.trans (ho6.below.mono (Nat.le_refl _)))⟩
end Go.Proofs.YtaegllbokgjoeaaDoor
