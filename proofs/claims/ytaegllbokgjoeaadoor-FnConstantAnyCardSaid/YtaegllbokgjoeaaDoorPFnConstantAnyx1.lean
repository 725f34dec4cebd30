/- FnConstantAny: its walk, by hand: what the grammar tells of a constant, the thin package's Constant tells, and it refuses what the grammar refuses. Conditions: none. -/
import Derived.Test.YtaegllbokgjoeaaDoorQA
import Derived.Test.YtaegllbokgjoeaaDoorQB
namespace Go.Proofs.YtaegllbokgjoeaaDoor
set_option linter.unusedVariables false
set_option linter.unusedSimpArgs false
open Go.RowKit Go.Proofs.YtaegllbokgjoeaaDoorW.PrintWords Go.Proofs.YtaegllbokgjoeaaDoorW.PrintLast Go.Proofs.YtaegllbokgjoeaaDoorW.PrintMore

theorem data_bs (s : ByteArray) : bs s.data.toList = s := by
  apply ByteArray.ext
  show s.data.toList.toArray = s.data
  simp
theorem refused_calls (l : List UInt8) (w : World) (hl : l.length ≤ 140737488355000) (hT : StrIs w) (hd : Dm.const l = .bad) :
    Calls Tryd.prog 7 #[.string (bs l)] w fun e w' => e = .returned (.bool true) ∧ Below w.heap.size w w' := by
  have HC := Lib.hid (constant_refused l w hl hT hd)
  clear hT hd
  go_enter Tryd.func7, Tryd.ntmps7
  go_wp2_with fail
  refine HC.out.mono ?_
  rintro e w2 ⟨rfl, hb⟩
  have HB := Lib.hid hb
  clear hb
  go_wp2_with fail
  go_ret
  exact ⟨rfl, HB.out⟩
theorem text_calls (kind letter num : Int) (flag : Bool) (t : List UInt8) (w : World)
    (h : (kind = 21 ∧ t = [95]) ∨ (kind = 20 ∧ ∃ (c : UInt8) (v : Nat), letter = (c.toNat : Int) ∧ num = (v : Int) ∧ v < 18446744073709551616 ∧ Dm.GoodNum c flag (v : Int) ∧ t = Dm.numT c flag (v : Int))) :
    Calls Tryd.prog 6 #[.agg (tC kind letter num flag)] w fun e w' => e = .returned (.string (bs t)) ∧ Below w.heap.size w w' := by
  rcases h with ⟨rfl, rfl⟩ | ⟨rfl, c, v, rfl, rfl, hv, hg, rfl⟩
  · exact PconstantHere.spec_RustConstantText.calls 1 21 letter ⟨#[]⟩ num flag none 0 [] _ w (Kd.C_nil _ _) (Nat.le_refl _) (Rt.hole_f _ _ _ _ _)
  · obtain ⟨k, hk⟩ : ∃ k : Nat, v + 1 < k := ⟨_, Nat.lt_succ_self _⟩
    exact PconstantHere.spec_RustConstantText.calls (k + 1) 20 (c.toNat : Int) ⟨#[]⟩ (v : Int) flag none 0 [] _ w (Kd.C_nil _ _) (Nat.le_refl _) (Rt.text_f c v flag ⟨#[]⟩ hv hg k (by omega) (by omega))

set_option maxHeartbeats 1000000 in
set_option maxRecDepth 100000 in
theorem any_calls (l : List UInt8) (w : World) (hl : l.length ≤ 140737488351232) (hT : StrIs w) :
    Calls Tryd.prog 3 #[.string (bs l)] w fun e w' => e = .returned (.bool true) ∧ Below w.heap.size w w' := by
  have hu := Tryd.underlying25
  have hz := bs_size l
  by_cases hbig : 2147483647 < (l.length : Int)
  · clear hT
    go_enter Tryd.func3, Tryd.ntmps3
    go_wp2_with fail
    go_ret
    exact ⟨rfl, Below.refl _ _⟩
  · have HR := Lib.hid (reads_calls l (by omega) w)
    have HT := Lib.hid hT
    have HL := Lib.hid hl
    clear hT hl
    go_enter Tryd.func3, Tryd.ntmps3
    go_wp2_with fail
    refine HR.out.mono ?_
    rintro e w1 ⟨⟨st, hs, rfl, hbad⟩ | ⟨kind, letter, num, flag, t, r, rfl, hct, hkd⟩, hb1⟩
    · have h0 : (st == 0) = false := beq_eq_false_iff_ne.2 hs
      have HB2 : Hid (Below w.heap.size w (w1.alloc (.cells (tC 0 0 0 false) 25 (0, 0)))) := Lib.hid (hb1.alloc hb1.size _)
      by_cases h1 : st = 1
      · subst h1
        have hT2 : StrIs (w1.alloc (.cells (tC 0 0 0 false) 25 (0, 0))) := Stays.below HT.out HB2.out
        have HF := Lib.hid (refused_calls l _ (by have := HL.out; omega) hT2 (hbad rfl))
        clear hbad hs hb1 hT2 h0
        go_wp2_with fail
        refine HF.out.mono ?_
        rintro e w3 ⟨rfl, hb3⟩
        have HB3 := Lib.hid (HB2.out.trans (hb3.mono HB2.out.size))
        clear hb3
        go_wp2_with fail
        go_ret
        exact ⟨rfl, HB3.out⟩
      · have h1b : (st == 1) = false := beq_eq_false_iff_ne.2 h1
        clear hbad hs hb1 h1
        go_wp2_with fail
        go_ret
        exact ⟨rfl, HB2.out⟩
    · have HB2 : Hid (Below w.heap.size w (w1.alloc (.cells (tC kind letter num flag) 25 (0, 0)))) := Lib.hid (hb1.alloc hb1.size _)
      have hT2 : StrIs (w1.alloc (.cells (tC kind letter num flag) 25 (0, 0))) := Stays.below HT.out HB2.out
      have HF := Lib.hid (constant_told l _ (by have := HL.out; omega) (const_not66 hct) hT2 t r hct)
      have hn := blk_new w1 (.cells (tC kind letter num flag) 25 (0, 0))
      have HKD := Lib.hid hkd
      have HN := Lib.hid hn
      clear hb1 hct hkd hT2 hn
      go_wp2_with fail
      refine HF.out.mono ?_
      rintro e w3 ⟨rfl, hb3⟩
      have HB3 := Lib.hid (HB2.out.trans (hb3.mono HB2.out.size))
      have hn3 := blk_below HN.out hb3
      have d0 := (blk_cell hn3 0).trans rfl
      have d1 := (blk_cell hn3 1).trans rfl
      have d2 := (blk_cell hn3 2).trans rfl
      have d3 := (blk_cell hn3 3).trans rfl
      have d4 := (blk_cell hn3 4).trans rfl
      have d5 := (blk_cell hn3 5).trans rfl
      have HX := Lib.hid (text_calls kind letter num flag t w3 HKD.out)
      clear hb3 hn3
      go_wp2_with fail
      refine HX.out.mono ?_
      rintro e w4 ⟨rfl, hb4⟩
      have HB4 := Lib.hid (HB3.out.trans (hb4.mono HB3.out.size))
      clear hb4
      go_wp2_with fail
      go_ret
      exact ⟨by simp, HB4.out⟩
end Go.Proofs.YtaegllbokgjoeaaDoor
namespace Go.Proofs.YtaegllbokgjoeaaDoor.PFnConstantAny
open Go.RowKit Go.Proofs.YtaegllbokgjoeaaDoorW.PrintWords Go.Proofs.YtaegllbokgjoeaaDoorW.PrintLast Go.Proofs.YtaegllbokgjoeaaDoorW.PrintMore
def laws_FnConstantAny.Pure : Prop := True
theorem laws_FnConstantAny.walk (_ : laws_FnConstantAny.Pure) (a0 : ByteArray) (w : World) (hT_ : StrIs w) (w0 : a0.size ≤ 140737488351232) :
    Calls Tryd.prog 3 #[.string a0] w fun e w' => e = .returned (.bool true) ∧ Below w.heap.size w w' := by
  have h := any_calls a0.data.toList w (by rw [Array.length_toList]; exact w0) hT_
  rw [data_bs] at h
  exact h
end Go.Proofs.YtaegllbokgjoeaaDoor.PFnConstantAny
