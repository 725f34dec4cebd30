/- The grammar's reader: numbers in base 62, and what refers back from the first place. -/
import Derived.Test.YtaegllbokgjoeaaDoorRdr
namespace Go.Proofs.YtaegllbokgjoeaaDoor
set_option linter.unusedVariables false
set_option linter.unusedSimpArgs false
open Go.RowKit Go.Proofs.YtaegllbokgjoeaaDoorW.PrintWords Go.Proofs.YtaegllbokgjoeaaDoorW.PrintLast Go.Proofs.YtaegllbokgjoeaaDoorW.PrintMore

/-- Where the reader stands. -/
def posB (g : Nat) (w : World) : Nat := match w.cell? ⟨g, 1, none⟩ with | some (.int _ x) => x.toNat | _ => 0
theorem posB_rd {g : Nat} {l : List UInt8} {K : Value} {en left st : Int} {rf : Bool} {w : World} {i : Nat} (h : RdAt g l K en (i : Int) left st rf w) : posB g w = i := by
  unfold posB
  rw [h.c1]; rfl
theorem nx_class (l : List UInt8) (i : Nat) : ∃ c : Int, nx l i = c ∧ 0 ≤ c ∧ c < 256 ∧ (c ≠ 0 → i < l.length) := by
  unfold nx
  cases h : l[i]? with
  | none => exact ⟨0, rfl, by omega, by omega, fun e => absurd rfl e⟩
  | some c => exact ⟨(c.toNat : Int), rfl, by omega, by have := UInt8.toNat_lt c; omega, fun _ => (List.getElem?_eq_some_iff.1 h).1⟩
theorem u64_nn (x : Int) : 0 ≤ IntKind.u64.wrap x := by rw [IntKind.wrap_u64]; omega
/-- What base62 leaves: some number; the reader, wherever it stands and whatever it says. -/
def B62R (g : Nat) (l : List UInt8) (K : Value) (en left : Int) (rf : Bool) (w : World) (e : Ending) (w' : World) : Prop :=
  ∃ (n pos st : Int), e = .returned (.int .u64 n) ∧ 0 ≤ n ∧ RdAt g l K en pos left st rf w' ∧ Kg g w w'

set_option maxHeartbeats 1000000 in
set_option maxRecDepth 100000 in
theorem b62_calls {g : Nat} {l : List UInt8} {K : Value} {en left : Int} {rf : Bool} (i : Nat) (w : World) (h : RdAt g l K en (i : Int) left 0 rf w) (hl : l.length ≤ 4611686018427387904) (hi : i ≤ l.length) :
    Calls Tryd.prog 35 #[.pointer (some ⟨g, 0, none⟩)] w fun e w' => B62R g l K en left rf w e w' := by
  have HT := Lib.hid (take_calls i 95 95 rfl w h hl)
  have HI := Lib.hid hi
  have HL := Lib.hid hl
  clear h hi hl
  go_enter Tryd.func35, Tryd.ntmps35
  go_wp2_with fail
  refine HT.out.mono ?_
  rintro e w1 ⟨⟨_, _, rfl, hr1⟩ | ⟨_, rfl, hr1⟩, hk1⟩
  · go_wp2_with fail
    go_ret
    exact ⟨_, _, _, rfl, by omega, hr1, hk1⟩
  · clear HT
    go_wp2_with fail
    go_loopw [3] (fun v3 wr => ∃ (x : Int) (j : Nat), v3 = .int .u64 x ∧ Hid (0 ≤ x) ∧ Hid (j ≤ l.length) ∧ Hid (RdAt g l K en (j : Int) left 0 rf wr) ∧ Hid (Kg g w wr)) (fun _ wr => l.length - posB g wr)
    case atStart => exact ⟨0, i, rfl, Lib.hid (Int.le_refl 0), HI, Lib.hid hr1, Lib.hid hk1⟩
    case round =>
      clear hr1 hk1
      obtain ⟨x, j, rfl, HX0, HJ, HR, HK⟩ := hrel
      have c4 := HR.out.c4
      have HN := Lib.hid (next_calls j wr HR.out)
      have HPO := Lib.hid (posB_rd HR.out)
      obtain ⟨c, hc, hc0, hc1, hcl⟩ := nx_class l j
      rw [hc] at HN
      have HCL := Lib.hid hcl
      clear hc hcl
      go_wp2_with fail
      refine HN.out.mono ?_
      rintro e w2 ⟨rfl, n2, rfl⟩
      have HR2 : Hid (RdAt g l K en (j : Int) left 0 rf (wr.drewN n2)) := Lib.hid (HR.out.drewN n2)
      have HK2 : Hid (Kg g w (wr.drewN n2)) := Lib.hid (HK.out.drewN n2)
      have HS1 := Lib.hid (stop_calls 1 _ HR2.out)
      have HS2 := Lib.hid (stop_calls 2 _ HR2.out)
      obtain ⟨P, hP⟩ : ∃ P : Int, P = (j : Int) := ⟨_, rfl⟩
      have b1 := HR2.out.c1
      rw [← hP] at b1
      have f1 := HR2.out.fz 1
      have HP := Lib.hid hP
      have HST : Hid (∀ j' : Int, RdAt g l K en j' left 0 rf ((wr.drewN n2).setCell ⟨g, 1, none⟩ (.int .i64 j'))) := Lib.hid fun j' => HR2.out.set1 j'
      have HKT : Hid (∀ j' : Int, Kg g w ((wr.drewN n2).setCell ⟨g, 1, none⟩ (.int .i64 j'))) := Lib.hid fun j' => HK2.out.set 1 _
      clear hP c4
      generalize wr.drewN n2 = w3 at *
      have hcs : (48 ≤ c ∧ c ≤ 57) ∨ (97 ≤ c ∧ c ≤ 122) ∨ (65 ≤ c ∧ c ≤ 90) ∨ c = 95 ∨ ((c < 48 ∨ 57 < c) ∧ (c < 97 ∨ 122 < c) ∧ (c < 65 ∨ 90 < c) ∧ c ≠ 95) := by omega
      rcases hcs with ⟨a1, a2⟩ | ⟨a1, a2⟩ | ⟨a1, a2⟩ | a1 | ⟨a1, a2, a3, a4⟩
      · have HJL : Hid (j < l.length) := Lib.hid (HCL.out (by omega))
        by_cases hx : 74382032555280449 ≤ x
        · go_wp2_with fail
          refine HS2.out.mono ?_
          rintro e w4 ⟨rfl, hr4, hk4⟩
          go_wp2_with fail
          go_ret
          exact ⟨_, _, _, rfl, by omega, hr4, HK2.out.trans hk4⟩
        · go_wp2_with fail
          go_roundw
          case rel =>
            refine ⟨_, j + 1, rfl, Lib.hid (u64_nn _), Lib.hid HJL.out, Lib.hid ?_, Lib.hid (HKT.out _)⟩
            have e : ((j + 1 : Nat) : Int) = wrap64 (P + 1) := by
              have h1 := HP.out; have h2 := HJL.out; have h3 := HL.out
              rw [wrap_id (by omega) (by omega)]; omega
            rw [e]
            exact HST.out _
          case measure =>
            have e : ((j + 1 : Nat) : Int) = wrap64 (P + 1) := by
              have h1 := HP.out; have h2 := HJL.out; have h3 := HL.out
              rw [wrap_id (by omega) (by omega)]; omega
            have hm := HST.out (wrap64 (P + 1))
            rw [← e] at hm
            have h2 := HJL.out
            rw [← e, posB_rd hm, HPO.out]
            omega
      · have HJL : Hid (j < l.length) := Lib.hid (HCL.out (by omega))
        have n57 : ¬ c ≤ 57 := by omega
        by_cases hx : 74382032555280449 ≤ x
        · go_wp2_with fail
          refine HS2.out.mono ?_
          rintro e w4 ⟨rfl, hr4, hk4⟩
          go_wp2_with fail
          go_ret
          exact ⟨_, _, _, rfl, by omega, hr4, HK2.out.trans hk4⟩
        · go_wp2_with fail
          go_roundw
          case rel =>
            refine ⟨_, j + 1, rfl, Lib.hid (u64_nn _), Lib.hid HJL.out, Lib.hid ?_, Lib.hid (HKT.out _)⟩
            have e : ((j + 1 : Nat) : Int) = wrap64 (P + 1) := by
              have h1 := HP.out; have h2 := HJL.out; have h3 := HL.out
              rw [wrap_id (by omega) (by omega)]; omega
            rw [e]
            exact HST.out _
          case measure =>
            have e : ((j + 1 : Nat) : Int) = wrap64 (P + 1) := by
              have h1 := HP.out; have h2 := HJL.out; have h3 := HL.out
              rw [wrap_id (by omega) (by omega)]; omega
            have hm := HST.out (wrap64 (P + 1))
            rw [← e] at hm
            have h2 := HJL.out
            rw [← e, posB_rd hm, HPO.out]
            omega
      · have HJL : Hid (j < l.length) := Lib.hid (HCL.out (by omega))
        have n57 : ¬ c ≤ 57 := by omega
        have n97 : ¬ 97 ≤ c := by omega
        by_cases hx : 74382032555280449 ≤ x
        · go_wp2_with fail
          refine HS2.out.mono ?_
          rintro e w4 ⟨rfl, hr4, hk4⟩
          go_wp2_with fail
          go_ret
          exact ⟨_, _, _, rfl, by omega, hr4, HK2.out.trans hk4⟩
        · go_wp2_with fail
          go_roundw
          case rel =>
            refine ⟨_, j + 1, rfl, Lib.hid (u64_nn _), Lib.hid HJL.out, Lib.hid ?_, Lib.hid (HKT.out _)⟩
            have e : ((j + 1 : Nat) : Int) = wrap64 (P + 1) := by
              have h1 := HP.out; have h2 := HJL.out; have h3 := HL.out
              rw [wrap_id (by omega) (by omega)]; omega
            rw [e]
            exact HST.out _
          case measure =>
            have e : ((j + 1 : Nat) : Int) = wrap64 (P + 1) := by
              have h1 := HP.out; have h2 := HJL.out; have h3 := HL.out
              rw [wrap_id (by omega) (by omega)]; omega
            have hm := HST.out (wrap64 (P + 1))
            rw [← e] at hm
            have h2 := HJL.out
            rw [← e, posB_rd hm, HPO.out]
            omega
      · subst a1
        have HJL : Hid (j < l.length) := Lib.hid (HCL.out (by omega))
        go_wp2_with fail
        go_ret
        exact ⟨_, _, _, rfl, u64_nn _, HST.out _, HKT.out _⟩
      · have hb : (c == 95) = false := beq_eq_false_iff_ne.2 a4
        go_wp2_with fail
        all_goals
          refine HS1.out.mono ?_
          rintro e w4 ⟨rfl, hr4, hk4⟩
          go_wp2_with fail
          go_ret
          exact ⟨_, _, _, rfl, by omega, hr4, HK2.out.trans hk4⟩
end Go.Proofs.YtaegllbokgjoeaaDoor
