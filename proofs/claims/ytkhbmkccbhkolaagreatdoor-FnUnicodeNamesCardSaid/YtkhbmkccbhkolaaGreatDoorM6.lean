/- Plain lemmas between the print's words on strings and lists of bytes. A slice of slices of whole numbers that comes in, as the printed walks read it. -/
import Derived.Test.YtkhbmkccbhkolaaGreatDoorWWords
import Derived.Test.YtkhbmkccbhkolaaGreatDoorM1
import Derived.Test.YtkhbmkccbhkolaaGreatDoorProg
import Derived.Test.YtkhbmkccbhkolaaGreatDoorWMore
import Derived.Deep.Matrix
import Derived.ProofKit
import Derived.ChangeOld
namespace Go.Proofs.YtkhbmkccbhkolaaGreatDoor
set_option linter.unusedVariables false
set_option linter.unusedSimpArgs false
open Go.RowKit Go.Proofs.YtkhbmkccbhkolaaGreatDoorW.PrintWords

theorem bs_of (s : ByteArray) : ∃ l, s = bs l ∧ l.length = s.size := ⟨s.data.toList, by
  apply ByteArray.ext
  show s.data = s.data.toList.toArray
  simp, by rw [Array.length_toList]; rfl⟩
theorem bs_inj {l m : List UInt8} (h : bs l = bs m) : l = m := by
  have := congrArg (fun s => s.data.toList) h
  simpa [bs] using this
theorem bs_tl (l : List UInt8) : (bs l).toList = l := by simp [bs]
theorem bs_dl (l : List UInt8) : (bs l).data.toList = l := by simp [bs]
theorem bt_bs (l : List UInt8) (k : Nat) (h : k < l.length) : bt (bs l) (k : Int) = (l[k].toNat : Int) := by
  unfold bt
  rw [dif_pos (by rw [bs_size]; simpa using h)]
  simp only [Int.toNat_natCast]
  rfl
theorem bt_zero (c : UInt8) (r : List UInt8) : bt (bs (c :: r)) 0 = (c.toNat : Int) := bt_bs (c :: r) 0 (by simp)
theorem bt_one (c d : UInt8) (r : List UInt8) : bt (bs (c :: d :: r)) 1 = (d.toNat : Int) := bt_bs (c :: d :: r) 1 (by simp)
theorem bt_drop {l t : List UInt8} {k : Nat} {c : UInt8} (h : l.drop k = c :: t) : bt (bs l) (k : Int) = (c.toNat : Int) := by
  have hk : k < l.length := by
    rcases Nat.lt_or_ge k l.length with h' | h'
    · exact h'
    · rw [List.drop_eq_nil_of_le h'] at h; cases h
  rw [bt_bs l k hk]
  rw [List.drop_eq_getElem_cons hk] at h
  injection h with h1 _
  rw [h1]
theorem bs_ex (l : List UInt8) (k : Nat) : (bs l).extract k (bs l).size = bs (l.drop k) := by rw [bs_size]; exact bs_extract l k
theorem bs_empty : (⟨#[]⟩ : ByteArray) = bs [] := rfl
theorem bs_one (c : UInt8) : (⟨#[c]⟩ : ByteArray) = bs [c] := rfl
theorem wrap_id {x : Int} (h0 : -9223372036854775808 ≤ x) (h1 : x ≤ 9223372036854775807) : wrap64 x = x := by
  unfold wrap64; omega
end Go.Proofs.YtkhbmkccbhkolaaGreatDoor
namespace Go.Proofs.YtkhbmkccbhkolaaGreatDoor
set_option linter.unusedVariables false
set_option linter.unusedSimpArgs false
open Go.RowKit Go.Proofs.YtkhbmkccbhkolaaGreatDoorW.PrintWords Go.Proofs.YtkhbmkccbhkolaaGreatDoorW.PrintMore
open Go.ChangeShapes Go.WideShapes Go.ChangeAt

theorem rowsC {H : Type} {enc : TypeId × Value → H} {P : Program} {W : World} {base : Nat} {t e q : TypeId} {k : IntKind} {a : Option Addr} {len cap : Nat} {d : DataW H} {ps : List MemPlace}
    (ht : P.underlying t = some (.slice e)) (he : P.underlying e = some (.slice q)) (hq : P.underlying q = some (.int k)) (ce : P.cellsOf e = 1) (cq : P.cellsOf q = 1) (n : Nat)
    (h : DataW.Trod enc P W base (fun _ => true) true t (.slice a len cap) d ps) :
    ∃ l : List (List Int), len = l.length ∧ (Kd.slice n (Kd.int k)).C W a l.length l ∧ l.length ≤ maxLen ∧ (∀ r ∈ l, r.length ≤ maxLen ∧ ∀ x ∈ r, (Lit.int k x).wf = true) ∧ l.length ≤ cap := by
  obtain ⟨fuel, hf⟩ := h
  rcases Deep.open_int_rows ht he hq ce cq hf with ⟨hcs, _⟩ | ⟨x, ln, cp, A, L, C, Z, hcs, _, hl, hm, _, hrow⟩
  · simp [Value.cells] at hcs
    obtain ⟨rfl, rfl, rfl⟩ := hcs
    exact ⟨[], rfl, Kd.C_nil _ _, by simp, by simp, by simp⟩
  · simp [Value.cells] at hcs
    obtain ⟨rfl, rfl, rfl⟩ := hcs
    have hlen : ((List.range len).map fun r => (Z r).take (L r)).length = len := by simp
    have hml : maxLen ≤ 9223372036854775807 := by decide
    refine ⟨(List.range len).map fun r => (Z r).take (L r), hlen.symm, ?_, by omega, ?_, by omega⟩
    · refine ⟨rfl, by omega, fun _ => ⟨x, rfl, fun j p hj => ?_⟩⟩
      obtain ⟨hj1, hj2⟩ := List.getElem?_eq_some_iff.1 hj
      rw [hlen] at hj1
      rw [List.getElem_map, List.getElem_range] at hj2
      subst hj2
      obtain ⟨h1, h2, h3, h4, _, h6, h7⟩ := hrow j (by omega)
      have hn : ((Z j).take (L j)).length = L j := by rw [List.length_take]; omega
      refine ⟨[.slice (A j) ((Z j).take (L j)).length (C j)], rfl, ⟨A j, C j, rfl, by omega, rfl, by omega, fun h0 => ?_⟩, fun i u hu => ?_⟩
      · cases hA : A j with
        | none => have := h6 hA; omega
        | some a' =>
          obtain ⟨_, hc⟩ := h7 a' hA
          refine ⟨a', rfl, fun i y hy => ⟨[.int k y], rfl, rfl, fun i2 u hu => ?_⟩⟩
          obtain ⟨hy1, hy2⟩ := List.getElem?_eq_some_iff.1 hy
          rw [List.getElem_take] at hy2
          have hi2 : i2 = 0 := by
            have := (List.getElem?_eq_some_iff.1 hu).1; simp at this; exact this
          subst hi2
          simp at hu
          subst hu
          have := hc i (by omega)
          rw [List.getD_eq_getElem?_getD, List.getElem?_eq_getElem (by omega)] at this
          show W.cell? (a'.add (i * 1 + 0)) = _
          rw [Nat.mul_one, Nat.add_zero, this, ← hy2]; rfl
      · have hi2 : i = 0 := by
          have := (List.getElem?_eq_some_iff.1 hu).1; simp at this; exact this
        subst hi2
        simp at hu
        subst hu
        show W.cell? (x.add (j * 1 + 0)) = _
        rw [Nat.mul_one, Nat.add_zero, h1]
        congr 2
        omega
    · intro r hr
      rw [List.mem_map] at hr
      obtain ⟨j, hj, rfl⟩ := hr
      rw [List.mem_range] at hj
      obtain ⟨_, h2, h3, h4, h5, _, _⟩ := hrow j (by omega)
      exact ⟨by rw [List.length_take]; omega, fun y hy => h5 y (List.mem_of_mem_take hy)⟩
end Go.Proofs.YtkhbmkccbhkolaaGreatDoor
