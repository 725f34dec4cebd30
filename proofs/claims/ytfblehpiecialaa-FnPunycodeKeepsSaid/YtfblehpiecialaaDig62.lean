/- Digits in base 62: what is written by a table is read back. -/
import Derived.Test.YtfblehpiecialaaPl
import Derived.OpenShut
namespace Go.Proofs.Ytfblehpiecialaa
set_option linter.unusedVariables false
set_option linter.unusedSimpArgs false
open Go.RowKit Go.Proofs.YtfblehpiecialaaW.PrintWords

def D62 : List UInt8 := [48, 49, 50, 51, 52, 53, 54, 55, 56, 57, 97, 98, 99, 100, 101, 102, 103, 104, 105, 106, 107, 108, 109, 110, 111, 112, 113, 114, 115, 116, 117, 118, 119, 120, 121, 122, 65, 66, 67, 68, 69, 70, 71, 72, 73, 74, 75, 76, 77, 78, 79, 80, 81, 82, 83, 84, 85, 86, 87, 88, 89, 90]

theorem d62_fin : ∀ d : Fin 62, (D62.drop d.val).take 1 = [D62.getD d.val 0] ∧ Dm.dig62 (D62.getD d.val 0) = some (d.val : Int) ∧ D62.getD d.val 0 ≠ 95 := by decide +kernel

theorem bs_piece (l : List UInt8) (a b : Nat) : (bs l).extract a b = bs ((l.drop a).take (b - a)) := by
  apply ByteArray.ext
  simp [bs, ByteArray.data_extract]

theorem d62_piece (d : Int) (h0 : 0 ≤ d) (h1 : d < 62) : ∃ c, (bs D62).extract d.toNat ((d + 1) % 256).toNat = bs [c] ∧ Dm.dig62 c = some d ∧ c ≠ 95 := by
  obtain ⟨a, b, c⟩ := d62_fin ⟨d.toNat, by omega⟩
  refine ⟨D62.getD d.toNat 0, ?_, ?_, c⟩
  · rw [bs_piece, show ((d + 1) % 256).toNat - d.toNat = 1 from by omega]
    exact congrArg bs a
  · rw [b]; congr 1; simp; omega

/-- p are digits, and n is their number. -/
def Num62 (p : List UInt8) (n : Int) : Prop :=
  (∀ t, Dm.b62 0 (p ++ t) = Dm.b62 n t) ∧ (p = [] ∧ n = 0 ∨ ∃ c r, p = c :: r ∧ c ≠ 95)
theorem num62_nil : Num62 [] 0 := ⟨fun _ => rfl, .inl ⟨rfl, rfl⟩⟩
theorem num62_snoc {p : List UInt8} {n d : Int} {c : UInt8} (h : Num62 p n) (hc : c ≠ 95) (hd : Dm.dig62 c = some d) : Num62 (p ++ [c]) (wrap64 (wrap64 (n * 62) + d)) := by
  refine ⟨fun t => ?_, ?_⟩
  · rw [List.append_assoc, h.1, List.singleton_append, b62_step hc hd]
  · rcases h.2 with ⟨rfl, _⟩ | ⟨e, r, rfl, he⟩
    · exact .inr ⟨c, [], rfl, hc⟩
    · exact .inr ⟨e, r ++ [c], rfl, he⟩
theorem num62_read {p t : List UInt8} {n : Int} (h : Num62 p n) (hp : p ≠ []) : Dm.base62 (p ++ 95 :: t) = some (wrap64 (n + 1), t) := by
  rcases h.2 with ⟨rfl, _⟩ | ⟨e, r, rfl, he⟩
  · exact absurd rfl hp
  · rw [List.cons_append, Dm.base62, if_neg he, ← List.cons_append, h.1, b62_end]
theorem num62_other {p t : List UInt8} {n : Int} {c : UInt8} (h : Num62 p n) (hc : c ≠ 95) (hd : Dm.dig62 c = none) : Dm.base62 (p ++ c :: t) = none := by
  rcases h.2 with ⟨rfl, rfl⟩ | ⟨e, r, rfl, he⟩
  · rw [List.nil_append, Dm.base62, if_neg hc, b62_none hc hd]
  · rw [List.cons_append, Dm.base62, if_neg he, ← List.cons_append, h.1, b62_none hc hd]

theorem rd_range {l : List Int} (h : ∀ x ∈ l, (Lit.int .u8 x).wf = true) (i : Nat) : 0 ≤ rd l (i : Int) ∧ rd l (i : Int) ≤ 255 := by
  have := range_u8 h i
  unfold rd
  rw [Int.toNat_natCast, List.getD_eq_getElem?_getD]
  exact this
theorem bs_app (l m : List UInt8) : bs l ++ bs m = bs (l ++ m) := by
  apply ByteArray.ext
  simp [bs, ByteArray.data_append]
end Go.Proofs.Ytfblehpiecialaa
