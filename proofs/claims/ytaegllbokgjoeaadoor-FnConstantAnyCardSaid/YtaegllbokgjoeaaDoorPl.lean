/- Plain lemmas between the print's words on strings and lists of bytes. -/
import Derived.Test.YtaegllbokgjoeaaDoorWWords
import Derived.Test.YtaegllbokgjoeaaDoorCore
namespace Go.Proofs.YtaegllbokgjoeaaDoor
set_option linter.unusedVariables false
set_option linter.unusedSimpArgs false
open Go.RowKit Go.Proofs.YtaegllbokgjoeaaDoorW.PrintWords

theorem bs_of (s : ByteArray) : ∃ l, s = bs l ∧ l.length = s.size := ⟨s.data.toList, by
  apply ByteArray.ext
  show s.data = s.data.toList.toArray
  simp, by rw [Array.length_toList]; rfl⟩
theorem bs_inj {l m : List UInt8} (h : bs l = bs m) : l = m := by
  have := congrArg (fun s => s.data.toList) h
  simpa [bs] using this
theorem bs_tl (l : List UInt8) : (bs l).toList = l := by simp [bs]
theorem bs_dl (l : List UInt8) : (bs l).data.toList = l := by simp [bs]
theorem bt_bs (l : List UInt8) (k : Nat) (h : k < l.length) : bt (bs l) (k : Int) = (l[k].toNat : Int) := by
  unfold bt
  rw [dif_pos (by rw [bs_size]; simpa using h)]
  simp only [Int.toNat_natCast]
  rfl
theorem bt_zero (c : UInt8) (r : List UInt8) : bt (bs (c :: r)) 0 = (c.toNat : Int) := bt_bs (c :: r) 0 (by simp)
theorem bt_one (c d : UInt8) (r : List UInt8) : bt (bs (c :: d :: r)) 1 = (d.toNat : Int) := bt_bs (c :: d :: r) 1 (by simp)
theorem bt_drop {l t : List UInt8} {k : Nat} {c : UInt8} (h : l.drop k = c :: t) : bt (bs l) (k : Int) = (c.toNat : Int) := by
  have hk : k < l.length := by
    rcases Nat.lt_or_ge k l.length with h' | h'
    · exact h'
    · rw [List.drop_eq_nil_of_le h'] at h; cases h
  rw [bt_bs l k hk]
  rw [List.drop_eq_getElem_cons hk] at h
  injection h with h1 _
  rw [h1]
theorem bs_ex (l : List UInt8) (k : Nat) : (bs l).extract k (bs l).size = bs (l.drop k) := by rw [bs_size]; exact bs_extract l k
theorem bs_empty : (⟨#[]⟩ : ByteArray) = bs [] := rfl
theorem bs_one (c : UInt8) : (⟨#[c]⟩ : ByteArray) = bs [c] := rfl
theorem wrap_id {x : Int} (h0 : -9223372036854775808 ≤ x) (h1 : x ≤ 9223372036854775807) : wrap64 x = x := by
  unfold wrap64; omega
end Go.Proofs.YtaegllbokgjoeaaDoor
