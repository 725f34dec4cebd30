/- spec.RustRightConstant of a number without kids, of a signed type: by hand, as the print's own contracts. -/
import Derived.Test.YtpmlnhddkbgefaaDoorStr
import Derived.Test.YtpmlnhddkbgefaaDoorWApart
namespace Go.Proofs.YtpmlnhddkbgefaaDoor
set_option linter.unusedVariables false
set_option linter.unusedSimpArgs false
open Go.RowKit Go.Proofs.YtpmlnhddkbgefaaDoorW.PrintWords

abbrev S31 := List Value
/-- The number of a signed type: below the half of its range. -/
def mostOf (c : Int) : Option Int :=
  if c = 97 then some 128 else if c = 115 then some 32768 else if c = 108 then some 2147483648 else if c = 120 ∨ c = 110 ∨ c = 105 then some 9223372036854775808 else none
def spec_RustRightConstant.f (kind letter : Int) (_name : ByteArray) (num : Int) (flag : Bool) (kids : List S31) : Option Bool :=
  if kind = 20 ∧ flag = false ∧ kids.length = 0 then (mostOf letter).map fun m => decide (num < m) else none

theorem rustBits_calls (c nb : Int) (h : (c, nb) ∈ ([(97, 8), (115, 16), (108, 32), (120, 64), (110, 64), (105, 64)] : List (Int × Int))) (w : World) :
    Calls Tryd.prog 43 #[.int .u8 c] w fun e w' => e = .returned (.tuple #[.int .u64 nb, .bool true]) ∧ w' = w := by
  simp only [List.mem_cons, List.not_mem_nil, or_false, Prod.mk.injEq] at h
  rcases h with ⟨rfl, rfl⟩ | ⟨rfl, rfl⟩ | ⟨rfl, rfl⟩ | ⟨rfl, rfl⟩ | ⟨rfl, rfl⟩ | ⟨rfl, rfl⟩ <;>
  · go_enter Tryd.func43, Tryd.ntmps43
    go_wp2
    go_ret2
    exact ⟨rfl, rfl⟩

theorem number_calls (c nb m : Int) (h : (c, nb, m) ∈ ([(97, 8, 128), (115, 16, 32768), (108, 32, 2147483648), (120, 64, 9223372036854775808), (110, 64, 9223372036854775808), (105, 64, 9223372036854775808)] : List (Int × Int × Int))) (num : Int) (name : ByteArray) (A : Option Addr) (cap : Nat) (w : World) :
    Calls Tryd.prog 81 #[.agg #[.int .i64 20, .int .u8 c, .string name, .int .u64 num, .bool false, .slice A 0 cap]] w fun e w' => e = .returned (.bool (decide (num < m))) ∧ Below w.heap.size w w' := by
  have hu := Tryd.underlying31
  have hB := (Below.refl w.heap.size w).alloc (Nat.le_refl _) (.cells #[.int .i64 20, .int .u8 c, .string name, .int .u64 num, .bool false, .slice A 0 cap] 31 (0, 0))
  have hb := rustBits_calls c nb (by simp only [List.mem_cons, List.not_mem_nil, or_false, Prod.mk.injEq] at h ⊢; omega)
  simp only [List.mem_cons, List.not_mem_nil, or_false, Prod.mk.injEq] at h
  rcases h with ⟨rfl, rfl, rfl⟩ | ⟨rfl, rfl, rfl⟩ | ⟨rfl, rfl, rfl⟩ | ⟨rfl, rfl, rfl⟩ | ⟨rfl, rfl, rfl⟩ | ⟨rfl, rfl, rfl⟩ <;>
  · go_enter Tryd.func81, Tryd.ntmps81
    go_wp2_with fail
    refine (hb _).mono ?_
    rintro e w2 ⟨rfl, rfl⟩
    go_wp2
    go_ret
    exact ⟨rfl, hB⟩

theorem other_calls (c m : Int) (h : (c, m) ∈ ([(97, 128), (115, 32768), (108, 2147483648), (120, 9223372036854775808), (110, 9223372036854775808), (105, 9223372036854775808)] : List (Int × Int))) (num : Int) (name : ByteArray) (A : Option Addr) (cap : Nat) (p : Value) (d bd : Int) (w : World) :
    Calls Tryd.prog 61 #[p, .agg #[.int .i64 20, .int .u8 c, .string name, .int .u64 num, .bool false, .slice A 0 cap], .int .i64 d, .int .i64 bd] w fun e w' => e = .returned (.bool (decide (num < m))) ∧ Below w.heap.size w w' := by
  have hu := Tryd.underlying31
  have hB := (Below.refl w.heap.size w).alloc (Nat.le_refl _) (.cells #[.int .i64 20, .int .u8 c, .string name, .int .u64 num, .bool false, .slice A 0 cap] 31 (0, 0))
  have hb : ∀ w, Calls Tryd.prog 81 #[.agg #[.int .i64 20, .int .u8 c, .string name, .int .u64 num, .bool false, .slice A 0 cap]] w fun e w' => e = .returned (.bool (decide (num < m))) ∧ Below w.heap.size w w' := fun w => by
    simp only [List.mem_cons, List.not_mem_nil, or_false, Prod.mk.injEq] at h
    rcases h with ⟨rfl, rfl⟩ | ⟨rfl, rfl⟩ | ⟨rfl, rfl⟩ | ⟨rfl, rfl⟩ | ⟨rfl, rfl⟩ | ⟨rfl, rfl⟩
    · exact number_calls _ 8 _ (by decide) num name A cap w
    · exact number_calls _ 16 _ (by decide) num name A cap w
    · exact number_calls _ 32 _ (by decide) num name A cap w
    · exact number_calls _ 64 _ (by decide) num name A cap w
    · exact number_calls _ 64 _ (by decide) num name A cap w
    · exact number_calls _ 64 _ (by decide) num name A cap w
  go_enter Tryd.func61, Tryd.ntmps61
  go_wp2_with fail
  refine (hb _).mono ?_
  rintro e w2 ⟨rfl, h2⟩
  go_wp2
  go_ret
  exact ⟨rfl, hB.trans (h2.mono hB.size)⟩
theorem path20 (w : World) : Calls Tryd.prog 58 #[.int .i64 20] w fun e w' => e = .returned (.bool false) ∧ w' = w := by
  go_enter Tryd.func58, Tryd.ntmps58
  go_wp2
  go_ret
  exact ⟨rfl, rfl⟩
theorem fits20 (w : World) : Calls Tryd.prog 57 #[.int .i64 20, .int .i64 3] w fun e w' => e = .returned (.bool true) ∧ w' = w := by
  go_enter Tryd.func57, Tryd.ntmps57
  go_wp2
  go_ret
  exact ⟨rfl, rfl⟩
set_option maxHeartbeats 2000000 in
set_option maxRecDepth 100000 in
theorem piece_calls (c m : Int) (h : (c, m) ∈ ([(97, 128), (115, 32768), (108, 2147483648), (120, 9223372036854775808), (110, 9223372036854775808), (105, 9223372036854775808)] : List (Int × Int))) (num : Int) (name : ByteArray) (A : Option Addr) (cap : Nat) (g : Nat) (w : World) (hg : w.heap[g]? = some (.cells #[.int .i64 1] 82 (0, 0))) :
    Calls Tryd.prog 44 #[.pointer (some ⟨g, 0, none⟩), .agg #[.int .i64 20, .int .u8 c, .string name, .int .u64 num, .bool false, .slice A 0 cap], .int .i64 3, .int .i64 2, .int .i64 0] w fun e w' => e = .returned (.bool (decide (num < m))) ∧ Below g w w' := by
  have hu := Tryd.underlying31
  have hu2 := Tryd.underlying82
  have hlt := blk_lt hg
  have hB := (Below.refl g w).alloc (Nat.le_of_lt hlt) (.cells #[.int .i64 20, .int .u8 c, .string name, .int .u64 num, .bool false, .slice A 0 cap] 31 (0, 0))
  have hg1 := blk_put hg 0 (.int .i64 0) (cs' := #[.int .i64 0]) rfl
  have hc0 : w.cell? ⟨g, 0, none⟩ = some (.int .i64 1) := (blk_cell hg 0).trans rfl
  have hf0 := blk_frozen hg 0
  have hc1 : (w.setCell ⟨g, 0, none⟩ (.int .i64 0)).cell? ⟨g, 0, none⟩ = some (.int .i64 0) := (blk_cell hg1 0).trans rfl
  have hf1 := blk_frozen hg1 0
  have hb := other_calls c m h num name A cap
  go_enter Tryd.func44, Tryd.ntmps44
  go_wp2_with (first | (go_at_call 57; refine (fits20 _).mono ?_; rintro e w2 ⟨rfl, rfl⟩) | (go_at_call 58; refine (path20 _).mono ?_; rintro e w3 ⟨rfl, rfl⟩) | (go_at_call 61; refine (hb _ _ _ _).mono ?_; rintro e w4 ⟨rfl, h4⟩))
  go_ret
  have hB := ((Below.refl g w).setCell (p := ⟨g, 0, none⟩) (Nat.le_refl _) (.int .i64 0)).alloc (by show g ≤ (w.setCell ⟨g, 0, none⟩ (.int .i64 0)).heap.size; exact Nat.le_of_lt (blk_lt hg1)) (.cells #[.int .i64 20, .int .u8 c, .string name, .int .u64 num, .bool false, .slice A 0 cap] 31 (0, 0))
  exact ⟨rfl, hB.trans (h4.mono (Nat.le_trans (Nat.le_of_lt hlt) hB.size))⟩

set_option maxHeartbeats 2000000 in
set_option maxRecDepth 100000 in
theorem right_calls (c m : Int) (h : (c, m) ∈ ([(97, 128), (115, 32768), (108, 2147483648), (120, 9223372036854775808), (110, 9223372036854775808), (105, 9223372036854775808)] : List (Int × Int))) (num : Int) (name : ByteArray) (A : Option Addr) (cap : Nat) (w : World) :
    Calls Tryd.prog 25 #[.agg #[.int .i64 20, .int .u8 c, .string name, .int .u64 num, .bool false, .slice A 0 cap]] w fun e w' => e = .returned (.bool (decide (num < m))) ∧ Below w.heap.size w w' := by
  have hu := Tryd.underlying31
  have hu2 := Tryd.underlying82
  have hb := piece_calls c m h num name A cap
  have hB := (Below.refl w.heap.size w).alloc (Nat.le_refl _) (.cells #[.int .i64 20, .int .u8 c, .string name, .int .u64 num, .bool false, .slice A 0 cap] 31 (0, 0))
  go_enter Tryd.func25, Tryd.ntmps25
  go_wp2_with fail
  refine (hb _ _ ?side).mono ?_
  case side =>
    have h0 := blk_new (w.alloc (.cells #[.int .i64 20, .int .u8 c, .string name, .int .u64 num, .bool false, .slice A 0 cap] 31 (0, 0))) (.cells #[.int .i64 1] 82 (0, 0))
    rw [World.size_alloc] at h0
    exact h0
  rintro e w4 ⟨rfl, h4⟩
  go_wp2
  go_ret
  exact ⟨rfl, (hB.alloc hB.size (.cells #[.int .i64 1] 82 (0, 0))).trans (h4.mono (Nat.le_succ _))⟩

theorem mostOf_mem {c m : Int} (h : mostOf c = some m) : (c, m) ∈ ([(97, 128), (115, 32768), (108, 2147483648), (120, 9223372036854775808), (110, 9223372036854775808), (105, 9223372036854775808)] : List (Int × Int)) := by
  simp only [List.mem_cons, List.not_mem_nil, or_false, Prod.mk.injEq]
  unfold mostOf at h
  repeat' split at h
  all_goals first | (cases h; done) | (have := Option.some.inj h; omega)

theorem spec_RustRightConstant.calls (kind letter : Int) (name : ByteArray) (num : Int) (flag : Bool) (A : Option Addr) (cap : Nat) (kids : List S31) (r : Bool) (w : World) (hC : (Kd.raw 6).C w A kids.length kids) (_hc : kids.length ≤ cap) (h : spec_RustRightConstant.f kind letter name num flag kids = some r) :
    Calls Tryd.prog 25 #[.agg #[.int .i64 kind, .int .u8 letter, .string name, .int .u64 num, .bool flag, .slice A kids.length cap]] w fun e w' => e = .returned (.bool r) ∧ Below w.heap.size w w' := by
  unfold spec_RustRightConstant.f at h
  split at h
  · rename_i hk
    obtain ⟨rfl, rfl, hl⟩ := hk
    cases hm : mostOf letter with
    | none => rw [hm] at h; cases h
    | some m =>
      rw [hm] at h
      cases h
      rw [hl]
      exact right_calls letter m (mostOf_mem hm) num name A cap w
  · cases h
end Go.Proofs.YtpmlnhddkbgefaaDoor
