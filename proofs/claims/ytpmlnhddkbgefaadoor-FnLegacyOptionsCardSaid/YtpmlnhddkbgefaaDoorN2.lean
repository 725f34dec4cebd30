/- (*strings.Builder)'s writes, of a builder that a call has made itself. What the reader of old-style names calls: a digit in base 16, a prefix of two bytes, how many bits are set, the options. The map of codes that oldRustToString lays in each round: its seven entries, and what a look-up finds. oldRustToString's loop over the escapes of a name. Printed by tools/gold.py. -/
import Derived.Test.YtpmlnhddkbgefaaDoorProg
import Derived.WalkKit
import Derived.WalkLawsBesides
import Derived.Lib.Builder
import Derived.Lib.AppendStr
import Derived.Lib.Strings
import Derived.Lib.Walk
import Derived.Lib.BufferKept
import Derived.Test.YtpmlnhddkbgefaaDoorM1
import Derived.Test.YtpmlnhddkbgefaaDoorN1
import Derived.Lib.Tables
import Derived.Laws.BitsAllLaws
import Derived.WideMake
import Derived.MapKept
import Derived.Lib.Hide
import Derived.Carry
namespace Go.Proofs.YtpmlnhddkbgefaaDoor
set_option linter.unusedVariables false
set_option linter.unusedSimpArgs false
open Go.RowKit

theorem lb_info : (Tryd.prog.info? 115).map (·.size) = some 2 := by kernel_rfl
theorem lb_byte : (Tryd.prog.info? 5).map (fun i => (i.zero, i.size, i.bytes)) = some (some (.int .u8 0), 1, 1) := by kernel_rfl
theorem lb_lies : liesAt Tryd.prog Tryd.prog.depth 115 (2 / Tryd.prog.cellsOf 115) 0 115 1 = true := by kernel_rfl

/-- A builder in a block b of its own that holds out. -/
def LB (b : Nat) (out : List UInt8) (w : World) : Prop := Lib.IsBuilder 115 5 b b (Lib.byteCells out) w
theorem LB.lt {b : Nat} {out : List UInt8} {w : World} (h : LB b out w) : b < w.heap.size := by
  rcases h with h | h
  · exact Lib.BuilderAt.lt h
  · exact Lib.BuilderAt.lt h
theorem LB.drew {b : Nat} {out : List UInt8} {w : World} (h : LB b out w) : LB b out w.drew := h
theorem LB.alloc {b : Nat} {out : List UInt8} {w : World} (h : LB b out w) (o : Obj) : LB b out (w.alloc o) := by
  have hlt := h.lt
  rcases h with ⟨hB, v, hb, hown, hne⟩ | ⟨hB, v, hb, hown, hne⟩
  · exact .inl ⟨hB, v, (Lib.alloc_old w o b hlt).trans hb, hown.alloc o, hne⟩
  · exact .inr ⟨hB, v, (Lib.alloc_old w o b hlt).trans hb, hown.alloc o, hne⟩
/-- Blocks above all that was there are written: the builder stays. -/
theorem LB.below {b N : Nat} {out : List UInt8} {w w' : World} (h : LB b out w) (hb : Below w.heap.size w w') : LB b out w' := by
  have hlt := h.lt
  rcases h with ⟨hB, v, hbk, hown, hne⟩ | ⟨hB, v, hbk, hown, hne⟩
  · refine .inl ⟨hB, v, (hb.block b hlt).trans hbk, ?_, hne⟩
    rcases hown with ⟨hl, h | ⟨g, cap, cur, hv, hbg, hg, hr⟩⟩
    · exact ⟨hl, .inl h⟩
    · exact ⟨hl, .inr ⟨g, cap, cur, hv, hbg, (hb.block g (Array.getElem?_eq_some_iff.1 hg).1).trans hg, hr⟩⟩
  · refine .inr ⟨hB, v, (hb.block b hlt).trans hbk, ?_, hne⟩
    rcases hown with ⟨hl, h | ⟨g, cap, cur, hv, hbg, hg, hr⟩⟩
    · exact ⟨hl, .inl h⟩
    · exact ⟨hl, .inr ⟨g, cap, cur, hv, hbg, (hb.block g (Array.getElem?_eq_some_iff.1 hg).1).trans hg, hr⟩⟩

set_option maxHeartbeats 1000000 in
set_option maxRecDepth 100000 in
theorem lbCheck_used (b : Nat) (w : World) (h0 : w.cell? ⟨b, 0, none⟩ = some (.pointer (some ⟨b, 0, none⟩))) :
    Calls Tryd.prog 99 #[.pointer (some ⟨b, 0, none⟩)] w fun e w' => e = .returned (.tuple #[]) ∧ w' = w := by
  obtain ⟨j, hj, _⟩ := Option.map_eq_some_iff.1 lb_info
  go_enter Tryd.func99, Tryd.ntmps99
  go_wp2
  rw [Lib.run_neq_ptr_same w _ Tryd.underlying113 hj]
  go_wp2
  go_end0
  exact ⟨rfl, rfl⟩

set_option maxHeartbeats 1000000 in
set_option maxRecDepth 100000 in
theorem lbCheck_fresh (b : Nat) (w : World) (h0 : w.cell? ⟨b, 0, none⟩ = some (.pointer none)) (hsh : w.shape? b = some (115, 2)) (hfz : w.frozen? ⟨b, 0, none⟩ = false) :
    Calls Tryd.prog 99 #[.pointer (some ⟨b, 0, none⟩)] w fun e w' => e = .returned (.tuple #[]) ∧ w' = w.setCell ⟨b, 0, none⟩ (.pointer (some ⟨b, 0, none⟩)) := by
  obtain ⟨j, hj, hjs⟩ := Option.map_eq_some_iff.1 lb_info
  go_enter Tryd.func99, Tryd.ntmps99
  go_wp2
  rw [Lib.run_to_unsafe w ⟨b, 0, none⟩ Tryd.underlying113 Tryd.underlying152 hj (by rw [hjs]; decide) hsh (Nat.zero_lt_succ 1)]
  simp only [Result.andThen]
  rw [Oper.upon_value]
  go_wp2
  rw [run_callFunc_extern Tryd.func110 (by kernel_rfl) (by kernel_rfl) (by kernel_rfl) (e := Extern.AbiNoEscape.same) (by kernel_rfl)]
  rw [Lib.run_noEscape]
  simp only [Result.andThen]
  rw [Oper.upon_value]
  go_wp2
  rw [Lib.run_from_unsafe w ⟨b, 0, none⟩ Tryd.underlying152 Tryd.underlying113 hj hsh lb_lies]
  simp only [Result.andThen]
  rw [Oper.upon_value]
  go_wp2
  go_end0
  exact ⟨rfl, rfl⟩

theorem lbCheck_calls (b : Nat) (out : List UInt8) (w : World) (h : LB b out w) :
    Calls Tryd.prog 99 #[.pointer (some ⟨b, 0, none⟩)] w fun e w' => e = .returned (.tuple #[]) ∧ (Lib.BuilderAt 115 5 b b (.pointer (some ⟨b, 0, none⟩)) (Lib.byteCells out) w' ∧ Below b w w') := by
  rcases h with h | h
  · refine (lbCheck_fresh b w h.cell0 h.shape h.frozen0).mono ?_
    rintro e w' ⟨rfl, rfl⟩
    exact ⟨rfl, h.used _, (Below.refl b w).setCell (p := ⟨b, 0, none⟩) h.1 _⟩
  · refine (lbCheck_used b w h.cell0).mono ?_
    rintro e w' ⟨rfl, rfl⟩
    exact ⟨rfl, h, Below.refl b _⟩

set_option maxHeartbeats 2000000 in
set_option maxRecDepth 100000 in
theorem lbByte_calls (b : Nat) (out : List UInt8) (c : UInt8) (w : World) (h : LB b out w) (hlen : out.length + 1 ≤ 140737488355328) :
    Calls Tryd.prog 94 #[.pointer (some ⟨b, 0, none⟩), .int .u8 c.toNat] w fun e w' => e = .returned .nilIface ∧ LB b (out ++ [c]) w' ∧ Below b w w' := by
  obtain ⟨i0, hi, hz0, hz1, hz2⟩ := info_parts lb_byte
  have hcl : (Lib.byteCells out).length = out.length := by simp [Lib.byteCells]
  have hBw := h.lt
  have hcc := lbCheck_calls b out w h
  clear h
  go_enter Tryd.func94, Tryd.ntmps94
  go_wp2_with (go_at_call 99; refine hcc.mono ?_)
  rintro e w1 ⟨rfl, h1, hb1⟩
  obtain ⟨hB, v, hbk, hown, hne⟩ := h1
  have c0 : w1.cell? ⟨b, 0, none⟩ = some (.pointer (some ⟨b, 0, none⟩)) := by rw [Lib.cell_of_heap hbk]; rfl
  have c1 : w1.cell? ⟨b, 1, none⟩ = some v := by rw [Lib.cell_of_heap hbk]; rfl
  go_wp2_with (at_builtin; refine wpList_append_own _ rfl _ _ 27 rfl b 5 i0 (.int .u8 0) 1 1 Tryd.underlying27 hi hz0 hz1 hz2 rfl (by decide) _ _ _ rfl (hown.alloc _) ⟨w1.heap.size, 0, none⟩ 1 1 [.int .u8 c.toNat] rfl rfl ?c1 ?c2 ?c3 ?c4 ?c5 ?_)
  case c1 =>
    intro j u hj
    match j, hj with
    | 0, hj => simp at hj; subst hj; simp [Addr.add]
  case c2 => intro u hu; simp at hu; subst hu; rfl
  case c3 => unfold maxLen; omega
  case c4 => omega
  case c5 => have := hb1.size; simp; omega
  intro v' w2 hown' hgrow _
  have hlt : b < w1.heap.size := by have := hb1.size; omega
  have hb2 : w2.heap[b]? = some (.cells #[.pointer (some ⟨b, 0, none⟩), v] 115 (0, 0)) := by
    rw [hgrow.block b (by simp; omega) (fun e => hne e.symm), Lib.alloc_old w1 _ b hlt]
    exact hbk
  have d0 : w2.cell? ⟨b, 0, none⟩ = some (.pointer (some ⟨b, 0, none⟩)) := by rw [Lib.cell_of_heap hb2]; rfl
  have d1 : w2.cell? ⟨b, 1, none⟩ = some v := by rw [Lib.cell_of_heap hb2]; rfl
  have f1 : w2.frozen? ⟨b, 1, none⟩ = false := Lib.frozen_of_heap hb2 1
  obtain ⟨ao, n', cap, rfl⟩ : ∃ ao n' cap, v' = .slice ao n' cap := by
    rcases hown'.2 with ⟨hv, _⟩ | ⟨g, cap, cur, hv, _⟩
    · exact ⟨_, _, _, hv⟩
    · exact ⟨_, _, _, hv⟩
  go_wp2
  go_ret
  refine ⟨rfl, .inr ?_, ?_⟩
  · exact Lib.BuilderAt.put (T := 115) (e := 5) hB hb2 (bs' := Lib.byteCells (out ++ [c])) (by simpa [Lib.byteCells] using hown') (by decide)
  · exact ((hb1.alloc (by have := hb1.size; omega) _).grown hgrow (by have := hb1.size; simp; omega) (fun k hk => (hown.lt k hk).1)).setCell (p := ⟨b, 1, none⟩) hB _

set_option maxHeartbeats 2000000 in
set_option maxRecDepth 100000 in
theorem lbString_calls (b : Nat) (out t : List UInt8) (w : World) (h : LB b out w) (hlen : out.length + t.length ≤ 140737488355328) :
    Calls Tryd.prog 73 #[.pointer (some ⟨b, 0, none⟩), .string (bs t)] w fun e w' => (∃ n, e = .returned (.tuple #[.int .i64 n, .nilIface])) ∧ LB b (out ++ t) w' ∧ Below b w w' := by
  obtain ⟨i0, hi, hz0, hz1, hz2⟩ := info_parts lb_byte
  have hcl : (Lib.byteCells out).length = out.length := by simp [Lib.byteCells]
  have hz := bs_size t
  have hBw := h.lt
  have hcc := lbCheck_calls b out w h
  clear h
  go_enter Tryd.func73, Tryd.ntmps73
  go_wp2_with (go_at_call 99; refine hcc.mono ?_)
  rintro e w1 ⟨rfl, h1, hb1⟩
  obtain ⟨hB, v, hbk, hown, hne⟩ := h1
  have c0 : w1.cell? ⟨b, 0, none⟩ = some (.pointer (some ⟨b, 0, none⟩)) := by rw [Lib.cell_of_heap hbk]; rfl
  have c1 : w1.cell? ⟨b, 1, none⟩ = some v := by rw [Lib.cell_of_heap hbk]; rfl
  go_wp2_with (at_builtin; refine Lib.wpList_append_own_string _ rfl _ _ 27 9 rfl b 5 i0 Tryd.underlying27 Tryd.underlying9 hi hz0 hz1 hz2 _ _ _ rfl hown (bs t) rfl ?c3 ?c4 ?c5 ?_)
  case c3 => unfold maxLen; omega
  case c4 => omega
  case c5 => have := hb1.size; omega
  intro v' w2 hown' hgrow _
  have hlt : b < w1.heap.size := by have := hb1.size; omega
  have hb2 : w2.heap[b]? = some (.cells #[.pointer (some ⟨b, 0, none⟩), v] 115 (0, 0)) := by
    rw [hgrow.block b hlt (fun e => hne e.symm)]
    exact hbk
  have d0 : w2.cell? ⟨b, 0, none⟩ = some (.pointer (some ⟨b, 0, none⟩)) := by rw [Lib.cell_of_heap hb2]; rfl
  have d1 : w2.cell? ⟨b, 1, none⟩ = some v := by rw [Lib.cell_of_heap hb2]; rfl
  have f1 : w2.frozen? ⟨b, 1, none⟩ = false := Lib.frozen_of_heap hb2 1
  have hown2 : w2.ownsRow b 5 1 v' (Lib.byteCells (out ++ t)).length (Lib.byteCells (out ++ t)) := by
    have e : Lib.byteCells (out ++ t) = Lib.byteCells out ++ Lib.strCells (bs t) := by simp [Lib.byteCells, Lib.strCells, bs]
    rw [e, List.length_append, Lib.strCells_length, hcl, hz]
    exact hown'
  obtain ⟨ao, n', cap, rfl⟩ : ∃ ao n' cap, v' = .slice ao n' cap := by
    rcases hown'.2 with ⟨hv, _⟩ | ⟨g, cap, cur, hv, _⟩
    · exact ⟨_, _, _, hv⟩
    · exact ⟨_, _, _, hv⟩
  go_wp2
  go_ret2
  refine ⟨⟨_, rfl⟩, .inr ?_, ?_⟩
  · exact Lib.BuilderAt.put (T := 115) (e := 5) hB hb2 (bs' := Lib.byteCells (out ++ t)) hown2 (by decide)
  · exact (hb1.grown hgrow (by have := hb1.size; omega) (fun k hk => (hown.lt k hk).1)).setCell (p := ⟨b, 1, none⟩) hB _
end Go.Proofs.YtpmlnhddkbgefaaDoor
namespace Go.Proofs.YtpmlnhddkbgefaaDoor
set_option linter.unusedVariables false
set_option linter.unusedSimpArgs false
open Go.RowKit

/-- What the closure hexDigit gives. -/
def hexRes (c : UInt8) : Value :=
  match Dm.hexd c with
  | some d => .tuple #[.int .u8 d, .bool true]
  | none => .tuple #[.int .u8 0, .bool false]
theorem hexDigit_calls (c : UInt8) (w : World) :
    Calls Tryd.prog 89 #[.int .u8 c.toNat] w fun e w' => e = .returned (hexRes c) ∧ w = w' := by
  have hlt := c.toNat_lt
  by_cases h1 : 48 ≤ (c.toNat : Int) ∧ (c.toNat : Int) ≤ 57
  · have hr : hexRes c = .tuple #[.int .u8 ((c.toNat : Int) - 48), .bool true] := by unfold hexRes Dm.hexd; rw [if_pos h1]
    have hw : IntKind.u8.wrap ((c.toNat : Int) - 48) = (c.toNat : Int) - 48 := IntWalk.u8_in _ (by omega)
    rw [hr]
    obtain ⟨h1, h2⟩ := h1
    clear hr
    generalize (c.toNat : Int) = n at *
    go_enter Tryd.func89, Tryd.ntmps89
    go_wp2
    go_ret2
    exact ⟨rfl, rfl⟩
  · by_cases h2 : 97 ≤ (c.toNat : Int) ∧ (c.toNat : Int) ≤ 102
    · have hr : hexRes c = .tuple #[.int .u8 ((c.toNat : Int) - 97 + 10), .bool true] := by unfold hexRes Dm.hexd; rw [if_neg h1, if_pos h2]
      have hw : IntKind.u8.wrap ((c.toNat : Int) - 97) = (c.toNat : Int) - 97 := IntWalk.u8_in _ (by omega)
      have hw2 : IntKind.u8.wrap ((c.toNat : Int) - 97 + 10) = (c.toNat : Int) - 97 + 10 := IntWalk.u8_in _ (by omega)
      have h3 : 48 ≤ (c.toNat : Int) := by omega
      have h4 : ¬ (c.toNat : Int) ≤ 57 := by omega
      rw [hr]
      obtain ⟨h1, h2⟩ := h2
      clear hr
      generalize (c.toNat : Int) = n at *
      go_enter Tryd.func89, Tryd.ntmps89
      go_wp2
      go_ret2
      exact ⟨rfl, rfl⟩
    · have hr : hexRes c = .tuple #[.int .u8 0, .bool false] := by unfold hexRes Dm.hexd; rw [if_neg h1, if_neg h2]
      rw [hr]
      clear hr
      generalize (c.toNat : Int) = n at *
      have hc : (¬ 48 ≤ n ∧ ¬ 97 ≤ n) ∨ (48 ≤ n ∧ ¬ n ≤ 57 ∧ ¬ 97 ≤ n) ∨ (48 ≤ n ∧ ¬ n ≤ 57 ∧ 97 ≤ n ∧ ¬ n ≤ 102) := by omega
      clear h1 h2
      rcases hc with ⟨h1, h2⟩ | ⟨h1, h2, h3⟩ | ⟨h1, h2, h3, h4⟩
      all_goals
        go_enter Tryd.func89, Tryd.ntmps89
        go_wp2
        go_ret2
        exact ⟨rfl, rfl⟩

/-- Whether a text begins with two bytes. -/
def isPre2 (p q : UInt8) : List UInt8 → Bool
  | a :: b :: _ => decide (a = p ∧ b = q)
  | _ => false
theorem pre2_in (p q : UInt8) (l : List UInt8) (w : World) :
    Calls Tryd.prog 105 #[.string (bs l), .string ⟨#[p, q]⟩] w fun e w' => e = .returned (.bool (isPre2 p q l)) ∧ w = w' := by
  have hz2 : (⟨#[p, q]⟩ : ByteArray).size = 2 := rfl
  match l with
  | [] =>
    have hz := bs_size []
    go_enter Tryd.func105, Tryd.ntmps105
    go_wp2
    go_ret
    exact ⟨rfl, rfl⟩
  | [a] =>
    have hz := bs_size [a]
    go_enter Tryd.func105, Tryd.ntmps105
    go_wp2
    go_ret
    exact ⟨rfl, rfl⟩
  | a :: b :: t =>
    have hz := bs_size (a :: b :: t)
    have hx : (bs (a :: b :: t)).extract 0 2 = bs [a, b] := by rw [bs_take]; rfl
    have h2 : 2 ≤ (((a :: b :: t).length : Nat) : Int) := by simp; omega
    have h3 : 2 ≤ (a :: b :: t).length := by simp
    go_enter Tryd.func105, Tryd.ntmps105
    go_wp2
    go_ret
    refine ⟨?_, rfl⟩
    have ht : (bs [a, b]).toList = [a, b] := by simp [bs]
    show Ending.returned (.bool ((bs [a, b]).toList == [p, q])) = _
    rw [ht]
    congr 2
    rw [Bool.eq_iff_iff]; simp [isPre2]
theorem pre2_calls (p q : UInt8) (l : List UInt8) (w : World) :
    Calls Tryd.prog 93 #[.string (bs l), .string ⟨#[p, q]⟩] w fun e w' => e = .returned (.bool (isPre2 p q l)) ∧ w = w' := by
  have HP := pre2_in p q l w
  go_enter Tryd.func93, Tryd.ntmps93
  go_wp2_with (go_at_call 105; refine HP.mono ?_; rintro e w1 ⟨rfl, rfl⟩)
  go_ret
  exact ⟨rfl, rfl⟩

/-! ### options -/
def isMx (o : Int) : Bool := bits .and .i64 o 2031616 != 0
def mxLen (o : Int) : Int := wrap64 (2 ^ (bits .and .i64 o 2031616 / 65536).toNat)
theorem isMax_calls (o : Int) (w : World) : Calls Tryd.prog 87 #[.int .i64 o] w fun e w' => e = .returned (.bool (isMx o)) ∧ w = w' := by
  go_enter Tryd.func87, Tryd.ntmps87
  go_wp2
  go_ret
  exact ⟨rfl, rfl⟩
theorem maxLength_calls (o : Int) (h0 : 0 ≤ bits .and .i64 o 2031616 / 65536) (h1 : bits .and .i64 o 2031616 / 65536 ≤ 64) (w : World) : Calls Tryd.prog 88 #[.int .i64 o] w fun e w' => e = .returned (.int .i64 (mxLen o)) ∧ w = w' := by
  go_enter Tryd.func88, Tryd.ntmps88
  go_wp2
  go_ret
  exact ⟨rfl, rfl⟩
/-- The limit of a power. -/
def mxOf (p : Int) : Int := if p = 0 then 0 else 2 ^ p.toNat
theorem mx_fin : ∀ k : Fin 30, isMx (((k.val + 1 : Nat) : Int) * 65536) = true ∧ bits .and .i64 (((k.val + 1 : Nat) : Int) * 65536) 2031616 = ((k.val + 1 : Nat) : Int) * 65536 ∧ mxLen (((k.val + 1 : Nat) : Int) * 65536) = 2 ^ (k.val + 1) := by decide +kernel
theorem small_fin : ∀ k : Fin 7, isMx ((k.val : Nat) : Int) = false := by decide +kernel
theorem mx_facts {p : Int} (h1 : 1 ≤ p) (h2 : p ≤ 30) : isMx (p * 65536) = true ∧ bits .and .i64 (p * 65536) 2031616 = p * 65536 ∧ mxLen (p * 65536) = mxOf p := by
  obtain ⟨k, rfl⟩ : ∃ k : Nat, p = ((k + 1 : Nat) : Int) := ⟨(p - 1).toNat, by omega⟩
  have := mx_fin ⟨k, by omega⟩
  simp only at this
  refine ⟨this.1, this.2.1, this.2.2.trans ?_⟩
  unfold mxOf
  rw [if_neg (by omega), Int.toNat_natCast]

theorem pop_fin : ∀ n : Fin 256, Lib.pop8 ((n.val : Nat) : Int) = (Dm.ones8 n.val : Nat) := by decide +kernel
theorem pop_ones {i : Int} (h0 : 0 ≤ i) (h1 : i < 256) : Lib.pop8 i = (Dm.ones8 i.toNat : Nat) := by
  have := pop_fin ⟨i.toNat, by omega⟩
  simp only at this
  rwa [Int.toNat_of_nonneg h0] at this
set_option maxHeartbeats 1000000 in
set_option maxRecDepth 100000 in
theorem ones_calls (s : Nat) (hs : s < 65536) (w : World) :
    Calls Tryd.prog 90 #[.int .u16 s] w fun e w' => e = .returned (.int .i64 (Dm.ones16 s)) ∧ Below w.heap.size w w' := by
  have ha : bits .and .u16 (s : Int) 255 = (s : Int) % 256 := by
    rw [show (255 : Int) = ((255 : Nat) : Int) from rfl, u16_and_nat _ _ hs (by decide), show (255 : Nat) = 2 ^ 8 - 1 from rfl, Nat.and_two_pow_sub_one_eq_mod]
    rfl
  have h0 : 0 ≤ (s : Int) / 256 := by omega
  have h1 : (s : Int) / 256 ≤ 255 := by omega
  have e1 : Lib.pop8 ((s : Int) / 256) = (Dm.ones8 (s / 256) : Nat) := by
    rw [pop_ones h0 (by omega)]; congr 2
  have e2 : Lib.pop8 ((s : Int) % 256) = (Dm.ones8 (s % 256) : Nat) := by
    rw [pop_ones (by omega) (by omega)]; congr 2
  have l1 := Dm.ones8_le (s / 256)
  have l2 := Dm.ones8_le (s % 256)
  have hw : IntKind.u8.wrap (Lib.pop8 ((s : Int) / 256) + Lib.pop8 ((s : Int) % 256)) = (Dm.ones16 s : Nat) := by
    rw [e1, e2, Dm.ones_halves, IntWalk.u8_in _ (by omega)]; omega
  have hw2 : IntKind.i64.wrap ((Dm.ones16 s : Nat) : Int) = (Dm.ones16 s : Nat) := IntWalk.i64_in _ (by have := Dm.ones16_le s; omega)
  clear e1 e2 l1 l2
  go_enter Tryd.func90, Tryd.ntmps90
  go_wp2_with fail
  go_region
  all_goals
    go_wp2_with fail
    go_ret
    exact ⟨rfl, Below.drew (Below.refl _ _)⟩
end Go.Proofs.YtpmlnhddkbgefaaDoor
namespace Go.Proofs.YtpmlnhddkbgefaaDoor
set_option linter.unusedVariables false
set_option linter.unusedSimpArgs false
open Go.RowKit

def cent (a b v : Nat) (k : Nat) : MapEntry := { key := .string ⟨#[UInt8.ofNat a, UInt8.ofNat b]⟩, val := .int .u8 v, born := k }
def cents : List MapEntry := [cent 83 80 64 0, cent 66 80 42 1, cent 82 70 38 2, cent 76 84 60 3, cent 71 84 62 4, cent 76 80 40 5, cent 82 80 41 6]
/-- The map with its first entries. -/
def cmap (k : Nat) : Obj := .map (cents.take k).toArray k
theorem set_alloc (w : World) (o o' : Obj) : ({ (w.alloc o) with heap := (w.alloc o).heap.setIfInBounds w.heap.size o' } : World) = w.alloc o' := by
  have h : (w.heap.push o).setIfInBounds w.heap.size o' = w.heap.push o' := by apply Array.toList_inj.1; simp
  show ({ w with heap := (w.heap.push o).setIfInBounds w.heap.size o' } : World) = { w with heap := w.heap.push o' }
  rw [h]
theorem put_new (w : World) (es : Array MapEntry) (k : Nat) (s : ByteArray) (val : Value) (hf : Instr.findNow .string (.string s) es.toList 0 = some none) :
    (Instr.mapUpdate 139 (.map (some w.heap.size)) (.string s) val).run Tryd.prog (w.alloc (.map es k)) = .ok () (w.alloc (.map (es.push { key := .string s, val := val, born := k }) (k + 1))) := by
  have hb : (w.alloc (.map es k)).heap[w.heap.size]? = some (.map es k) := heap_alloc_new w _
  have hc : ∀ e, (Instr.checkKey e 10000 9 (.string s)).run Tryd.prog (w.alloc (.map es k)) = .ok () (w.alloc (.map es k)) := fun e => MapKept.run_checkKey (k := .string s) Tryd.underlying9 (by simp [MapKept.IsKey]) e 9999
  have hm : Tryd.prog.underlying 139 = some (.map 9 5) := Tryd.underlying139
  rw [← set_alloc w (.map es k) (.map (es.push { key := .string s, val := val, born := k }) (k + 1))]
  simp [Instr.mapUpdate, run_underlying hm, MapKept.run_getObj_map hb, hc, MapKept.run_findKey Tryd.underlying9 hf, MapKept.run_setObj_map _ hb, Result.andThen]
theorem put_k (w : World) (k : Nat) (s : ByteArray) (val : Value) (hf : Instr.findNow .string (.string s) (cents.take k) 0 = some none) (hk : cents.take (k + 1) = cents.take k ++ [{ key := .string s, val := val, born := k }]) :
    (Instr.mapUpdate 139 (.map (some w.heap.size)) (.string s) val).run Tryd.prog (w.alloc (cmap k)) = .ok () (w.alloc (cmap (k + 1))) := by
  have h := put_new w (cents.take k).toArray k s val (by simpa using hf)
  unfold cmap
  rw [h, hk]
  simp
theorem put_0 (w : World) : (Instr.mapUpdate 139 (.map (some w.heap.size)) (.string ⟨#[83, 80]⟩) (.int .u8 64)).run Tryd.prog (w.alloc (.map #[] 0)) = .ok () (w.alloc (cmap 1)) := put_k w 0 _ _ (by kernel_rfl) rfl
theorem put_1 (w : World) : (Instr.mapUpdate 139 (.map (some w.heap.size)) (.string ⟨#[66, 80]⟩) (.int .u8 42)).run Tryd.prog (w.alloc (cmap 1)) = .ok () (w.alloc (cmap 2)) := put_k w 1 _ _ (by kernel_rfl) rfl
theorem put_2 (w : World) : (Instr.mapUpdate 139 (.map (some w.heap.size)) (.string ⟨#[82, 70]⟩) (.int .u8 38)).run Tryd.prog (w.alloc (cmap 2)) = .ok () (w.alloc (cmap 3)) := put_k w 2 _ _ (by kernel_rfl) rfl
theorem put_3 (w : World) : (Instr.mapUpdate 139 (.map (some w.heap.size)) (.string ⟨#[76, 84]⟩) (.int .u8 60)).run Tryd.prog (w.alloc (cmap 3)) = .ok () (w.alloc (cmap 4)) := put_k w 3 _ _ (by kernel_rfl) rfl
theorem put_4 (w : World) : (Instr.mapUpdate 139 (.map (some w.heap.size)) (.string ⟨#[71, 84]⟩) (.int .u8 62)).run Tryd.prog (w.alloc (cmap 4)) = .ok () (w.alloc (cmap 5)) := put_k w 4 _ _ (by kernel_rfl) rfl
theorem put_5 (w : World) : (Instr.mapUpdate 139 (.map (some w.heap.size)) (.string ⟨#[76, 80]⟩) (.int .u8 40)).run Tryd.prog (w.alloc (cmap 5)) = .ok () (w.alloc (cmap 6)) := put_k w 5 _ _ (by kernel_rfl) rfl
theorem put_6 (w : World) : (Instr.mapUpdate 139 (.map (some w.heap.size)) (.string ⟨#[82, 80]⟩) (.int .u8 41)).run Tryd.prog (w.alloc (cmap 6)) = .ok () (w.alloc (cmap 7)) := put_k w 6 _ _ (by kernel_rfl) rfl

/-- What a look-up gives. -/
def codeRes (a b : UInt8) : Value :=
  match Dm.code2 a b with
  | some v => .tuple #[.int .u8 v.toNat, .bool true]
  | none => .tuple #[.int .u8 0, .bool false]
theorem bs2_beq (a b c d : UInt8) : ((bs [a, b]) == (⟨#[c, d]⟩ : ByteArray)) = decide (a = c ∧ b = d) := by
  rw [Bool.eq_iff_iff, MapKept.bytes_beq, decide_eq_true_eq]
  constructor
  · intro h
    have := congrArg (fun x : ByteArray => x.data.toList) h
    simpa [bs] using this
  · rintro ⟨rfl, rfl⟩; rfl
def codeFind (a b : UInt8) : Option (Nat × Value) :=
  if a = 83 ∧ b = 80 then some (0, .int .u8 64) else if a = 66 ∧ b = 80 then some (1, .int .u8 42) else if a = 82 ∧ b = 70 then some (2, .int .u8 38) else if a = 76 ∧ b = 84 then some (3, .int .u8 60)
  else if a = 71 ∧ b = 84 then some (4, .int .u8 62) else if a = 76 ∧ b = 80 then some (5, .int .u8 40) else if a = 82 ∧ b = 80 then some (6, .int .u8 41) else none
theorem find_codes (a b : UInt8) : Instr.findNow .string (.string (bs [a, b])) cents 0 = some (codeFind a b) := by
  have hs : ∀ c d : UInt8, Instr.sameNow .string (.string (bs [a, b])) (.string ⟨#[c, d]⟩) = some (decide (a = c ∧ b = d)) := fun c d => by rw [← bs2_beq]; rfl
  have hc : cents = [{ key := .string ⟨#[83, 80]⟩, val := .int .u8 64, born := 0 }, { key := .string ⟨#[66, 80]⟩, val := .int .u8 42, born := 1 }, { key := .string ⟨#[82, 70]⟩, val := .int .u8 38, born := 2 }, { key := .string ⟨#[76, 84]⟩, val := .int .u8 60, born := 3 },
    { key := .string ⟨#[71, 84]⟩, val := .int .u8 62, born := 4 }, { key := .string ⟨#[76, 80]⟩, val := .int .u8 40, born := 5 }, { key := .string ⟨#[82, 80]⟩, val := .int .u8 41, born := 6 }] := rfl
  rw [hc]
  unfold codeFind
  simp only [Instr.findNow, hs]
  by_cases h1 : a = 83 ∧ b = 80
  · simp [h1]
  by_cases h2 : a = 66 ∧ b = 80
  · simp [h2]
  by_cases h3 : a = 82 ∧ b = 70
  · simp [h3]
  by_cases h4 : a = 76 ∧ b = 84
  · simp [h4]
  by_cases h5 : a = 71 ∧ b = 84
  · simp [h5]
  by_cases h6 : a = 76 ∧ b = 80
  · simp [h6]
  by_cases h7 : a = 82 ∧ b = 80
  · simp [h7]
  simp only [h1, h2, h3, h4, h5, h6, h7, decide_false, if_false]
theorem look_code (r : Nat) (W : World) (hb : W.heap[r]? = some (cmap 7)) (a b : UInt8) :
    (Instr.lookup 139 (.map (some r)) (.string (bs [a, b])) true).run Tryd.prog W = .ok (codeRes a b) W := by
  have hb2 : W.heap[r]? = some (.map cents.toArray 7) := hb
  have hc : ∀ e, (Instr.checkKey e 10000 9 (.string (bs [a, b]))).run Tryd.prog W = .ok () W := fun e => MapKept.run_checkKey (k := .string (bs [a, b])) Tryd.underlying9 (by simp [MapKept.IsKey]) e 9999
  have hm : Tryd.prog.underlying 139 = some (.map 9 5) := Tryd.underlying139
  have zero : (zeroValue 5).run Tryd.prog W = .ok (.int .u8 0) W := by kernel_rfl
  have hf := find_codes a b
  have hr : codeRes a b = match codeFind a b with | some (_, v) => .tuple #[v, .bool true] | none => .tuple #[.int .u8 0, .bool false] := by
    unfold codeRes Dm.code2 codeFind
    by_cases h1 : a = 83 ∧ b = 80
    · simp [h1]
    by_cases h2 : a = 66 ∧ b = 80
    · simp [h2]
    by_cases h3 : a = 82 ∧ b = 70
    · simp [h3]
    by_cases h4 : a = 76 ∧ b = 84
    · simp [h4]
    by_cases h5 : a = 71 ∧ b = 84
    · simp [h5]
    by_cases h6 : a = 76 ∧ b = 80
    · simp [h6]
    by_cases h7 : a = 82 ∧ b = 80
    · simp [h7]
    simp only [h1, h2, h3, h4, h5, h6, h7, if_false]
  rw [hr]
  cases hx : codeFind a b with
  | none =>
    rw [hx] at hf
    simp [Instr.lookup, run_underlying hm, MapKept.run_getObj_map hb2, hc, MapKept.run_findKey Tryd.underlying9 (l := cents) hf, zero, Result.andThen]
  | some p =>
    obtain ⟨i, v⟩ := p
    rw [hx] at hf
    simp [Instr.lookup, run_underlying hm, MapKept.run_getObj_map hb2, hc, MapKept.run_findKey Tryd.underlying9 (l := cents) hf, Result.andThen]
end Go.Proofs.YtpmlnhddkbgefaaDoor
namespace Go.Proofs.YtpmlnhddkbgefaaDoor
set_option linter.unusedVariables false
set_option linter.unusedSimpArgs false
open Go.RowKit

def loopsOf : Code → List Code
  | .loop c => c :: loopsOf c
  | .seq a b => loopsOf a ++ loopsOf b
  | .block _ c => loopsOf c
  | .scope c => loopsOf c
  | .cond _ a b => loopsOf a ++ loopsOf b
  | _ => []
noncomputable def oldLoops : List Code := ((Tryd.f63.body.map loopsOf).getD [])
noncomputable def escBody : Code := oldLoops.getD 4 .skip
/-- The closure hexDigit. -/
abbrev HF : Value := .func (.func 89) #[] #[]

set_option maxRecDepth 1000000 in
def EscI (b : Nat) (w0 : World) (OUT : List UInt8) (A0 A1 A2 A3 A4 A5 A6 A7 A8 B0 B1 B2 B3 B5 B6 C8 C9 D0 D1 D2 D3 D4 D5 D6 D7 D8 D9 E0 E1 E2 E3 E4 E5 E6 E7 E8 E9 F0 F1 F2 F3 F4 F5 F6 F7 F8 F9 G0 G1 G2 G3 G4 G5 G6 G7 G8 G9 H0 H1 H2 H3 H4 H5 H6 H7 H8 H9 I0 I1 I2 I3 I4 I5 I6 I7 I8 I9 J0 J1 J2 J3 J4 J5 J6 J7 J8 J9 K0 K1 K2 K3 K4 K5 K6 K7 K8 K9 L0 L1 L2 L3 L4 L5 L6 L7 L8 L9 M0 M1 M2 M3 M4 M5 M6 M7 M8 M9 N0 N1 N2 N3 N4 N5 N6 N7 N8 N9 x5 x6 x7 x8 x9 z0 z1 z2 z3 z4 z5 z6 z7 : Value) (a : Act) (w' : World) : Prop :=
  ∃ B8 B9 C0 C1 C2 C3 C4 C5 C6 C7 O0 O1 O2 O3 O4 O5 O6 O7 O8 O9 P0 P1 P2 P3 P4 P5 P6 P7 P8 P9 R0 R1 R2 R3 R4 R5 R6 R7 R8 R9 S0 S1 S2 S3 S4 S5 S6 S7 S8 S9 T0 T1 T2 T3 T4 T5 T6 T7 T8 T9 U0 U1 U2 U3 U4 U5 U6 U7 U8 U9 V0 V1 V2 V3 V4 V5 V6 V7 V8 V9 W0 W1 W2 W3 W4 W5 W6 W7 W8 W9 X0 X1 X2 X3 X4 X5 X6 X7 X8 X9 Y0 Y1 Y2 Y3 Y4 Y5 Y6 Y7 Y8 Y9 Z0 Z1 Z2 Z3 Z4 Z5 Z6 Z7 Z8 Z9 x0 x1 x2 x3 x4 : Value, ∃ (id out : List UInt8), (LB b out w' ∧ Below b w0 w' ∧ out ++ Dm.tl id = OUT ∧ OUT.length + id.length ≤ 140737488355328) ∧ a = ⟨#[A0, A1, A2, A3, A4, A5, A6, A7, A8, HF, B0, B1, B2, B3, .pointer (some ⟨b, 0, none⟩), B5, B6, .string (bs id), B8, B9, C0, C1, C2, C3, C4, C5, C6, C7, C8, C9, D0, D1, D2, D3, D4, D5, D6, D7, D8, D9, E0, E1, E2, E3, E4, E5, E6, E7, E8, E9, F0, F1, F2, F3, F4, F5, F6, F7, F8, F9, G0, G1, G2, G3, G4, G5, G6, G7, G8, G9, H0, H1, H2, H3, H4, H5, H6, H7, H8, H9, I0, I1, I2, I3, I4, I5, I6, I7, I8, I9, J0, J1, J2, J3, J4, J5, J6, J7, J8, J9, K0, K1, K2, K3, K4, K5, K6, K7, K8, K9, L0, L1, L2, L3, L4, L5, L6, L7, L8, L9, M0, M1, M2, M3, M4, M5, M6, M7, M8, M9, N0, N1, N2, N3, N4, N5, N6, N7, N8, N9, O0, O1, O2, O3, O4, O5, O6, O7, O8, O9, P0, P1, P2, P3, P4, P5, P6, P7, P8, P9, R0, R1, R2, R3, R4, R5, R6, R7, R8, R9, S0, S1, S2, S3, S4, S5, S6, S7, S8, S9, T0, T1, T2, T3, T4, T5, T6, T7, T8, T9, U0, U1, U2, U3, U4, U5, U6, U7, U8, U9, V0, V1, V2, V3, V4, V5, V6, V7, V8, V9, W0, W1, W2, W3, W4, W5, W6, W7, W8, W9, X0, X1, X2, X3, X4, X5, X6, X7, X8, X9, Y0, Y1, Y2, Y3, Y4, Y5, Y6, Y7, Y8, Y9, Z0, Z1, Z2, Z3, Z4, Z5, Z6, Z7, Z8, Z9, x0, x1, x2, x3, x4, x5, x6, x7, x8, x9, z0, z1, z2, z3, z4, z5, z6, z7], []⟩
set_option maxRecDepth 1000000 in
def EscX (b : Nat) (w0 : World) (OUT : List UInt8) (A0 A1 A2 A3 A4 A5 A6 A7 A8 B0 B1 B2 B3 B5 B6 C8 C9 D0 D1 D2 D3 D4 D5 D6 D7 D8 D9 E0 E1 E2 E3 E4 E5 E6 E7 E8 E9 F0 F1 F2 F3 F4 F5 F6 F7 F8 F9 G0 G1 G2 G3 G4 G5 G6 G7 G8 G9 H0 H1 H2 H3 H4 H5 H6 H7 H8 H9 I0 I1 I2 I3 I4 I5 I6 I7 I8 I9 J0 J1 J2 J3 J4 J5 J6 J7 J8 J9 K0 K1 K2 K3 K4 K5 K6 K7 K8 K9 L0 L1 L2 L3 L4 L5 L6 L7 L8 L9 M0 M1 M2 M3 M4 M5 M6 M7 M8 M9 N0 N1 N2 N3 N4 N5 N6 N7 N8 N9 x5 x6 x7 x8 x9 z0 z1 z2 z3 z4 z5 z6 z7 : Value) (a : Act) (w' : World) : Prop :=
  ∃ B7 B8 B9 C0 C1 C2 C3 C4 C5 C6 C7 O0 O1 O2 O3 O4 O5 O6 O7 O8 O9 P0 P1 P2 P3 P4 P5 P6 P7 P8 P9 R0 R1 R2 R3 R4 R5 R6 R7 R8 R9 S0 S1 S2 S3 S4 S5 S6 S7 S8 S9 T0 T1 T2 T3 T4 T5 T6 T7 T8 T9 U0 U1 U2 U3 U4 U5 U6 U7 U8 U9 V0 V1 V2 V3 V4 V5 V6 V7 V8 V9 W0 W1 W2 W3 W4 W5 W6 W7 W8 W9 X0 X1 X2 X3 X4 X5 X6 X7 X8 X9 Y0 Y1 Y2 Y3 Y4 Y5 Y6 Y7 Y8 Y9 Z0 Z1 Z2 Z3 Z4 Z5 Z6 Z7 Z8 Z9 x0 x1 x2 x3 x4 : Value, (LB b OUT w' ∧ Below b w0 w') ∧ a = ⟨#[A0, A1, A2, A3, A4, A5, A6, A7, A8, HF, B0, B1, B2, B3, .pointer (some ⟨b, 0, none⟩), B5, B6, B7, B8, B9, C0, C1, C2, C3, C4, C5, C6, C7, C8, C9, D0, D1, D2, D3, D4, D5, D6, D7, D8, D9, E0, E1, E2, E3, E4, E5, E6, E7, E8, E9, F0, F1, F2, F3, F4, F5, F6, F7, F8, F9, G0, G1, G2, G3, G4, G5, G6, G7, G8, G9, H0, H1, H2, H3, H4, H5, H6, H7, H8, H9, I0, I1, I2, I3, I4, I5, I6, I7, I8, I9, J0, J1, J2, J3, J4, J5, J6, J7, J8, J9, K0, K1, K2, K3, K4, K5, K6, K7, K8, K9, L0, L1, L2, L3, L4, L5, L6, L7, L8, L9, M0, M1, M2, M3, M4, M5, M6, M7, M8, M9, N0, N1, N2, N3, N4, N5, N6, N7, N8, N9, O0, O1, O2, O3, O4, O5, O6, O7, O8, O9, P0, P1, P2, P3, P4, P5, P6, P7, P8, P9, R0, R1, R2, R3, R4, R5, R6, R7, R8, R9, S0, S1, S2, S3, S4, S5, S6, S7, S8, S9, T0, T1, T2, T3, T4, T5, T6, T7, T8, T9, U0, U1, U2, U3, U4, U5, U6, U7, U8, U9, V0, V1, V2, V3, V4, V5, V6, V7, V8, V9, W0, W1, W2, W3, W4, W5, W6, W7, W8, W9, X0, X1, X2, X3, X4, X5, X6, X7, X8, X9, Y0, Y1, Y2, Y3, Y4, Y5, Y6, Y7, Y8, Y9, Z0, Z1, Z2, Z3, Z4, Z5, Z6, Z7, Z8, Z9, x0, x1, x2, x3, x4, x5, x6, x7, x8, x9, z0, z1, z2, z3, z4, z5, z6, z7], []⟩
def escMu (a : Act) : Nat := match a.tmps.getD 17 undef with | .string s => s.size | _ => 0

theorem u8_ne {c d : UInt8} (h : c ≠ d) : ((c.toNat : Int) == (d.toNat : Int)) = false := beq_eq_false_iff_ne.2 fun e => h (UInt8.toNat_inj.1 (by exact_mod_cast e))
theorem u8_eq {c d : UInt8} (h : c = d) : ((c.toNat : Int) == (d.toNat : Int)) = true := by subst h; exact beq_self_eq_true _
theorem hex_or_fin : ∀ p : Fin 16, ∀ q : Fin 16, bits .or .u8 (((p.val : Nat) : Int) * 16) ((q.val : Nat) : Int) = ((p.val : Nat) : Int) * 16 + ((q.val : Nat) : Int) := by decide +kernel
theorem hex_or {p q : Int} (h0 : 0 ≤ p) (h1 : p < 16) (h2 : 0 ≤ q) (h3 : q < 16) : bits .or .u8 (p * 16) q = p * 16 + q := by
  have := hex_or_fin ⟨p.toNat, by omega⟩ ⟨q.toNat, by omega⟩
  simp only [Int.toNat_of_nonneg h0, Int.toNat_of_nonneg h2] at this
  exact this
theorem Dm.hexd_range {c : UInt8} {d : Int} (h : Dm.hexd c = some d) : 0 ≤ d ∧ d < 16 := by
  unfold Dm.hexd at h
  split at h
  · simp only [Option.some.injEq] at h; omega
  · split at h
    · simp only [Option.some.injEq] at h; omega
    · cases h
theorem Dm.tl_none {r : List UInt8} (h : Dm.escStep 36 r = none) : Dm.tl (36 :: r) = 36 :: r := by unfold Dm.tl; simp only [List.length_cons, Dm.esc, h]
theorem code2_67 (x : UInt8) : Dm.code2 67 x = none := by unfold Dm.code2; simp
theorem code2_117 (x : UInt8) : Dm.code2 117 x = none := by unfold Dm.code2; simp
theorem hexRes_form (x : UInt8) : ∃ (p : Int) (o : Bool), hexRes x = .tuple #[.int .u8 p, .bool o] := by
  unfold hexRes
  split
  · exact ⟨_, _, rfl⟩
  · exact ⟨_, _, rfl⟩
theorem bs_extract_to (l : List UInt8) (i j : Nat) : (bs l).extract i j = bs ((l.drop i).take (j - i)) := by
  apply ByteArray.ext
  simp [bs, ByteArray.data_extract]
section
variable {b : Nat} {w0 : World} {OUT : List UInt8} {A0 A1 A2 A3 A4 A5 A6 A7 A8 B0 B1 B2 B3 B5 B6 C8 C9 D0 D1 D2 D3 D4 D5 D6 D7 D8 D9 E0 E1 E2 E3 E4 E5 E6 E7 E8 E9 F0 F1 F2 F3 F4 F5 F6 F7 F8 F9 G0 G1 G2 G3 G4 G5 G6 G7 G8 G9 H0 H1 H2 H3 H4 H5 H6 H7 H8 H9 I0 I1 I2 I3 I4 I5 I6 I7 I8 I9 J0 J1 J2 J3 J4 J5 J6 J7 J8 J9 K0 K1 K2 K3 K4 K5 K6 K7 K8 K9 L0 L1 L2 L3 L4 L5 L6 L7 L8 L9 M0 M1 M2 M3 M4 M5 M6 M7 M8 M9 N0 N1 N2 N3 N4 N5 N6 N7 N8 N9 x5 x6 x7 x8 x9 z0 z1 z2 z3 z4 z5 z6 z7 : Value}

set_option maxHeartbeats 4000000 in
set_option maxRecDepth 1000000 in
theorem esc_char (c : UInt8) (r out : List UInt8) (wr : World) (B8 B9 C0 C1 C2 C3 C4 C5 C6 C7 O0 O1 O2 O3 O4 O5 O6 O7 O8 O9 P0 P1 P2 P3 P4 P5 P6 P7 P8 P9 R0 R1 R2 R3 R4 R5 R6 R7 R8 R9 S0 S1 S2 S3 S4 S5 S6 S7 S8 S9 T0 T1 T2 T3 T4 T5 T6 T7 T8 T9 U0 U1 U2 U3 U4 U5 U6 U7 U8 U9 V0 V1 V2 V3 V4 V5 V6 V7 V8 V9 W0 W1 W2 W3 W4 W5 W6 W7 W8 W9 X0 X1 X2 X3 X4 X5 X6 X7 X8 X9 Y0 Y1 Y2 Y3 Y4 Y5 Y6 Y7 Y8 Y9 Z0 Z1 Z2 Z3 Z4 Z5 Z6 Z7 Z8 Z9 x0 x1 x2 x3 x4 : Value) (Q0 : Exit → Act → World → Prop) (h1 : c ≠ 36) (h2 : c ≠ 46) (hlb : LB b out wr) (hb : Below b w0 wr) (ho : out ++ Dm.tl (c :: r) = OUT) (hl : OUT.length + (c :: r).length ≤ 140737488355328) :
    Code.wp Tryd.prog escBody (Exit.then (fun a' w'' => EscI b w0 OUT A0 A1 A2 A3 A4 A5 A6 A7 A8 B0 B1 B2 B3 B5 B6 C8 C9 D0 D1 D2 D3 D4 D5 D6 D7 D8 D9 E0 E1 E2 E3 E4 E5 E6 E7 E8 E9 F0 F1 F2 F3 F4 F5 F6 F7 F8 F9 G0 G1 G2 G3 G4 G5 G6 G7 G8 G9 H0 H1 H2 H3 H4 H5 H6 H7 H8 H9 I0 I1 I2 I3 I4 I5 I6 I7 I8 I9 J0 J1 J2 J3 J4 J5 J6 J7 J8 J9 K0 K1 K2 K3 K4 K5 K6 K7 K8 K9 L0 L1 L2 L3 L4 L5 L6 L7 L8 L9 M0 M1 M2 M3 M4 M5 M6 M7 M8 M9 N0 N1 N2 N3 N4 N5 N6 N7 N8 N9 x5 x6 x7 x8 x9 z0 z1 z2 z3 z4 z5 z6 z7 a' w'' ∧ escMu a' < escMu ⟨#[A0, A1, A2, A3, A4, A5, A6, A7, A8, HF, B0, B1, B2, B3, .pointer (some ⟨b, 0, none⟩), B5, B6, .string (bs (c :: r)), B8, B9, C0, C1, C2, C3, C4, C5, C6, C7, C8, C9, D0, D1, D2, D3, D4, D5, D6, D7, D8, D9, E0, E1, E2, E3, E4, E5, E6, E7, E8, E9, F0, F1, F2, F3, F4, F5, F6, F7, F8, F9, G0, G1, G2, G3, G4, G5, G6, G7, G8, G9, H0, H1, H2, H3, H4, H5, H6, H7, H8, H9, I0, I1, I2, I3, I4, I5, I6, I7, I8, I9, J0, J1, J2, J3, J4, J5, J6, J7, J8, J9, K0, K1, K2, K3, K4, K5, K6, K7, K8, K9, L0, L1, L2, L3, L4, L5, L6, L7, L8, L9, M0, M1, M2, M3, M4, M5, M6, M7, M8, M9, N0, N1, N2, N3, N4, N5, N6, N7, N8, N9, O0, O1, O2, O3, O4, O5, O6, O7, O8, O9, P0, P1, P2, P3, P4, P5, P6, P7, P8, P9, R0, R1, R2, R3, R4, R5, R6, R7, R8, R9, S0, S1, S2, S3, S4, S5, S6, S7, S8, S9, T0, T1, T2, T3, T4, T5, T6, T7, T8, T9, U0, U1, U2, U3, U4, U5, U6, U7, U8, U9, V0, V1, V2, V3, V4, V5, V6, V7, V8, V9, W0, W1, W2, W3, W4, W5, W6, W7, W8, W9, X0, X1, X2, X3, X4, X5, X6, X7, X8, X9, Y0, Y1, Y2, Y3, Y4, Y5, Y6, Y7, Y8, Y9, Z0, Z1, Z2, Z3, Z4, Z5, Z6, Z7, Z8, Z9, x0, x1, x2, x3, x4, x5, x6, x7, x8, x9, z0, z1, z2, z3, z4, z5, z6, z7], []⟩) Q0) ⟨#[A0, A1, A2, A3, A4, A5, A6, A7, A8, HF, B0, B1, B2, B3, .pointer (some ⟨b, 0, none⟩), B5, B6, .string (bs (c :: r)), B8, B9, C0, C1, C2, C3, C4, C5, C6, C7, C8, C9, D0, D1, D2, D3, D4, D5, D6, D7, D8, D9, E0, E1, E2, E3, E4, E5, E6, E7, E8, E9, F0, F1, F2, F3, F4, F5, F6, F7, F8, F9, G0, G1, G2, G3, G4, G5, G6, G7, G8, G9, H0, H1, H2, H3, H4, H5, H6, H7, H8, H9, I0, I1, I2, I3, I4, I5, I6, I7, I8, I9, J0, J1, J2, J3, J4, J5, J6, J7, J8, J9, K0, K1, K2, K3, K4, K5, K6, K7, K8, K9, L0, L1, L2, L3, L4, L5, L6, L7, L8, L9, M0, M1, M2, M3, M4, M5, M6, M7, M8, M9, N0, N1, N2, N3, N4, N5, N6, N7, N8, N9, O0, O1, O2, O3, O4, O5, O6, O7, O8, O9, P0, P1, P2, P3, P4, P5, P6, P7, P8, P9, R0, R1, R2, R3, R4, R5, R6, R7, R8, R9, S0, S1, S2, S3, S4, S5, S6, S7, S8, S9, T0, T1, T2, T3, T4, T5, T6, T7, T8, T9, U0, U1, U2, U3, U4, U5, U6, U7, U8, U9, V0, V1, V2, V3, V4, V5, V6, V7, V8, V9, W0, W1, W2, W3, W4, W5, W6, W7, W8, W9, X0, X1, X2, X3, X4, X5, X6, X7, X8, X9, Y0, Y1, Y2, Y3, Y4, Y5, Y6, Y7, Y8, Y9, Z0, Z1, Z2, Z3, Z4, Z5, Z6, Z7, Z8, Z9, x0, x1, x2, x3, x4, x5, x6, x7, x8, x9, z0, z1, z2, z3, z4, z5, z6, z7], []⟩ wr := by
  conv => arg 2; whnf
  have hz := bs_size (c :: r)
  have hw := Lib.hid (lbByte_calls b out c wr hlb (by have := congrArg List.length ho; simp at this hl ⊢; omega))
  have ho2 : (out ++ [c]) ++ Dm.tl r = OUT := by rw [← ho, Dm.tl_char r h1 h2]; simp
  have HB := Lib.hid hb
  have HO := Lib.hid ho2
  have HL := Lib.hid (show OUT.length + r.length ≤ 140737488355328 by simp at hl; omega)
  have i0 : (bs (c :: r))[0]'(by rw [hz]; simp) = c := rfl
  have hx : (bs (c :: r)).extract 1 (r.length + 1) = bs r := by have := bs_extract (c :: r) 1; rw [List.length_cons] at this; rw [this]; rfl
  have hlt0 : (0 : Int) < ((bs (c :: r)).size : Int) := by rw [hz, List.length_cons]; omega
  have h3 : (1 : Int) ≤ ((c :: r).length : Int) := by rw [List.length_cons]; omega
  have h4 : 1 ≤ (c :: r).length := by rw [List.length_cons]; omega
  have n1 : ((c.toNat : Int) == 36) = false := u8_ne h1
  have n2 : ((c.toNat : Int) == 46) = false := u8_ne h2
  clear hlb hb ho ho2 hl h1 h2
  go_wp2_with (go_at_call 94; refine hw.out.mono ?_; rintro e w1 ⟨rfl, hlb1, hb1⟩)
  refine ⟨?_, ?_⟩
  · unfold EscI
    exact ⟨_, _, _, _, _, _, _, _, _, _, _, _, _, _, _, _, _, _, _, _, _, _, _, _, _, _, _, _, _, _, _, _, _, _, _, _, _, _, _, _, _, _, _, _, _, _, _, _, _, _, _, _, _, _, _, _, _, _, _, _, _, _, _, _, _, _, _, _, _, _, _, _, _, _, _, _, _, _, _, _, _, _, _, _, _, _, _, _, _, _, _, _, _, _, _, _, _, _, _, _, _, _, _, _, _, _, _, _, _, _, _, _, _, _, _, _, _, _, _, _, _, _, _, _, _, r, out ++ [c], ⟨hlb1, HB.out.trans hb1, HO.out, HL.out⟩, rfl⟩
  · show (bs r).size < (bs (c :: r)).size
    rw [bs_size, bs_size]
    simp

set_option maxHeartbeats 4000000 in
set_option maxRecDepth 1000000 in
theorem esc_dots (r out : List UInt8) (wr : World) (B8 B9 C0 C1 C2 C3 C4 C5 C6 C7 O0 O1 O2 O3 O4 O5 O6 O7 O8 O9 P0 P1 P2 P3 P4 P5 P6 P7 P8 P9 R0 R1 R2 R3 R4 R5 R6 R7 R8 R9 S0 S1 S2 S3 S4 S5 S6 S7 S8 S9 T0 T1 T2 T3 T4 T5 T6 T7 T8 T9 U0 U1 U2 U3 U4 U5 U6 U7 U8 U9 V0 V1 V2 V3 V4 V5 V6 V7 V8 V9 W0 W1 W2 W3 W4 W5 W6 W7 W8 W9 X0 X1 X2 X3 X4 X5 X6 X7 X8 X9 Y0 Y1 Y2 Y3 Y4 Y5 Y6 Y7 Y8 Y9 Z0 Z1 Z2 Z3 Z4 Z5 Z6 Z7 Z8 Z9 x0 x1 x2 x3 x4 : Value) (Q0 : Exit → Act → World → Prop) (hlb : LB b out wr) (hb : Below b w0 wr) (ho : out ++ Dm.tl (46 :: 46 :: r) = OUT) (hl : OUT.length + (46 :: 46 :: r).length ≤ 140737488355328) :
    Code.wp Tryd.prog escBody (Exit.then (fun a' w'' => EscI b w0 OUT A0 A1 A2 A3 A4 A5 A6 A7 A8 B0 B1 B2 B3 B5 B6 C8 C9 D0 D1 D2 D3 D4 D5 D6 D7 D8 D9 E0 E1 E2 E3 E4 E5 E6 E7 E8 E9 F0 F1 F2 F3 F4 F5 F6 F7 F8 F9 G0 G1 G2 G3 G4 G5 G6 G7 G8 G9 H0 H1 H2 H3 H4 H5 H6 H7 H8 H9 I0 I1 I2 I3 I4 I5 I6 I7 I8 I9 J0 J1 J2 J3 J4 J5 J6 J7 J8 J9 K0 K1 K2 K3 K4 K5 K6 K7 K8 K9 L0 L1 L2 L3 L4 L5 L6 L7 L8 L9 M0 M1 M2 M3 M4 M5 M6 M7 M8 M9 N0 N1 N2 N3 N4 N5 N6 N7 N8 N9 x5 x6 x7 x8 x9 z0 z1 z2 z3 z4 z5 z6 z7 a' w'' ∧ escMu a' < escMu ⟨#[A0, A1, A2, A3, A4, A5, A6, A7, A8, HF, B0, B1, B2, B3, .pointer (some ⟨b, 0, none⟩), B5, B6, .string (bs (46 :: 46 :: r)), B8, B9, C0, C1, C2, C3, C4, C5, C6, C7, C8, C9, D0, D1, D2, D3, D4, D5, D6, D7, D8, D9, E0, E1, E2, E3, E4, E5, E6, E7, E8, E9, F0, F1, F2, F3, F4, F5, F6, F7, F8, F9, G0, G1, G2, G3, G4, G5, G6, G7, G8, G9, H0, H1, H2, H3, H4, H5, H6, H7, H8, H9, I0, I1, I2, I3, I4, I5, I6, I7, I8, I9, J0, J1, J2, J3, J4, J5, J6, J7, J8, J9, K0, K1, K2, K3, K4, K5, K6, K7, K8, K9, L0, L1, L2, L3, L4, L5, L6, L7, L8, L9, M0, M1, M2, M3, M4, M5, M6, M7, M8, M9, N0, N1, N2, N3, N4, N5, N6, N7, N8, N9, O0, O1, O2, O3, O4, O5, O6, O7, O8, O9, P0, P1, P2, P3, P4, P5, P6, P7, P8, P9, R0, R1, R2, R3, R4, R5, R6, R7, R8, R9, S0, S1, S2, S3, S4, S5, S6, S7, S8, S9, T0, T1, T2, T3, T4, T5, T6, T7, T8, T9, U0, U1, U2, U3, U4, U5, U6, U7, U8, U9, V0, V1, V2, V3, V4, V5, V6, V7, V8, V9, W0, W1, W2, W3, W4, W5, W6, W7, W8, W9, X0, X1, X2, X3, X4, X5, X6, X7, X8, X9, Y0, Y1, Y2, Y3, Y4, Y5, Y6, Y7, Y8, Y9, Z0, Z1, Z2, Z3, Z4, Z5, Z6, Z7, Z8, Z9, x0, x1, x2, x3, x4, x5, x6, x7, x8, x9, z0, z1, z2, z3, z4, z5, z6, z7], []⟩) Q0) ⟨#[A0, A1, A2, A3, A4, A5, A6, A7, A8, HF, B0, B1, B2, B3, .pointer (some ⟨b, 0, none⟩), B5, B6, .string (bs (46 :: 46 :: r)), B8, B9, C0, C1, C2, C3, C4, C5, C6, C7, C8, C9, D0, D1, D2, D3, D4, D5, D6, D7, D8, D9, E0, E1, E2, E3, E4, E5, E6, E7, E8, E9, F0, F1, F2, F3, F4, F5, F6, F7, F8, F9, G0, G1, G2, G3, G4, G5, G6, G7, G8, G9, H0, H1, H2, H3, H4, H5, H6, H7, H8, H9, I0, I1, I2, I3, I4, I5, I6, I7, I8, I9, J0, J1, J2, J3, J4, J5, J6, J7, J8, J9, K0, K1, K2, K3, K4, K5, K6, K7, K8, K9, L0, L1, L2, L3, L4, L5, L6, L7, L8, L9, M0, M1, M2, M3, M4, M5, M6, M7, M8, M9, N0, N1, N2, N3, N4, N5, N6, N7, N8, N9, O0, O1, O2, O3, O4, O5, O6, O7, O8, O9, P0, P1, P2, P3, P4, P5, P6, P7, P8, P9, R0, R1, R2, R3, R4, R5, R6, R7, R8, R9, S0, S1, S2, S3, S4, S5, S6, S7, S8, S9, T0, T1, T2, T3, T4, T5, T6, T7, T8, T9, U0, U1, U2, U3, U4, U5, U6, U7, U8, U9, V0, V1, V2, V3, V4, V5, V6, V7, V8, V9, W0, W1, W2, W3, W4, W5, W6, W7, W8, W9, X0, X1, X2, X3, X4, X5, X6, X7, X8, X9, Y0, Y1, Y2, Y3, Y4, Y5, Y6, Y7, Y8, Y9, Z0, Z1, Z2, Z3, Z4, Z5, Z6, Z7, Z8, Z9, x0, x1, x2, x3, x4, x5, x6, x7, x8, x9, z0, z1, z2, z3, z4, z5, z6, z7], []⟩ wr := by
  conv => arg 2; whnf
  have hz := bs_size (46 :: 46 :: r)
  have ho2 : (out ++ [58, 58]) ++ Dm.tl r = OUT := by rw [← ho, Dm.tl_dots r]; simp
  have hw : Hid (Calls Tryd.prog 73 #[.pointer (some ⟨b, 0, none⟩), .string ⟨#[58, 58]⟩] wr fun e w' => (∃ n, e = .returned (.tuple #[.int .i64 n, .nilIface])) ∧ LB b (out ++ [58, 58]) w' ∧ Below b wr w') :=
    Lib.hid (lbString_calls b out [58, 58] wr hlb (by have := congrArg List.length ho2; simp at this hl ⊢; omega))
  have HPP := Lib.hid (fun w => pre2_calls 46 46 (46 :: 46 :: r) w)
  rw [show isPre2 46 46 (46 :: 46 :: r) = true from rfl] at HPP
  have HB := Lib.hid hb
  have HO := Lib.hid ho2
  have HL := Lib.hid (show OUT.length + r.length ≤ 140737488355328 by simp at hl; omega)
  have i0 : (bs (46 :: 46 :: r))[0]'(by rw [hz]; simp) = 46 := rfl
  have hxs : (bs (46 :: 46 :: r)).extract 2 (r.length + 1 + 1) = bs r := by have := bs_extract (46 :: 46 :: r) 2; exact this
  have lz0 : (0 : Int) < ((bs (46 :: 46 :: r)).size : Int) := by rw [hz]; simp <;> omega
  have ly0 : (0 : Int) < (r.length : Int) + 1 + 1 := by omega
  have h3 : (2 : Int) ≤ ((46 :: 46 :: r).length : Int) := by simp <;> omega
  have h4 : 2 ≤ (46 :: 46 :: r).length := by simp
  clear hlb hb ho ho2 hl
  go_wp2_with (first | (go_at_call 73; refine hw.out.mono ?_; rintro e w1 ⟨⟨nn, rfl⟩, hlb1, hb1⟩) | (go_at_call 93; refine (HPP.out _).mono ?_; rintro e wx ⟨rfl, rfl⟩))
  all_goals refine ⟨?_, ?_⟩
  all_goals try rw [hxs]
  all_goals first
    | exact ⟨_, _, _, _, _, _, _, _, _, _, _, _, _, _, _, _, _, _, _, _, _, _, _, _, _, _, _, _, _, _, _, _, _, _, _, _, _, _, _, _, _, _, _, _, _, _, _, _, _, _, _, _, _, _, _, _, _, _, _, _, _, _, _, _, _, _, _, _, _, _, _, _, _, _, _, _, _, _, _, _, _, _, _, _, _, _, _, _, _, _, _, _, _, _, _, _, _, _, _, _, _, _, _, _, _, _, _, _, _, _, _, _, _, _, _, _, _, _, _, _, _, _, _, _, _, r, out ++ [58, 58], ⟨hlb1, HB.out.trans hb1, HO.out, HL.out⟩, rfl⟩
    | (show (bs r).size < (bs (46 :: 46 :: r)).size
       rw [bs_size, bs_size]
       simp <;> omega)
set_option maxHeartbeats 4000000 in
set_option maxRecDepth 1000000 in
theorem esc_dot (r out : List UInt8) (wr : World) (B8 B9 C0 C1 C2 C3 C4 C5 C6 C7 O0 O1 O2 O3 O4 O5 O6 O7 O8 O9 P0 P1 P2 P3 P4 P5 P6 P7 P8 P9 R0 R1 R2 R3 R4 R5 R6 R7 R8 R9 S0 S1 S2 S3 S4 S5 S6 S7 S8 S9 T0 T1 T2 T3 T4 T5 T6 T7 T8 T9 U0 U1 U2 U3 U4 U5 U6 U7 U8 U9 V0 V1 V2 V3 V4 V5 V6 V7 V8 V9 W0 W1 W2 W3 W4 W5 W6 W7 W8 W9 X0 X1 X2 X3 X4 X5 X6 X7 X8 X9 Y0 Y1 Y2 Y3 Y4 Y5 Y6 Y7 Y8 Y9 Z0 Z1 Z2 Z3 Z4 Z5 Z6 Z7 Z8 Z9 x0 x1 x2 x3 x4 : Value) (Q0 : Exit → Act → World → Prop) (hnd : r.head? ≠ some 46) (hlb : LB b out wr) (hb : Below b w0 wr) (ho : out ++ Dm.tl (46 :: r) = OUT) (hl : OUT.length + (46 :: r).length ≤ 140737488355328) :
    Code.wp Tryd.prog escBody (Exit.then (fun a' w'' => EscI b w0 OUT A0 A1 A2 A3 A4 A5 A6 A7 A8 B0 B1 B2 B3 B5 B6 C8 C9 D0 D1 D2 D3 D4 D5 D6 D7 D8 D9 E0 E1 E2 E3 E4 E5 E6 E7 E8 E9 F0 F1 F2 F3 F4 F5 F6 F7 F8 F9 G0 G1 G2 G3 G4 G5 G6 G7 G8 G9 H0 H1 H2 H3 H4 H5 H6 H7 H8 H9 I0 I1 I2 I3 I4 I5 I6 I7 I8 I9 J0 J1 J2 J3 J4 J5 J6 J7 J8 J9 K0 K1 K2 K3 K4 K5 K6 K7 K8 K9 L0 L1 L2 L3 L4 L5 L6 L7 L8 L9 M0 M1 M2 M3 M4 M5 M6 M7 M8 M9 N0 N1 N2 N3 N4 N5 N6 N7 N8 N9 x5 x6 x7 x8 x9 z0 z1 z2 z3 z4 z5 z6 z7 a' w'' ∧ escMu a' < escMu ⟨#[A0, A1, A2, A3, A4, A5, A6, A7, A8, HF, B0, B1, B2, B3, .pointer (some ⟨b, 0, none⟩), B5, B6, .string (bs (46 :: r)), B8, B9, C0, C1, C2, C3, C4, C5, C6, C7, C8, C9, D0, D1, D2, D3, D4, D5, D6, D7, D8, D9, E0, E1, E2, E3, E4, E5, E6, E7, E8, E9, F0, F1, F2, F3, F4, F5, F6, F7, F8, F9, G0, G1, G2, G3, G4, G5, G6, G7, G8, G9, H0, H1, H2, H3, H4, H5, H6, H7, H8, H9, I0, I1, I2, I3, I4, I5, I6, I7, I8, I9, J0, J1, J2, J3, J4, J5, J6, J7, J8, J9, K0, K1, K2, K3, K4, K5, K6, K7, K8, K9, L0, L1, L2, L3, L4, L5, L6, L7, L8, L9, M0, M1, M2, M3, M4, M5, M6, M7, M8, M9, N0, N1, N2, N3, N4, N5, N6, N7, N8, N9, O0, O1, O2, O3, O4, O5, O6, O7, O8, O9, P0, P1, P2, P3, P4, P5, P6, P7, P8, P9, R0, R1, R2, R3, R4, R5, R6, R7, R8, R9, S0, S1, S2, S3, S4, S5, S6, S7, S8, S9, T0, T1, T2, T3, T4, T5, T6, T7, T8, T9, U0, U1, U2, U3, U4, U5, U6, U7, U8, U9, V0, V1, V2, V3, V4, V5, V6, V7, V8, V9, W0, W1, W2, W3, W4, W5, W6, W7, W8, W9, X0, X1, X2, X3, X4, X5, X6, X7, X8, X9, Y0, Y1, Y2, Y3, Y4, Y5, Y6, Y7, Y8, Y9, Z0, Z1, Z2, Z3, Z4, Z5, Z6, Z7, Z8, Z9, x0, x1, x2, x3, x4, x5, x6, x7, x8, x9, z0, z1, z2, z3, z4, z5, z6, z7], []⟩) Q0) ⟨#[A0, A1, A2, A3, A4, A5, A6, A7, A8, HF, B0, B1, B2, B3, .pointer (some ⟨b, 0, none⟩), B5, B6, .string (bs (46 :: r)), B8, B9, C0, C1, C2, C3, C4, C5, C6, C7, C8, C9, D0, D1, D2, D3, D4, D5, D6, D7, D8, D9, E0, E1, E2, E3, E4, E5, E6, E7, E8, E9, F0, F1, F2, F3, F4, F5, F6, F7, F8, F9, G0, G1, G2, G3, G4, G5, G6, G7, G8, G9, H0, H1, H2, H3, H4, H5, H6, H7, H8, H9, I0, I1, I2, I3, I4, I5, I6, I7, I8, I9, J0, J1, J2, J3, J4, J5, J6, J7, J8, J9, K0, K1, K2, K3, K4, K5, K6, K7, K8, K9, L0, L1, L2, L3, L4, L5, L6, L7, L8, L9, M0, M1, M2, M3, M4, M5, M6, M7, M8, M9, N0, N1, N2, N3, N4, N5, N6, N7, N8, N9, O0, O1, O2, O3, O4, O5, O6, O7, O8, O9, P0, P1, P2, P3, P4, P5, P6, P7, P8, P9, R0, R1, R2, R3, R4, R5, R6, R7, R8, R9, S0, S1, S2, S3, S4, S5, S6, S7, S8, S9, T0, T1, T2, T3, T4, T5, T6, T7, T8, T9, U0, U1, U2, U3, U4, U5, U6, U7, U8, U9, V0, V1, V2, V3, V4, V5, V6, V7, V8, V9, W0, W1, W2, W3, W4, W5, W6, W7, W8, W9, X0, X1, X2, X3, X4, X5, X6, X7, X8, X9, Y0, Y1, Y2, Y3, Y4, Y5, Y6, Y7, Y8, Y9, Z0, Z1, Z2, Z3, Z4, Z5, Z6, Z7, Z8, Z9, x0, x1, x2, x3, x4, x5, x6, x7, x8, x9, z0, z1, z2, z3, z4, z5, z6, z7], []⟩ wr := by
  conv => arg 2; whnf
  have hz := bs_size (46 :: r)
  have ho2 : (out ++ [46]) ++ Dm.tl r = OUT := by
    rw [← ho, Dm.tl_step (o := [46]) (t := r) (by unfold Dm.escStep; rw [if_neg (by decide), if_pos rfl, if_neg hnd])]; simp
  have hw := Lib.hid (lbByte_calls b out 46 wr hlb (by have := congrArg List.length ho2; simp at this hl ⊢; omega))
  have HPP := Lib.hid (fun w => pre2_calls 46 46 (46 :: r) w)
  rw [show isPre2 46 46 (46 :: r) = false from by cases r with | nil => rfl | cons x r => (unfold isPre2; simp only [true_and]; rw [decide_eq_false_iff_not]; rintro rfl; exact hnd rfl)] at HPP
  have HB := Lib.hid hb
  have HO := Lib.hid ho2
  have HL := Lib.hid (show OUT.length + r.length ≤ 140737488355328 by simp at hl; omega)
  have i0 : (bs (46 :: r))[0]'(by rw [hz]; simp) = 46 := rfl
  have hxs : (bs (46 :: r)).extract 1 (r.length + 1) = bs r := by have := bs_extract (46 :: r) 1; exact this
  have lz0 : (0 : Int) < ((bs (46 :: r)).size : Int) := by rw [hz]; simp <;> omega
  have ly0 : (0 : Int) < (r.length : Int) + 1 := by omega
  have h3 : (1 : Int) ≤ ((46 :: r).length : Int) := by simp <;> omega
  have h4 : 1 ≤ (46 :: r).length := by simp
  clear hlb hb ho ho2 hl hnd
  go_wp2_with (first | (go_at_call 94; refine hw.out.mono ?_; rintro e w1 ⟨rfl, hlb1, hb1⟩) | (go_at_call 93; refine (HPP.out _).mono ?_; rintro e wx ⟨rfl, rfl⟩))
  all_goals refine ⟨?_, ?_⟩
  all_goals try rw [hxs]
  all_goals first
    | exact ⟨_, _, _, _, _, _, _, _, _, _, _, _, _, _, _, _, _, _, _, _, _, _, _, _, _, _, _, _, _, _, _, _, _, _, _, _, _, _, _, _, _, _, _, _, _, _, _, _, _, _, _, _, _, _, _, _, _, _, _, _, _, _, _, _, _, _, _, _, _, _, _, _, _, _, _, _, _, _, _, _, _, _, _, _, _, _, _, _, _, _, _, _, _, _, _, _, _, _, _, _, _, _, _, _, _, _, _, _, _, _, _, _, _, _, _, _, _, _, _, _, _, _, _, _, _, r, out ++ [46], ⟨hlb1, HB.out.trans hb1, HO.out, HL.out⟩, rfl⟩
    | (show (bs r).size < (bs (46 :: r)).size
       rw [bs_size, bs_size]
       simp <;> omega)
set_option maxHeartbeats 4000000 in
set_option maxRecDepth 1000000 in
theorem esc_end (out : List UInt8) (wr : World) (B8 B9 C0 C1 C2 C3 C4 C5 C6 C7 O0 O1 O2 O3 O4 O5 O6 O7 O8 O9 P0 P1 P2 P3 P4 P5 P6 P7 P8 P9 R0 R1 R2 R3 R4 R5 R6 R7 R8 R9 S0 S1 S2 S3 S4 S5 S6 S7 S8 S9 T0 T1 T2 T3 T4 T5 T6 T7 T8 T9 U0 U1 U2 U3 U4 U5 U6 U7 U8 U9 V0 V1 V2 V3 V4 V5 V6 V7 V8 V9 W0 W1 W2 W3 W4 W5 W6 W7 W8 W9 X0 X1 X2 X3 X4 X5 X6 X7 X8 X9 Y0 Y1 Y2 Y3 Y4 Y5 Y6 Y7 Y8 Y9 Z0 Z1 Z2 Z3 Z4 Z5 Z6 Z7 Z8 Z9 x0 x1 x2 x3 x4 : Value) (Q0 : Exit → Act → World → Prop) (hlb : LB b out wr) (hb : Below b w0 wr) (ho : out ++ Dm.tl [] = OUT)
    (hexit : ∀ a' w'', EscX b w0 OUT A0 A1 A2 A3 A4 A5 A6 A7 A8 B0 B1 B2 B3 B5 B6 C8 C9 D0 D1 D2 D3 D4 D5 D6 D7 D8 D9 E0 E1 E2 E3 E4 E5 E6 E7 E8 E9 F0 F1 F2 F3 F4 F5 F6 F7 F8 F9 G0 G1 G2 G3 G4 G5 G6 G7 G8 G9 H0 H1 H2 H3 H4 H5 H6 H7 H8 H9 I0 I1 I2 I3 I4 I5 I6 I7 I8 I9 J0 J1 J2 J3 J4 J5 J6 J7 J8 J9 K0 K1 K2 K3 K4 K5 K6 K7 K8 K9 L0 L1 L2 L3 L4 L5 L6 L7 L8 L9 M0 M1 M2 M3 M4 M5 M6 M7 M8 M9 N0 N1 N2 N3 N4 N5 N6 N7 N8 N9 x5 x6 x7 x8 x9 z0 z1 z2 z3 z4 z5 z6 z7 a' w'' → Q0 (.exit 8) a' w'') (NX : Act → World → Prop) :
    Code.wp Tryd.prog escBody (Exit.then NX Q0) ⟨#[A0, A1, A2, A3, A4, A5, A6, A7, A8, HF, B0, B1, B2, B3, .pointer (some ⟨b, 0, none⟩), B5, B6, .string (bs []), B8, B9, C0, C1, C2, C3, C4, C5, C6, C7, C8, C9, D0, D1, D2, D3, D4, D5, D6, D7, D8, D9, E0, E1, E2, E3, E4, E5, E6, E7, E8, E9, F0, F1, F2, F3, F4, F5, F6, F7, F8, F9, G0, G1, G2, G3, G4, G5, G6, G7, G8, G9, H0, H1, H2, H3, H4, H5, H6, H7, H8, H9, I0, I1, I2, I3, I4, I5, I6, I7, I8, I9, J0, J1, J2, J3, J4, J5, J6, J7, J8, J9, K0, K1, K2, K3, K4, K5, K6, K7, K8, K9, L0, L1, L2, L3, L4, L5, L6, L7, L8, L9, M0, M1, M2, M3, M4, M5, M6, M7, M8, M9, N0, N1, N2, N3, N4, N5, N6, N7, N8, N9, O0, O1, O2, O3, O4, O5, O6, O7, O8, O9, P0, P1, P2, P3, P4, P5, P6, P7, P8, P9, R0, R1, R2, R3, R4, R5, R6, R7, R8, R9, S0, S1, S2, S3, S4, S5, S6, S7, S8, S9, T0, T1, T2, T3, T4, T5, T6, T7, T8, T9, U0, U1, U2, U3, U4, U5, U6, U7, U8, U9, V0, V1, V2, V3, V4, V5, V6, V7, V8, V9, W0, W1, W2, W3, W4, W5, W6, W7, W8, W9, X0, X1, X2, X3, X4, X5, X6, X7, X8, X9, Y0, Y1, Y2, Y3, Y4, Y5, Y6, Y7, Y8, Y9, Z0, Z1, Z2, Z3, Z4, Z5, Z6, Z7, Z8, Z9, x0, x1, x2, x3, x4, x5, x6, x7, x8, x9, z0, z1, z2, z3, z4, z5, z6, z7], []⟩ wr := by
  conv => arg 2; whnf
  have hz := bs_size []
  have HB := Lib.hid hb
  have HO := Lib.hid (show out = OUT by rw [← ho]; simp [Dm.tl, Dm.esc])
  have HL := Lib.hid hlb
  clear hlb hb ho
  go_wp2_with fail
  unfold EscX
  exact ⟨_, _, _, _, _, _, _, _, _, _, _, _, _, _, _, _, _, _, _, _, _, _, _, _, _, _, _, _, _, _, _, _, _, _, _, _, _, _, _, _, _, _, _, _, _, _, _, _, _, _, _, _, _, _, _, _, _, _, _, _, _, _, _, _, _, _, _, _, _, _, _, _, _, _, _, _, _, _, _, _, _, _, _, _, _, _, _, _, _, _, _, _, _, _, _, _, _, _, _, _, _, _, _, _, _, _, _, _, _, _, _, _, _, _, _, _, _, _, _, _, _, _, _, _, _, _, ⟨HO.out ▸ HL.out, HB.out⟩, rfl⟩

end
end Go.Proofs.YtpmlnhddkbgefaaDoor
