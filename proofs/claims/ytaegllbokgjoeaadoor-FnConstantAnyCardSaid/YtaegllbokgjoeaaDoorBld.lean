/- (*strings.Builder)'s writes, of the builder that lies within a rustState. -/
import Derived.Test.YtaegllbokgjoeaaDoorStr
import Derived.Lib.Walk
import Derived.Lib.AppendStr
namespace Go.Proofs.YtaegllbokgjoeaaDoor
set_option linter.unusedVariables false
set_option linter.unusedSimpArgs false
open Go.RowKit

theorem bld_info : (Tryd.prog.info? 61).map (·.size) = some 2 := by kernel_rfl
theorem byte_info : (Tryd.prog.info? 5).map (fun i => (i.zero, i.size, i.bytes)) = some (some (.int .u8 0), 1, 1) := by kernel_rfl
theorem bld_lies : liesAt Tryd.prog Tryd.prog.depth 63 (10 / Tryd.prog.cellsOf 63) 3 61 1 = true := by kernel_rfl

/-- The state, its builder's two cells told. -/
def RustIn (b : Nat) (s : RS) (p v : Value) (w : World) : Prop :=
  w.heap[b]? = some (.cells (s.cells p v) 63 (0, 0)) ∧ w.ownsRow b 5 1 v s.out.length (Lib.byteCells s.out) ∧ v.ownBlock ≠ some b
theorem RustIn.lt {b : Nat} {s : RS} {p v : Value} {w : World} (h : RustIn b s p v w) : b < w.heap.size := (Array.getElem?_eq_some_iff.1 h.1).1
theorem RustIn.c3 {b : Nat} {s : RS} {p v : Value} {w : World} (h : RustIn b s p v w) : w.cell? ⟨b, 3, none⟩ = some p := by rw [Lib.cell_of_heap h.1]; rfl
theorem RustIn.c4 {b : Nat} {s : RS} {p v : Value} {w : World} (h : RustIn b s p v w) : w.cell? ⟨b, 4, none⟩ = some v := by rw [Lib.cell_of_heap h.1]; rfl
theorem RustIn.shape {b : Nat} {s : RS} {p v : Value} {w : World} (h : RustIn b s p v w) : w.shape? b = some (63, 10) := by simp [World.shape?, h.1, RS.cells]
theorem RustIn.used {b : Nat} {s : RS} {p v : Value} {w : World} (h : RustIn b s p v w) (q : Value) : RustIn b s q v (w.setCell ⟨b, 3, none⟩ q) := by
  obtain ⟨hb, hown, hne⟩ := h
  refine ⟨?_, ?_, hne⟩
  · simp [World.setCell, Array.getElem?_modify, hb]; rfl
  · exact hown.kept (row := some b) ⟨rfl, rfl, rfl, by simp [World.setCell], fun k _ hk => Below.heap_setCell _ _ _ _ (fun e => hk (by simp [e]))⟩ (Or.inr hne)
/-- A new buffer. -/
theorem RustIn.put {b : Nat} {s : RS} {p v v' : Value} {w : World} {out : List UInt8} (hb : w.heap[b]? = some (.cells (s.cells p v) 63 (0, 0))) (hown : w.ownsRow b 5 1 v' out.length (Lib.byteCells out)) :
    RustIn b { s with out := out } p v' (w.setCell ⟨b, 4, none⟩ v') := by
  have hne := Lib.ownBlock_ne hown hb (by decide)
  refine ⟨?_, ?_, hne⟩
  · simp [World.setCell, Array.getElem?_modify, hb]; rfl
  · exact hown.kept (row := some b) ⟨rfl, rfl, rfl, by simp [World.setCell], fun k _ hk => Below.heap_setCell _ _ _ _ (fun e => hk (by simp [e]))⟩ (Or.inr hne)
theorem RustAt.in {b : Nat} {s : RS} {w : World} (h : RustAt b s w) : ∃ p v, RustIn b s (.pointer p) v w ∧ (p = none ∨ p = some ⟨b, 3, none⟩) := by
  obtain ⟨_, p, v, hb, hp, hown, hne⟩ := h
  exact ⟨p, v, ⟨hb, hown, hne⟩, hp⟩

set_option maxHeartbeats 1000000 in
set_option maxRecDepth 100000 in
theorem copyCheck_used (b : Nat) (s : RS) (v : Value) (w : World) (h : RustIn b s (.pointer (some ⟨b, 3, none⟩)) v w) :
    Calls Tryd.prog 41 #[.pointer (some ⟨b, 3, none⟩)] w fun e w' => e = .returned (.tuple #[]) ∧ w' = w := by
  obtain ⟨j, hj, _⟩ := Option.map_eq_some_iff.1 bld_info
  have h0 := h.c3
  clear h
  go_enter Tryd.func41, Tryd.ntmps41
  go_wp2
  rw [Lib.run_neq_ptr_same w _ Tryd.underlying59 hj]
  go_wp2
  go_end0
  exact ⟨rfl, rfl⟩

set_option maxHeartbeats 1000000 in
set_option maxRecDepth 100000 in
theorem copyCheck_fresh (b : Nat) (s : RS) (v : Value) (w : World) (h : RustIn b s (.pointer none) v w) :
    Calls Tryd.prog 41 #[.pointer (some ⟨b, 3, none⟩)] w fun e w' => e = .returned (.tuple #[]) ∧ w' = w.setCell ⟨b, 3, none⟩ (.pointer (some ⟨b, 3, none⟩)) := by
  obtain ⟨j, hj, hjs⟩ := Option.map_eq_some_iff.1 bld_info
  have h0 := h.c3
  have hsh := h.shape
  have hfz : w.frozen? ⟨b, 3, none⟩ = false := Lib.frozen_of_heap h.1 3
  clear h
  go_enter Tryd.func41, Tryd.ntmps41
  go_wp2
  rw [Lib.run_to_unsafe w ⟨b, 3, none⟩ Tryd.underlying59 Tryd.underlying76 hj (by rw [hjs]; decide) hsh (by show 3 < 10; omega)]
  simp only [Result.andThen]
  rw [Oper.upon_value]
  go_wp2
  rw [run_callFunc_extern Tryd.func43 (by kernel_rfl) (by kernel_rfl) (by kernel_rfl) (e := Extern.AbiNoEscape.same) (by kernel_rfl)]
  rw [Lib.run_noEscape]
  simp only [Result.andThen]
  rw [Oper.upon_value]
  go_wp2
  rw [Lib.run_from_unsafe w ⟨b, 3, none⟩ Tryd.underlying76 Tryd.underlying59 hj hsh bld_lies]
  simp only [Result.andThen]
  rw [Oper.upon_value]
  go_wp2
  go_end0
  exact ⟨rfl, rfl⟩

theorem copyCheck_calls (b : Nat) (s : RS) (w : World) (h : RustAt b s w) :
    Calls Tryd.prog 41 #[.pointer (some ⟨b, 3, none⟩)] w fun e w' => e = .returned (.tuple #[]) ∧ (∃ v, RustIn b s (.pointer (some ⟨b, 3, none⟩)) v w') ∧ Fr b w w' := by
  obtain ⟨p, v, hin, rfl | rfl⟩ := h.in
  · refine (copyCheck_fresh b s v w hin).mono ?_
    rintro e w' ⟨rfl, rfl⟩
    exact ⟨rfl, ⟨v, hin.used _⟩, rust_below_set (Fr.refl _ _) _ _⟩
  · refine (copyCheck_used b s v w hin).mono ?_
    rintro e w' ⟨rfl, rfl⟩
    exact ⟨rfl, ⟨v, hin⟩, Fr.refl _ _⟩

set_option maxHeartbeats 1000000 in
set_option maxRecDepth 100000 in
theorem len_calls (b : Nat) (s : RS) (w : World) (h : RustAt b s w) :
    Calls Tryd.prog 38 #[.pointer (some ⟨b, 3, none⟩)] w fun e w' => e = .returned (.int .i64 s.out.length) ∧ w = w' := by
  obtain ⟨p, v, hin, _⟩ := h.in
  obtain ⟨ao, cap, rfl⟩ : ∃ ao cap, v = .slice ao s.out.length cap := by
    rcases hin.2.1.2 with ⟨hv, h0⟩ | ⟨g, cap, cur, hv, _⟩
    · exact ⟨none, 0, by rw [hv, h0]⟩
    · exact ⟨_, _, hv⟩
  have c1 := hin.c4
  clear hin h
  go_enter Tryd.func38, Tryd.ntmps38
  go_wp2
  go_ret
  exact ⟨rfl, rfl⟩

/-- Behind a write: the builder is used, the bytes are more. -/
theorem wrote {b : Nat} {s : RS} {v' : Value} {w0 w w' : World} {out : List UInt8} (hoff : 0 ≤ s.off ∧ s.off + s.str.length ≤ 4611686018427387904) (h : RustIn b { s with out := out } (.pointer (some ⟨b, 3, none⟩)) v' w') : RustAt b { s with out := out } w' :=
  ⟨hoff, some ⟨b, 3, none⟩, v', h.1, .inr rfl, h.2.1, h.2.2⟩

set_option maxHeartbeats 2000000 in
set_option maxRecDepth 100000 in
theorem bldByte_calls (b : Nat) (s : RS) (c : UInt8) (w : World) (h : RustAt b s w) (hlen : s.out.length + 1 ≤ 140737488355328) :
    Calls Tryd.prog 40 #[.pointer (some ⟨b, 3, none⟩), .int .u8 c.toNat] w fun e w' => e = .returned .nilIface ∧ RustAt b { s with out := s.out ++ [c] } w' ∧ Fr b w w' := by
  obtain ⟨i0, hi, hz0, hz1, hz2⟩ := info_parts byte_info
  have hoff := h.1
  have hlt := h.lt
  have hcc := copyCheck_calls b s w h
  clear h
  go_enter Tryd.func40, Tryd.ntmps40
  go_wp2_with (go_at_call 41; refine hcc.mono ?_)
  rintro e w1 ⟨rfl, ⟨v, h1⟩, hb1⟩
  have c1 := h1.c4
  have hown := h1.2.1
  have hlt1 := h1.lt
  go_wp2_with (at_builtin; refine wpList_append_own _ rfl _ _ 46 rfl b 5 i0 (.int .u8 0) 1 1 Tryd.underlying46 hi hz0 hz1 hz2 rfl (by decide) _ _ _ rfl (hown.alloc _) ⟨w1.heap.size, 0, none⟩ 1 1 [.int .u8 c.toNat] rfl rfl ?c1 ?c2 ?c3 ?c4 ?c5 ?_)
  case c1 =>
    intro j u hj
    match j, hj with
    | 0, hj => simp at hj; subst hj; simp [Addr.add]
  case c2 => intro u hu; simp at hu; subst hu; rfl
  case c3 => unfold maxLen; omega
  case c4 => omega
  case c5 => simp; omega
  intro v' w2 hown' hgrow _
  have hb2 : w2.heap[b]? = some (.cells (s.cells (.pointer (some ⟨b, 3, none⟩)) v) 63 (0, 0)) := by
    rw [hgrow.block b (by simp; omega) (fun e => h1.2.2 e.symm), Lib.alloc_old w1 _ b hlt1]
    exact h1.1
  have d4 : w2.cell? ⟨b, 4, none⟩ = some v := by rw [Lib.cell_of_heap hb2]; rfl
  have f4 : w2.frozen? ⟨b, 4, none⟩ = false := Lib.frozen_of_heap hb2 4
  have hown2 : w2.ownsRow b 5 1 v' (s.out ++ [c]).length (Lib.byteCells (s.out ++ [c])) := by simpa [Lib.byteCells] using hown'
  have HP := Lib.hid (RustIn.put hb2 hown2)
  have HB := Lib.hid (((hb1.alloc (by omega) _).grown hgrow (by simp; omega) (fun k hk => (hown.lt k hk).1) (fun g hg => by obtain ⟨c, fz, hc⟩ := Lib.ownsRow_kind hown g hg; exact ⟨c, fz, (Lib.alloc_old w1 _ g (Array.getElem?_eq_some_iff.1 hc).1).trans hc⟩)).setCell (p := ⟨b, 4, none⟩) rfl v')
  obtain ⟨ao, n', cap, rfl⟩ : ∃ ao n' cap, v' = .slice ao n' cap := by
    rcases hown2.2 with ⟨hv, _⟩ | ⟨g, cap, cur, hv, _⟩
    · exact ⟨_, _, _, hv⟩
    · exact ⟨_, _, _, hv⟩
  clear hcc hown' hown2
  go_wp2
  go_ret
  exact ⟨rfl, wrote (w0 := w) (w := w) hoff HP.out, HB.out⟩

set_option maxHeartbeats 2000000 in
set_option maxRecDepth 100000 in
theorem bldString_calls (b : Nat) (s : RS) (t : List UInt8) (w : World) (h : RustAt b s w) (hlen : s.out.length + t.length ≤ 140737488355328) :
    Calls Tryd.prog 33 #[.pointer (some ⟨b, 3, none⟩), .string (bs t)] w fun e w' => (∃ n, e = .returned (.tuple #[.int .i64 n, .nilIface])) ∧ RustAt b { s with out := s.out ++ t } w' ∧ Fr b w w' := by
  obtain ⟨i0, hi, hz0, hz1, hz2⟩ := info_parts byte_info
  have hoff := h.1
  have hlt := h.lt
  have hz := bs_size t
  have hcc := copyCheck_calls b s w h
  clear h
  go_enter Tryd.func33, Tryd.ntmps33
  go_wp2_with (go_at_call 41; refine hcc.mono ?_)
  rintro e w1 ⟨rfl, ⟨v, h1⟩, hb1⟩
  have c1 := h1.c4
  have hown := h1.2.1
  have hlt1 := h1.lt
  go_wp2_with (at_builtin; refine Lib.wpList_append_own_string _ rfl _ _ 46 9 rfl b 5 i0 Tryd.underlying46 Tryd.underlying9 hi hz0 hz1 hz2 _ _ _ rfl hown (bs t) rfl ?c3 ?c4 ?c5 ?_)
  case c3 => unfold maxLen; omega
  case c4 => omega
  case c5 => omega
  intro v' w2 hown' hgrow _
  have hb2 : w2.heap[b]? = some (.cells (s.cells (.pointer (some ⟨b, 3, none⟩)) v) 63 (0, 0)) := by
    rw [hgrow.block b hlt1 (fun e => h1.2.2 e.symm)]
    exact h1.1
  have d4 : w2.cell? ⟨b, 4, none⟩ = some v := by rw [Lib.cell_of_heap hb2]; rfl
  have f4 : w2.frozen? ⟨b, 4, none⟩ = false := Lib.frozen_of_heap hb2 4
  have hown2 : w2.ownsRow b 5 1 v' (s.out ++ t).length (Lib.byteCells (s.out ++ t)) := by
    have e : Lib.byteCells (s.out ++ t) = Lib.byteCells s.out ++ Lib.strCells (bs t) := by simp [Lib.byteCells, Lib.strCells, bs]
    rw [e, List.length_append, ← hz]
    exact hown'
  have HP := Lib.hid (RustIn.put hb2 hown2)
  have HB := Lib.hid ((hb1.grown hgrow (by omega) (fun k hk => (hown.lt k hk).1) (Lib.ownsRow_kind hown)).setCell (p := ⟨b, 4, none⟩) rfl v')
  obtain ⟨ao, n', cap, rfl⟩ : ∃ ao n' cap, v' = .slice ao n' cap := by
    rcases hown2.2 with ⟨hv, _⟩ | ⟨g, cap, cur, hv, _⟩
    · exact ⟨_, _, _, hv⟩
    · exact ⟨_, _, _, hv⟩
  clear hcc hown' hown2
  go_wp2
  go_ret2
  exact ⟨⟨_, rfl⟩, wrote (w0 := w) (w := w) hoff HP.out, HB.out⟩

/-- What writeByte and writeString leave. -/
def RS.putByte (s : RS) (c : UInt8) : RS :=
  if s.skip then s else if s.mx > 0 ∧ (s.out.length : Int) > s.mx then { s with skip := true } else { s with last := c.toNat, out := s.out ++ [c] }
def RS.putStr (s : RS) (t : List UInt8) : RS :=
  if s.skip then s else if s.mx > 0 ∧ (s.out.length : Int) > s.mx then { s with skip := true } else
    match t.getLast? with
    | none => s
    | some c => { s with last := c.toNat, out := s.out ++ t }

theorem RustAt.setSkip {b : Nat} {s : RS} {w : World} (h : RustAt b s w) (x : Bool) : RustAt b { s with skip := x } (w.setCell ⟨b, 5, none⟩ (.bool x)) := h.set 5 _ (fun _ _ => rfl) rfl h.1
theorem RustAt.setLast {b : Nat} {s : RS} {w : World} (h : RustAt b s w) (x : Int) : RustAt b { s with last := x } (w.setCell ⟨b, 7, none⟩ (.int .u8 x)) := h.set 7 _ (fun _ _ => rfl) rfl h.1
end Go.Proofs.YtaegllbokgjoeaaDoor
