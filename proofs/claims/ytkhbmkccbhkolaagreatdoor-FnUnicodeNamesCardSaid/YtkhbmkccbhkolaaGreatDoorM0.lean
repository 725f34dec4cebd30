/- (*strings.Builder).String, of the builder that lies within a rustState: the bytes that were written. (*strings.Builder)'s writes, of the builder that lies within a rustState. writeByte and writeString of the reader's state. -/
import Derived.Test.YtkhbmkccbhkolaaGreatDoorM1
import Derived.Handy
import Derived.Lib.UnsafeStr
import Derived.RegionTactic
import Derived.Lib.Hide
import Derived.Lib.Walk
import Derived.Lib.AppendStr
import Derived.Deep.QuietTactic
import Derived.BigQuiet
import Derived.IntWalk
namespace Go.Proofs.YtkhbmkccbhkolaaGreatDoor
set_option linter.unusedVariables false
set_option linter.unusedSimpArgs false
open Go.RowKit

theorem Tryz.cells5 : Tryz.prog.cellsOf 5 = 1 := by kernel_rfl
theorem bs_nil : bs [] = ByteArray.empty := rfl

set_option maxHeartbeats 2000000 in
set_option maxRecDepth 100000 in
/-- String: the block of the state stays as it is. -/
theorem string_calls (b : Nat) (s : RS) (w : World) (h : RustAt b s w) :
    Calls Tryz.prog 40 #[.pointer (some ⟨b, 3, none⟩)] w fun e w' => e = .returned (.string (bs s.out)) ∧ w'.heap[b]? = w.heap[b]? ∧ Below b w w' := by
  have hlt := h.lt
  obtain ⟨_, p, v, hbk, _, hown, hne⟩ := h
  have C1 : ∀ {V : Value}, v = V → w.drew.cell? ⟨b, 4, none⟩ = some V := by
    rintro V rfl
    have : w.drew.heap[b]? = some (.cells (s.cells (.pointer p) v) 72 (0, 0)) := hbk
    rw [Lib.cell_of_heap this]; rfl
  rcases hown.2 with ⟨hv, h0⟩ | ⟨g, cap, cur, hv, hbg, hg, hnc, hcm, hcs, htake⟩
  · have c1 := C1 hv
    clear C1
    have ho : s.out = [] := List.length_eq_zero_iff.1 (by simpa using h0)
    rw [ho]
    have hUS : ∀ W : World, (Builtin.unsafeString_ #[94, 3] 9 #[.pointer none, .int .i64 0]).run Tryz.prog W = .ok (.string .empty) W := fun W => Lib.run_unsafeString_none W _ _ _ none
    have hSD : (Builtin.unsafeSliceData_ #[60] 94 #[.slice none 0 0]).run Tryz.prog w.drew = .ok (.pointer none) w.drew := rfl
    clear ho h0 hown hbk
    go_enter Tryz.func40, Tryz.ntmps40
    go_wp2
    go_region
    all_goals (go_wp2; go_ret; exact ⟨rfl, rfl, Below.drew (Below.refl b w)⟩)
  · have c1 := C1 hv
    clear C1
    have hgb : g ≠ b := fun e => hne (by rw [hv, e]; rfl)
    have hUS0 : ∀ (W : World) (q : Option Addr), (Builtin.unsafeString_ #[94, 3] 9 #[.pointer q, .int .i64 0]).run Tryz.prog W = .ok (.string .empty) W := fun W q => Lib.run_unsafeString_none W _ _ _ q
    by_cases ho : s.out = []
    · rw [ho] at c1
      simp only [List.length_nil] at c1
      by_cases hc0 : cap = 0
      · have hcc : cur.size = 0 := by rw [hcs, hc0]
        rw [hc0] at c1
        have hSD : (Builtin.unsafeSliceData_ #[60] 94 #[.slice (some ⟨g, 0, none⟩) 0 0]).run Tryz.prog w.drew = .ok (.pointer (some ⟨w.drew.heap.size, 0, none⟩)) (w.drew.alloc (.view ⟨g, 0, none⟩ 5)) :=
          Lib.run_unsafeSliceData_zero w.drew _ _ 5 Tryz.underlying94 ⟨g, 0, none⟩ 0 (5, cur.size) (by have hg' : w.drew.heap[g]? = some (.cells cur 5 (0, 0)) := hg; simp [World.shape?, hg'])
        have c2 : (w.drew.alloc (.view ⟨g, 0, none⟩ 5)).cell? ⟨b, 4, none⟩ = some (.slice (some ⟨g, 0, none⟩) 0 0) := by
          rw [World.cell?_of_block (w := w.drew) (Lib.alloc_old w.drew _ b hlt)]; exact c1
        have c3 : (w.alloc (.view ⟨g, 0, none⟩ 5)).drew.cell? ⟨b, 4, none⟩ = some (.slice (some ⟨g, 0, none⟩) 0 0) := c2
        have c0 : w.cell? ⟨b, 4, none⟩ = some (.slice (some ⟨g, 0, none⟩) 0 0) := c1
        have hkeep : ∀ o, (w.alloc o).heap[b]? = w.heap[b]? := fun o => Lib.alloc_old w o b hlt
        have HK := Lib.hid hkeep
        rw [ho]
        clear hown hbk hkeep hnc hcm hcs htake hcc hc0 ho hv hg hgb
        go_enter Tryz.func40, Tryz.ntmps40
        go_wp2
        go_region
        all_goals (go_wp2; go_ret; exact ⟨rfl, HK.out _, (Below.drew (Below.refl b w)).alloc (Nat.le_of_lt hlt) _⟩)
      · have hSD : (Builtin.unsafeSliceData_ #[60] 94 #[.slice (some ⟨g, 0, none⟩) 0 cap]).run Tryz.prog w.drew = .ok (.pointer (some ⟨g, 0, none⟩)) w.drew :=
          Lib.run_unsafeSliceData_row _ _ _ _ _ _ hc0
        rw [ho]
        clear hown hbk hnc hcm hcs htake hc0 ho hv hg hgb
        go_enter Tryz.func40, Tryz.ntmps40
        go_wp2
        go_region
        all_goals (go_wp2; go_ret; exact ⟨rfl, rfl, Below.drew (Below.refl b w)⟩)
    · have hl0 : s.out.length ≠ 0 := fun e => ho (List.length_eq_zero_iff.1 e)
      have hSD : (Builtin.unsafeSliceData_ #[60] 94 #[.slice (some ⟨g, 0, none⟩) s.out.length cap]).run Tryz.prog w.drew = .ok (.pointer (some ⟨g, 0, none⟩)) w.drew :=
        Lib.run_unsafeSliceData_row _ _ _ _ _ _ (by omega)
      have hUS : (Builtin.unsafeString_ #[94, 3] 9 #[.pointer (some ⟨g, 0, none⟩), .int .i64 s.out.length]).run Tryz.prog w.drew = .ok (.string (bs s.out)) (w.drew.freeze ⟨g, 0, none⟩ s.out.length) := by
        refine Lib.run_unsafeString_row w.drew 94 3 9 5 Tryz.underlying94 Tryz.cells5 g cur.size (by have hg' : w.drew.heap[g]? = some (.cells cur 5 (0, 0)) := hg; simp [World.shape?, hg']) s.out ho (by omega) (by unfold maxLen at hcm; omega) ?_
        intro j x hx
        have hv2 : v.ownBlock = some g := by rw [hv]; rfl
        have := hown.cells (g := g) hv2 j (.int .u8 x.toNat) (by simp [Lib.byteCells, hx])
        exact this
      have hkeep : (w.drew.freeze ⟨g, 0, none⟩ s.out.length).heap[b]? = w.heap[b]? := by
        unfold World.freeze
        rw [if_neg hl0]
        simp only [Array.getElem?_modify]
        rw [if_neg hgb]; rfl
      have HK := Lib.hid hkeep
      clear hown hbk hkeep hnc hcm hcs htake ho hv hg hgb
      go_enter Tryz.func40, Tryz.ntmps40
      go_wp2
      go_region
      all_goals (go_wp2; go_ret; exact ⟨rfl, HK.out, Lib.below_freeze (Below.drew (Below.refl b w)) (p := ⟨g, 0, none⟩) hbg _⟩)
end Go.Proofs.YtkhbmkccbhkolaaGreatDoor
namespace Go.Proofs.YtkhbmkccbhkolaaGreatDoor
set_option linter.unusedVariables false
set_option linter.unusedSimpArgs false
open Go.RowKit

theorem bld_info : (Tryz.prog.info? 70).map (·.size) = some 2 := by kernel_rfl
theorem byte_info : (Tryz.prog.info? 5).map (fun i => (i.zero, i.size, i.bytes)) = some (some (.int .u8 0), 1, 1) := by kernel_rfl
theorem bld_lies : liesAt Tryz.prog Tryz.prog.depth 72 (10 / Tryz.prog.cellsOf 72) 3 70 1 = true := by kernel_rfl

/-- The state, its builder's two cells told. -/
def RustIn (b : Nat) (s : RS) (p v : Value) (w : World) : Prop :=
  w.heap[b]? = some (.cells (s.cells p v) 72 (0, 0)) ∧ w.ownsRow b 5 1 v s.out.length (Lib.byteCells s.out) ∧ v.ownBlock ≠ some b
theorem RustIn.lt {b : Nat} {s : RS} {p v : Value} {w : World} (h : RustIn b s p v w) : b < w.heap.size := (Array.getElem?_eq_some_iff.1 h.1).1
theorem RustIn.c3 {b : Nat} {s : RS} {p v : Value} {w : World} (h : RustIn b s p v w) : w.cell? ⟨b, 3, none⟩ = some p := by rw [Lib.cell_of_heap h.1]; rfl
theorem RustIn.c4 {b : Nat} {s : RS} {p v : Value} {w : World} (h : RustIn b s p v w) : w.cell? ⟨b, 4, none⟩ = some v := by rw [Lib.cell_of_heap h.1]; rfl
theorem RustIn.shape {b : Nat} {s : RS} {p v : Value} {w : World} (h : RustIn b s p v w) : w.shape? b = some (72, 10) := by simp [World.shape?, h.1, RS.cells]
theorem RustIn.used {b : Nat} {s : RS} {p v : Value} {w : World} (h : RustIn b s p v w) (q : Value) : RustIn b s q v (w.setCell ⟨b, 3, none⟩ q) := by
  obtain ⟨hb, hown, hne⟩ := h
  refine ⟨?_, ?_, hne⟩
  · simp [World.setCell, Array.getElem?_modify, hb]; rfl
  · exact hown.kept (row := some b) ⟨rfl, rfl, rfl, by simp [World.setCell], fun k _ hk => Below.heap_setCell _ _ _ _ (fun e => hk (by simp [e]))⟩ (Or.inr hne)
/-- A new buffer. -/
theorem RustIn.put {b : Nat} {s : RS} {p v v' : Value} {w : World} {out : List UInt8} (hb : w.heap[b]? = some (.cells (s.cells p v) 72 (0, 0))) (hown : w.ownsRow b 5 1 v' out.length (Lib.byteCells out)) :
    RustIn b { s with out := out } p v' (w.setCell ⟨b, 4, none⟩ v') := by
  have hne := Lib.ownBlock_ne hown hb (by decide)
  refine ⟨?_, ?_, hne⟩
  · simp [World.setCell, Array.getElem?_modify, hb]; rfl
  · exact hown.kept (row := some b) ⟨rfl, rfl, rfl, by simp [World.setCell], fun k _ hk => Below.heap_setCell _ _ _ _ (fun e => hk (by simp [e]))⟩ (Or.inr hne)
theorem RustAt.in {b : Nat} {s : RS} {w : World} (h : RustAt b s w) : ∃ p v, RustIn b s (.pointer p) v w ∧ (p = none ∨ p = some ⟨b, 3, none⟩) := by
  obtain ⟨_, p, v, hb, hp, hown, hne⟩ := h
  exact ⟨p, v, ⟨hb, hown, hne⟩, hp⟩

set_option maxHeartbeats 1000000 in
set_option maxRecDepth 100000 in
theorem copyCheck_used (b : Nat) (s : RS) (v : Value) (w : World) (h : RustIn b s (.pointer (some ⟨b, 3, none⟩)) v w) :
    Calls Tryz.prog 74 #[.pointer (some ⟨b, 3, none⟩)] w fun e w' => e = .returned (.tuple #[]) ∧ w' = w := by
  obtain ⟨j, hj, _⟩ := Option.map_eq_some_iff.1 bld_info
  have h0 := h.c3
  clear h
  go_enter Tryz.func74, Tryz.ntmps74
  go_wp2
  rw [Lib.run_neq_ptr_same w _ Tryz.underlying68 hj]
  go_wp2
  go_end0
  exact ⟨rfl, rfl⟩

set_option maxHeartbeats 1000000 in
set_option maxRecDepth 100000 in
theorem copyCheck_fresh (b : Nat) (s : RS) (v : Value) (w : World) (h : RustIn b s (.pointer none) v w) :
    Calls Tryz.prog 74 #[.pointer (some ⟨b, 3, none⟩)] w fun e w' => e = .returned (.tuple #[]) ∧ w' = w.setCell ⟨b, 3, none⟩ (.pointer (some ⟨b, 3, none⟩)) := by
  obtain ⟨j, hj, hjs⟩ := Option.map_eq_some_iff.1 bld_info
  have h0 := h.c3
  have hsh := h.shape
  have hfz : w.frozen? ⟨b, 3, none⟩ = false := Lib.frozen_of_heap h.1 3
  clear h
  go_enter Tryz.func74, Tryz.ntmps74
  go_wp2
  rw [Lib.run_to_unsafe w ⟨b, 3, none⟩ Tryz.underlying68 Tryz.underlying113 hj (by rw [hjs]; decide) hsh (by show 3 < 10; omega)]
  simp only [Result.andThen]
  rw [Oper.upon_value]
  go_wp2
  rw [run_callFunc_extern Tryz.func88 (by kernel_rfl) (by kernel_rfl) (by kernel_rfl) (e := Extern.AbiNoEscape.same) (by kernel_rfl)]
  rw [Lib.run_noEscape]
  simp only [Result.andThen]
  rw [Oper.upon_value]
  go_wp2
  rw [Lib.run_from_unsafe w ⟨b, 3, none⟩ Tryz.underlying113 Tryz.underlying68 hj hsh bld_lies]
  simp only [Result.andThen]
  rw [Oper.upon_value]
  go_wp2
  go_end0
  exact ⟨rfl, rfl⟩

theorem copyCheck_calls (b : Nat) (s : RS) (w : World) (h : RustAt b s w) :
    Calls Tryz.prog 74 #[.pointer (some ⟨b, 3, none⟩)] w fun e w' => e = .returned (.tuple #[]) ∧ (∃ v, RustIn b s (.pointer (some ⟨b, 3, none⟩)) v w') ∧ Fr b w w' := by
  obtain ⟨p, v, hin, rfl | rfl⟩ := h.in
  · refine (copyCheck_fresh b s v w hin).mono ?_
    rintro e w' ⟨rfl, rfl⟩
    exact ⟨rfl, ⟨v, hin.used _⟩, rust_below_set (Fr.refl _ _) _ _⟩
  · refine (copyCheck_used b s v w hin).mono ?_
    rintro e w' ⟨rfl, rfl⟩
    exact ⟨rfl, ⟨v, hin⟩, Fr.refl _ _⟩

set_option maxHeartbeats 1000000 in
set_option maxRecDepth 100000 in
theorem len_calls (b : Nat) (s : RS) (w : World) (h : RustAt b s w) :
    Calls Tryz.prog 56 #[.pointer (some ⟨b, 3, none⟩)] w fun e w' => e = .returned (.int .i64 s.out.length) ∧ w = w' := by
  obtain ⟨p, v, hin, _⟩ := h.in
  obtain ⟨ao, cap, rfl⟩ : ∃ ao cap, v = .slice ao s.out.length cap := by
    rcases hin.2.1.2 with ⟨hv, h0⟩ | ⟨g, cap, cur, hv, _⟩
    · exact ⟨none, 0, by rw [hv, h0]⟩
    · exact ⟨_, _, hv⟩
  have c1 := hin.c4
  clear hin h
  go_enter Tryz.func56, Tryz.ntmps56
  go_wp2
  go_ret
  exact ⟨rfl, rfl⟩

/-- Behind a write: the builder is used, the bytes are more. -/
theorem wrote {b : Nat} {s : RS} {v' : Value} {w0 w w' : World} {out : List UInt8} (hoff : 0 ≤ s.off ∧ s.off + s.str.length ≤ 4611686018427387904) (h : RustIn b { s with out := out } (.pointer (some ⟨b, 3, none⟩)) v' w') : RustAt b { s with out := out } w' :=
  ⟨hoff, some ⟨b, 3, none⟩, v', h.1, .inr rfl, h.2.1, h.2.2⟩

set_option maxHeartbeats 2000000 in
set_option maxRecDepth 100000 in
theorem bldByte_calls (b : Nat) (s : RS) (c : UInt8) (w : World) (h : RustAt b s w) (hlen : s.out.length + 1 ≤ 140737488355328) :
    Calls Tryz.prog 58 #[.pointer (some ⟨b, 3, none⟩), .int .u8 c.toNat] w fun e w' => e = .returned .nilIface ∧ RustAt b { s with out := s.out ++ [c] } w' ∧ Fr b w w' := by
  obtain ⟨i0, hi, hz0, hz1, hz2⟩ := info_parts byte_info
  have hoff := h.1
  have hlt := h.lt
  have hcc := copyCheck_calls b s w h
  clear h
  go_enter Tryz.func58, Tryz.ntmps58
  go_wp2_with (go_at_call 74; refine hcc.mono ?_)
  rintro e w1 ⟨rfl, ⟨v, h1⟩, hb1⟩
  have c1 := h1.c4
  have hown := h1.2.1
  have hlt1 := h1.lt
  go_wp2_with (at_builtin; refine wpList_append_own _ rfl _ _ 60 rfl b 5 i0 (.int .u8 0) 1 1 Tryz.underlying60 hi hz0 hz1 hz2 rfl (by decide) _ _ _ rfl (hown.alloc _) ⟨w1.heap.size, 0, none⟩ 1 1 [.int .u8 c.toNat] rfl rfl ?c1 ?c2 ?c3 ?c4 ?c5 ?_)
  case c1 =>
    intro j u hj
    match j, hj with
    | 0, hj => simp at hj; subst hj; simp [Addr.add]
  case c2 => intro u hu; simp at hu; subst hu; rfl
  case c3 => unfold maxLen; omega
  case c4 => omega
  case c5 => simp; omega
  intro v' w2 hown' hgrow _
  have hb2 : w2.heap[b]? = some (.cells (s.cells (.pointer (some ⟨b, 3, none⟩)) v) 72 (0, 0)) := by
    rw [hgrow.block b (by simp; omega) (fun e => h1.2.2 e.symm), Lib.alloc_old w1 _ b hlt1]
    exact h1.1
  have d4 : w2.cell? ⟨b, 4, none⟩ = some v := by rw [Lib.cell_of_heap hb2]; rfl
  have f4 : w2.frozen? ⟨b, 4, none⟩ = false := Lib.frozen_of_heap hb2 4
  have hown2 : w2.ownsRow b 5 1 v' (s.out ++ [c]).length (Lib.byteCells (s.out ++ [c])) := by simpa [Lib.byteCells] using hown'
  have HP := Lib.hid (RustIn.put hb2 hown2)
  have HB := Lib.hid (((hb1.alloc (by omega) _).grown hgrow (by simp; omega) (fun k hk => (hown.lt k hk).1) (fun g hg => by obtain ⟨c, fz, hc⟩ := Lib.ownsRow_kind hown g hg; exact ⟨c, fz, (Lib.alloc_old w1 _ g (Array.getElem?_eq_some_iff.1 hc).1).trans hc⟩)).setCell (p := ⟨b, 4, none⟩) rfl v')
  obtain ⟨ao, n', cap, rfl⟩ : ∃ ao n' cap, v' = .slice ao n' cap := by
    rcases hown2.2 with ⟨hv, _⟩ | ⟨g, cap, cur, hv, _⟩
    · exact ⟨_, _, _, hv⟩
    · exact ⟨_, _, _, hv⟩
  clear hcc hown' hown2
  go_wp2
  go_ret
  exact ⟨rfl, wrote (w0 := w) (w := w) hoff HP.out, HB.out⟩

set_option maxHeartbeats 2000000 in
set_option maxRecDepth 100000 in
theorem bldString_calls (b : Nat) (s : RS) (t : List UInt8) (w : World) (h : RustAt b s w) (hlen : s.out.length + t.length ≤ 140737488355328) :
    Calls Tryz.prog 57 #[.pointer (some ⟨b, 3, none⟩), .string (bs t)] w fun e w' => (∃ n, e = .returned (.tuple #[.int .i64 n, .nilIface])) ∧ RustAt b { s with out := s.out ++ t } w' ∧ Fr b w w' := by
  obtain ⟨i0, hi, hz0, hz1, hz2⟩ := info_parts byte_info
  have hoff := h.1
  have hlt := h.lt
  have hz := bs_size t
  have hcc := copyCheck_calls b s w h
  clear h
  go_enter Tryz.func57, Tryz.ntmps57
  go_wp2_with (go_at_call 74; refine hcc.mono ?_)
  rintro e w1 ⟨rfl, ⟨v, h1⟩, hb1⟩
  have c1 := h1.c4
  have hown := h1.2.1
  have hlt1 := h1.lt
  go_wp2_with (at_builtin; refine Lib.wpList_append_own_string _ rfl _ _ 60 9 rfl b 5 i0 Tryz.underlying60 Tryz.underlying9 hi hz0 hz1 hz2 _ _ _ rfl hown (bs t) rfl ?c3 ?c4 ?c5 ?_)
  case c3 => unfold maxLen; omega
  case c4 => omega
  case c5 => omega
  intro v' w2 hown' hgrow _
  have hb2 : w2.heap[b]? = some (.cells (s.cells (.pointer (some ⟨b, 3, none⟩)) v) 72 (0, 0)) := by
    rw [hgrow.block b hlt1 (fun e => h1.2.2 e.symm)]
    exact h1.1
  have d4 : w2.cell? ⟨b, 4, none⟩ = some v := by rw [Lib.cell_of_heap hb2]; rfl
  have f4 : w2.frozen? ⟨b, 4, none⟩ = false := Lib.frozen_of_heap hb2 4
  have hown2 : w2.ownsRow b 5 1 v' (s.out ++ t).length (Lib.byteCells (s.out ++ t)) := by
    have e : Lib.byteCells (s.out ++ t) = Lib.byteCells s.out ++ Lib.strCells (bs t) := by simp [Lib.byteCells, Lib.strCells, bs]
    rw [e, List.length_append, ← hz]
    exact hown'
  have HP := Lib.hid (RustIn.put hb2 hown2)
  have HB := Lib.hid ((hb1.grown hgrow (by omega) (fun k hk => (hown.lt k hk).1) (Lib.ownsRow_kind hown)).setCell (p := ⟨b, 4, none⟩) rfl v')
  obtain ⟨ao, n', cap, rfl⟩ : ∃ ao n' cap, v' = .slice ao n' cap := by
    rcases hown2.2 with ⟨hv, _⟩ | ⟨g, cap, cur, hv, _⟩
    · exact ⟨_, _, _, hv⟩
    · exact ⟨_, _, _, hv⟩
  clear hcc hown' hown2
  go_wp2
  go_ret2
  exact ⟨⟨_, rfl⟩, wrote (w0 := w) (w := w) hoff HP.out, HB.out⟩

/-- What writeByte and writeString leave. -/
def RS.putByte (s : RS) (c : UInt8) : RS :=
  if s.skip then s else if s.mx > 0 ∧ (s.out.length : Int) > s.mx then { s with skip := true } else { s with last := c.toNat, out := s.out ++ [c] }
def RS.putStr (s : RS) (t : List UInt8) : RS :=
  if s.skip then s else if s.mx > 0 ∧ (s.out.length : Int) > s.mx then { s with skip := true } else
    match t.getLast? with
    | none => s
    | some c => { s with last := c.toNat, out := s.out ++ t }

theorem RustAt.setSkip {b : Nat} {s : RS} {w : World} (h : RustAt b s w) (x : Bool) : RustAt b { s with skip := x } (w.setCell ⟨b, 5, none⟩ (.bool x)) := h.set 5 _ (fun _ _ => rfl) rfl h.1
theorem RustAt.setLast {b : Nat} {s : RS} {w : World} (h : RustAt b s w) (x : Int) : RustAt b { s with last := x } (w.setCell ⟨b, 7, none⟩ (.int .u8 x)) := h.set 7 _ (fun _ _ => rfl) rfl h.1
end Go.Proofs.YtkhbmkccbhkolaaGreatDoor
namespace Go.Proofs.YtkhbmkccbhkolaaGreatDoor
set_option linter.unusedVariables false
set_option linter.unusedSimpArgs false
open Go.RowKit

theorem bs_last (u : List UInt8) (c : UInt8) (h : u.length < (bs (u ++ [c])).size) : (bs (u ++ [c]))[u.length]'h = c := by
  have : (u ++ [c]).toArray[u.length]? = some c := by simp
  have e : ((bs (u ++ [c])).data)[u.length]? = some c := this
  exact (Array.getElem?_eq_some_iff.1 e).2
theorem heap_drewN (w : World) (n : Nat) : (w.drewN n).heap = w.heap := by
  induction n with
  | zero => rfl
  | succ n ih => first | exact ih | rfl | simp_all [World.drewN]
theorem RustAt.drewN {b : Nat} {s : RS} {w : World} (h : RustAt b s w) (n : Nat) : RustAt b s (w.drewN n) := by
  obtain ⟨hoff, p, v, hb, hp, hown, hne⟩ := h
  refine ⟨hoff, p, v, by rw [heap_drewN]; exact hb, hp, ?_, hne⟩
  unfold World.ownsRow at hown ⊢
  rw [heap_drewN]
  exact hown
theorem len_quiet (b : Nat) (s : RS) (w : World) (h : RustAt b s w) :
    Calls Tryz.prog 56 #[.pointer (some ⟨b, 3, none⟩)] w fun e w' => e = .returned (.int .i64 s.out.length) ∧ w' = w :=
  (len_calls b s w h).mono fun e w' ⟨a, c⟩ => ⟨a, c.symm⟩
theorem below_drewN {b : Nat} {w : World} (n : Nat) : Fr b w (w.drewN n) := by
  induction n with
  | zero => exact Fr.refl b w
  | succ n ih => exact ih.drew

set_option maxHeartbeats 2000000 in
set_option maxRecDepth 100000 in
theorem writeByte_calls (b : Nat) (s : RS) (c : UInt8) (w : World) (h : RustAt b s w) (hlen : s.out.length + 1 ≤ 140737488355328) :
    Calls Tryz.prog 39 #[.pointer (some ⟨b, 0, none⟩), .int .u8 c.toNat] w fun e w' => e = .returned (.tuple #[]) ∧ RustAt b (s.putByte c) w' ∧ Fr b w w' := by
  have h5 := h.c5
  have h9 := h.c9
  have H := Lib.hid h
  cases hs : s.skip with
  | true =>
    have hp : s.putByte c = s := by unfold RS.putByte; rw [hs]; rfl
    rw [hs] at h5
    rw [hp]
    go_enter Tryz.func39, Tryz.ntmps39
    go_wp2_with fail
    ((try simp only [Exit.inBlock, Exit.then]); refine bodyPost_ret (results_none rfl _ _ _) rfl ?_)
    exact ⟨rfl, H.out, Fr.refl _ _⟩
  | false =>
    rw [hs] at h5
    have hb : ∀ (n : Nat) (s2 : RS), s.putByte c = s2 → s2 = { s with last := c.toNat, out := s.out ++ [c] } →
        Calls Tryz.prog 58 #[.pointer (some ⟨b, 3, none⟩), .int .u8 c.toNat] ((w.drewN n).setCell ⟨b, 7, none⟩ (.int .u8 c.toNat)) fun e w' => e = .returned .nilIface ∧ RustAt b (s.putByte c) w' ∧ Fr b w w' := by
      intro n s2 e1 e2
      have hl : RustAt b { s with last := c.toNat } ((w.drewN n).setCell ⟨b, 7, none⟩ (.int .u8 c.toNat)) := (h.drewN n).setLast _
      refine (bldByte_calls b { s with last := c.toNat } c _ hl hlen).mono ?_
      rintro e w' ⟨rfl, hr, hbl⟩
      exact ⟨rfl, by rw [e1, e2]; exact hr, ((below_drewN n).setCell (p := ⟨b, 7, none⟩) rfl _).trans hbl⟩
    have f5 : ∀ n, (w.drewN n).frozen? ⟨b, 5, none⟩ = false := fun n => (h.drewN n).frozen 5
    have f7 : ∀ n, (w.drewN n).frozen? ⟨b, 7, none⟩ = false := fun n => (h.drewN n).frozen 7
    have d5 : ∀ n, (w.drewN n).cell? ⟨b, 5, none⟩ = some (.bool false) := fun n => by have := (h.drewN n).c5; rw [hs] at this; exact this
    have d7 : ∀ n, (w.drewN n).cell? ⟨b, 7, none⟩ = some (.int .u8 s.last) := fun n => (h.drewN n).c7
    by_cases h0 : 0 < s.mx
    · by_cases h1 : s.mx < (s.out.length : Int)
      · have hp : s.putByte c = { s with skip := true } := by unfold RS.putByte; rw [hs, if_neg (by simp), if_pos ⟨h0, h1⟩]
        have HB := Lib.hid hb
        clear hb h
        go_enter Tryz.func39, Tryz.ntmps39
        go_wp2_with fail
        go_quiet ((go_at_call 56; exact Calls.quiet_of_same (len_quiet b s _ H.out)))
        go_wp2_with fail
        ((try simp only [Exit.inBlock, Exit.then]); refine bodyPost_ret (results_none rfl _ _ _) rfl ?_)
        rw [hp]
        exact ⟨rfl, (H.out.drewN _).setSkip true, (below_drewN _).setCell (p := ⟨b, 5, none⟩) rfl _⟩
      · have hp : s.putByte c = { s with last := c.toNat, out := s.out ++ [c] } := by unfold RS.putByte; rw [hs, if_neg (by simp), if_neg (fun z => h1 z.2)]
        have HB := Lib.hid (fun n => hb n _ hp rfl)
        clear hb h
        go_enter Tryz.func39, Tryz.ntmps39
        go_wp2_with fail
        go_quiet ((go_at_call 56; exact Calls.quiet_of_same (len_quiet b s _ H.out)))
        go_wp2_with fail
        refine (HB.out _).mono ?_
        rintro e w' ⟨rfl, hr, hbl⟩
        go_wp2_with fail
        go_end0
        exact ⟨rfl, hr, hbl⟩
    · have hp : s.putByte c = { s with last := c.toNat, out := s.out ++ [c] } := by unfold RS.putByte; rw [hs, if_neg (by simp), if_neg (fun z => h0 z.1)]
      have hd : decide (0 < s.mx) = false := decide_eq_false h0
      have HB := Lib.hid (fun n => hb n _ hp rfl)
      clear hb h
      go_enter Tryz.func39, Tryz.ntmps39
      go_wp2_with fail
      go_quiet (fail)
      go_wp2_with fail
      refine (HB.out _).mono ?_
      rintro e w' ⟨rfl, hr, hbl⟩
      go_wp2_with fail
      go_end0
      exact ⟨rfl, hr, hbl⟩
set_option maxHeartbeats 2000000 in
set_option maxRecDepth 100000 in
theorem writeStr_some (b : Nat) (s : RS) (u : List UInt8) (c : UInt8) (w : World) (h : RustAt b s w) (hlen : s.out.length + (u ++ [c]).length ≤ 140737488355328) :
    Calls Tryz.prog 38 #[.pointer (some ⟨b, 0, none⟩), .string (bs (u ++ [c]))] w fun e w' => e = .returned (.tuple #[]) ∧ RustAt b (s.putStr (u ++ [c])) w' ∧ Fr b w w' := by
  have h5 := h.c5
  have h9 := h.c9
  have H := Lib.hid h
  have hz : (bs (u ++ [c])).size = u.length + 1 := by rw [bs_size, List.length_append, List.length_singleton]
  have hat : ∀ h : u.length < (bs (u ++ [c])).size, (bs (u ++ [c]))[u.length]'h = c := fun h => bs_last u c h
  have hw : wrap64 (u.length : Int) = (u.length : Int) := by
    rw [List.length_append, List.length_singleton] at hlen
    unfold wrap64; omega
  cases hs : s.skip with
  | true =>
    have hp : s.putStr (u ++ [c]) = s := by unfold RS.putStr; rw [hs]; rfl
    rw [hs] at h5
    rw [hp]
    go_enter Tryz.func38, Tryz.ntmps38
    go_wp2_with fail
    ((try simp only [Exit.inBlock, Exit.then]); refine bodyPost_ret (results_none rfl _ _ _) rfl ?_)
    exact ⟨rfl, H.out, Fr.refl _ _⟩
  | false =>
    rw [hs] at h5
    have hb : ∀ (n : Nat) (s2 : RS), s.putStr (u ++ [c]) = s2 → s2 = { s with last := c.toNat, out := s.out ++ (u ++ [c]) } →
        Calls Tryz.prog 57 #[.pointer (some ⟨b, 3, none⟩), .string (bs (u ++ [c]))] ((w.drewN n).setCell ⟨b, 7, none⟩ (.int .u8 c.toNat)) fun e w' => (∃ n, e = .returned (.tuple #[.int .i64 n, .nilIface])) ∧ RustAt b (s.putStr (u ++ [c])) w' ∧ Fr b w w' := by
      intro n s2 e1 e2
      have hl : RustAt b { s with last := c.toNat } ((w.drewN n).setCell ⟨b, 7, none⟩ (.int .u8 c.toNat)) := (h.drewN n).setLast _
      refine (bldString_calls b { s with last := c.toNat } (u ++ [c]) _ hl hlen).mono ?_
      rintro e w' ⟨he, hr, hbl⟩
      exact ⟨he, by rw [e1, e2]; exact hr, ((below_drewN n).setCell (p := ⟨b, 7, none⟩) rfl _).trans hbl⟩
    have f5 : ∀ n, (w.drewN n).frozen? ⟨b, 5, none⟩ = false := fun n => (h.drewN n).frozen 5
    have f7 : ∀ n, (w.drewN n).frozen? ⟨b, 7, none⟩ = false := fun n => (h.drewN n).frozen 7
    have d5 : ∀ n, (w.drewN n).cell? ⟨b, 5, none⟩ = some (.bool false) := fun n => by have := (h.drewN n).c5; rw [hs] at this; exact this
    have d7 : ∀ n, (w.drewN n).cell? ⟨b, 7, none⟩ = some (.int .u8 s.last) := fun n => (h.drewN n).c7
    by_cases h0 : 0 < s.mx
    · by_cases h1 : s.mx < (s.out.length : Int)
      · have hp : s.putStr (u ++ [c]) = { s with skip := true } := by unfold RS.putStr; rw [hs, if_neg (by simp), if_pos ⟨h0, h1⟩]
        have HB := Lib.hid hb
        clear hb h
        go_enter Tryz.func38, Tryz.ntmps38
        go_wp2_with fail
        go_quiet ((go_at_call 56; exact Calls.quiet_of_same (len_quiet b s _ H.out)))
        go_wp2_with fail
        ((try simp only [Exit.inBlock, Exit.then]); refine bodyPost_ret (results_none rfl _ _ _) rfl ?_)
        rw [hp]
        exact ⟨rfl, (H.out.drewN _).setSkip true, (below_drewN _).setCell (p := ⟨b, 5, none⟩) rfl _⟩
      · have hp : s.putStr (u ++ [c]) = { s with last := c.toNat, out := s.out ++ (u ++ [c]) } := by unfold RS.putStr; rw [hs, if_neg (by simp), if_neg (fun z => h1 z.2), List.getLast?_concat]
        have HB := Lib.hid (fun n => hb n _ hp rfl)
        clear hb h
        go_enter Tryz.func38, Tryz.ntmps38
        go_wp2_with fail
        go_quiet ((go_at_call 56; exact Calls.quiet_of_same (len_quiet b s _ H.out)))
        go_wp2_with fail
        refine (HB.out _).mono ?_
        rintro e w' ⟨⟨n, rfl⟩, hr, hbl⟩
        go_wp2_with fail
        go_end0
        exact ⟨rfl, hr, hbl⟩
    · have hp : s.putStr (u ++ [c]) = { s with last := c.toNat, out := s.out ++ (u ++ [c]) } := by unfold RS.putStr; rw [hs, if_neg (by simp), if_neg (fun z => h0 z.1), List.getLast?_concat]
      have hd : decide (0 < s.mx) = false := decide_eq_false h0
      have HB := Lib.hid (fun n => hb n _ hp rfl)
      clear hb h
      go_enter Tryz.func38, Tryz.ntmps38
      go_wp2_with fail
      go_quiet (fail)
      go_wp2_with fail
      refine (HB.out _).mono ?_
      rintro e w' ⟨⟨n, rfl⟩, hr, hbl⟩
      go_wp2_with fail
      go_end0
      exact ⟨rfl, hr, hbl⟩

set_option maxHeartbeats 2000000 in
set_option maxRecDepth 100000 in
theorem writeStr_none (b : Nat) (s : RS) (w : World) (h : RustAt b s w) :
    Calls Tryz.prog 38 #[.pointer (some ⟨b, 0, none⟩), .string (bs [])] w fun e w' => e = .returned (.tuple #[]) ∧ RustAt b (s.putStr []) w' ∧ Fr b w w' := by
  have h5 := h.c5
  have h9 := h.c9
  have H := Lib.hid h
  have hz : (bs []).size = 0 := rfl
  cases hs : s.skip with
  | true =>
    have hp : s.putStr [] = s := by unfold RS.putStr; rw [hs]; rfl
    rw [hs] at h5
    rw [hp]
    go_enter Tryz.func38, Tryz.ntmps38
    go_wp2_with fail
    ((try simp only [Exit.inBlock, Exit.then]); refine bodyPost_ret (results_none rfl _ _ _) rfl ?_)
    exact ⟨rfl, H.out, Fr.refl _ _⟩
  | false =>
    rw [hs] at h5
    have f5 : ∀ n, (w.drewN n).frozen? ⟨b, 5, none⟩ = false := fun n => (h.drewN n).frozen 5
    have d5 : ∀ n, (w.drewN n).cell? ⟨b, 5, none⟩ = some (.bool false) := fun n => by have := (h.drewN n).c5; rw [hs] at this; exact this
    by_cases h0 : 0 < s.mx
    · by_cases h1 : s.mx < (s.out.length : Int)
      · have hp : s.putStr [] = { s with skip := true } := by unfold RS.putStr; rw [hs, if_neg (by simp), if_pos ⟨h0, h1⟩]
        clear h
        go_enter Tryz.func38, Tryz.ntmps38
        go_wp2_with fail
        go_quiet ((go_at_call 56; exact Calls.quiet_of_same (len_quiet b s _ H.out)))
        go_wp2_with fail
        ((try simp only [Exit.inBlock, Exit.then]); refine bodyPost_ret (results_none rfl _ _ _) rfl ?_)
        rw [hp]
        exact ⟨rfl, (H.out.drewN _).setSkip true, (below_drewN _).setCell (p := ⟨b, 5, none⟩) rfl _⟩
      · have hp : s.putStr [] = s := by unfold RS.putStr; rw [hs, if_neg (by simp), if_neg (fun z => h1 z.2)]; rfl
        clear h
        go_enter Tryz.func38, Tryz.ntmps38
        go_wp2_with fail
        go_quiet ((go_at_call 56; exact Calls.quiet_of_same (len_quiet b s _ H.out)))
        go_wp2_with fail
        go_end0
        rw [hp]
        exact ⟨rfl, H.out.drewN _, below_drewN _⟩
    · have hp : s.putStr [] = s := by unfold RS.putStr; rw [hs, if_neg (by simp), if_neg (fun z => h0 z.1)]; rfl
      have hd : decide (0 < s.mx) = false := decide_eq_false h0
      clear h
      go_enter Tryz.func38, Tryz.ntmps38
      go_wp2_with fail
      go_quiet (fail)
      go_wp2_with fail
      go_end0
      rw [hp]
      exact ⟨rfl, H.out.drewN _, below_drewN _⟩

theorem writeStr_calls (b : Nat) (s : RS) (t : List UInt8) (w : World) (h : RustAt b s w) (hlen : s.out.length + t.length ≤ 140737488355328) :
    Calls Tryz.prog 38 #[.pointer (some ⟨b, 0, none⟩), .string (bs t)] w fun e w' => e = .returned (.tuple #[]) ∧ RustAt b (s.putStr t) w' ∧ Fr b w w' := by
  rcases List.eq_nil_or_concat t with rfl | ⟨u, c, rfl⟩
  · exact writeStr_none b s w h
  · rw [List.concat_eq_append] at hlen ⊢
    exact writeStr_some b s u c w h hlen
end Go.Proofs.YtkhbmkccbhkolaaGreatDoor
