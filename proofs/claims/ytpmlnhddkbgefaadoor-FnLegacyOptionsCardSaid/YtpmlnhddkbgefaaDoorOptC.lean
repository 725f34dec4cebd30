/- The options that come in, as the printed walks read them. -/
import Derived.Test.YtpmlnhddkbgefaaDoorProg
import Derived.Lib.SmallJoins
import Derived.ProofKit
import Derived.ChangeOld
namespace Go.Proofs.YtpmlnhddkbgefaaDoor
set_option linter.unusedVariables false
set_option linter.unusedSimpArgs false
open Go.RowKit
open Go.ChangeShapes Go.WideShapes Go.ChangeAt

theorem array8 {α : Type} {cs : Array α} (h : cs.size = 8) : ∃ c0 c1 c2 c3 c4 c5 c6 c7, cs = #[c0, c1, c2, c3, c4, c5, c6, c7] := by
  obtain ⟨l⟩ := cs
  match l, h with
  | [c0, c1, c2, c3, c4, c5, c6, c7], _ => exact ⟨c0, c1, c2, c3, c4, c5, c6, c7, rfl⟩
theorem opt_cells : Tryd.prog.cellsOf 67 = 8 := by kernel_rfl
theorem opt_cb : Tryd.prog.cellsOf 4 = 1 := by kernel_rfl
theorem opt_ci : Tryd.prog.cellsOf 3 = 1 := by kernel_rfl
set_option maxRecDepth 100000 in
theorem optsC {H : Type} {enc : TypeId × Value → H} {W : World} {r : Reach} {base b1 : Nat} {v : Value} {d : DataW H} {ps : List MemPlace}
    (hv : Value.okWide Tryd.prog W r b1 67 v) (h : DataW.Trod enc Tryd.prog W base (fun _ => true) true 67 v d ps) :
    ∃ (o0 o1 o2 o3 o4 o5 o6 : Bool) (x : Int), v = .agg #[.bool o0, .bool o1, .bool o2, .bool o3, .bool o4, .bool o5, .bool o6, .int .i64 x] := by
  obtain ⟨cs, rfl, hsz⟩ := okWide_struct Tryd.underlying67 hv
  obtain ⟨c0, c1, c2, c3, c4, c5, c6, c7, rfl⟩ := array8 (hsz.trans opt_cells)
  obtain ⟨fuel, hf⟩ := h
  have hf : DataW.trod enc Tryd.prog W base (fun _ => true) true fuel 67 [c0, c1, c2, c3, c4, c5, c6, c7] = some (d, ps) := hf
  obtain ⟨xs, n, _, _, hl, hlen, hff⟩ := DataW.trod_struct Tryd.underlying67 hf
  have hl8 : xs.length = 8 := hlen
  have e0 := List.getElem?_eq_getElem (show 0 < xs.length by omega)
  have e1 := List.getElem?_eq_getElem (show 1 < xs.length by omega)
  have e2 := List.getElem?_eq_getElem (show 2 < xs.length by omega)
  have e3 := List.getElem?_eq_getElem (show 3 < xs.length by omega)
  have e4 := List.getElem?_eq_getElem (show 4 < xs.length by omega)
  have e5 := List.getElem?_eq_getElem (show 5 < xs.length by omega)
  have e6 := List.getElem?_eq_getElem (show 6 < xs.length by omega)
  have e7 := List.getElem?_eq_getElem (show 7 < xs.length by omega)
  obtain ⟨b0, h0, _⟩ := DataW.trod_bool Tryd.underlying4 ((hff 0 _ rfl).trans e0)
  obtain ⟨b1, h1, _⟩ := DataW.trod_bool Tryd.underlying4 ((hff 1 _ rfl).trans e1)
  obtain ⟨b2, h2, _⟩ := DataW.trod_bool Tryd.underlying4 ((hff 2 _ rfl).trans e2)
  obtain ⟨b3, h3, _⟩ := DataW.trod_bool Tryd.underlying4 ((hff 3 _ rfl).trans e3)
  obtain ⟨b4, h4, _⟩ := DataW.trod_bool Tryd.underlying4 ((hff 4 _ rfl).trans e4)
  obtain ⟨b5, h5, _⟩ := DataW.trod_bool Tryd.underlying4 ((hff 5 _ rfl).trans e5)
  obtain ⟨b6, h6, _⟩ := DataW.trod_bool Tryd.underlying4 ((hff 6 _ rfl).trans e6)
  obtain ⟨x7, h7, _⟩ := DataW.trod_int Tryd.underlying3 ((hff 7 _ rfl).trans e7)
  have h0 : List.take (Tryd.prog.cellsOf 4) (List.drop 0 [c0, c1, c2, c3, c4, c5, c6, c7]) = [.bool b0] := h0
  rw [opt_cb] at h0
  have g0 : c0 = .bool b0 := List.cons.inj h0 |>.1
  have h1 : List.take (Tryd.prog.cellsOf 4) (List.drop 1 [c0, c1, c2, c3, c4, c5, c6, c7]) = [.bool b1] := h1
  rw [opt_cb] at h1
  have g1 : c1 = .bool b1 := List.cons.inj h1 |>.1
  have h2 : List.take (Tryd.prog.cellsOf 4) (List.drop 2 [c0, c1, c2, c3, c4, c5, c6, c7]) = [.bool b2] := h2
  rw [opt_cb] at h2
  have g2 : c2 = .bool b2 := List.cons.inj h2 |>.1
  have h3 : List.take (Tryd.prog.cellsOf 4) (List.drop 3 [c0, c1, c2, c3, c4, c5, c6, c7]) = [.bool b3] := h3
  rw [opt_cb] at h3
  have g3 : c3 = .bool b3 := List.cons.inj h3 |>.1
  have h4 : List.take (Tryd.prog.cellsOf 4) (List.drop 4 [c0, c1, c2, c3, c4, c5, c6, c7]) = [.bool b4] := h4
  rw [opt_cb] at h4
  have g4 : c4 = .bool b4 := List.cons.inj h4 |>.1
  have h5 : List.take (Tryd.prog.cellsOf 4) (List.drop 5 [c0, c1, c2, c3, c4, c5, c6, c7]) = [.bool b5] := h5
  rw [opt_cb] at h5
  have g5 : c5 = .bool b5 := List.cons.inj h5 |>.1
  have h6 : List.take (Tryd.prog.cellsOf 4) (List.drop 6 [c0, c1, c2, c3, c4, c5, c6, c7]) = [.bool b6] := h6
  rw [opt_cb] at h6
  have g6 : c6 = .bool b6 := List.cons.inj h6 |>.1
  have h7 : List.take (Tryd.prog.cellsOf 3) (List.drop 7 [c0, c1, c2, c3, c4, c5, c6, c7]) = [.int .i64 x7] := h7
  rw [opt_ci] at h7
  have g7 : c7 = .int .i64 x7 := List.cons.inj h7 |>.1
  exact ⟨b0, b1, b2, b3, b4, b5, b6, x7, by rw [g0, g1, g2, g3, g4, g5, g6, g7]⟩
end Go.Proofs.YtpmlnhddkbgefaaDoor
