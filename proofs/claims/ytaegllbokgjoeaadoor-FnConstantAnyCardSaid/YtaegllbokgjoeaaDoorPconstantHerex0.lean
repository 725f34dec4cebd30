/- Written by a program of this session (wip/tools/myprint.py) with the kit's print: contracts of the functions that one statement reaches; functions that are proved by hand are taken as printed. Conditions: none. -/
import Derived.Test.YtaegllbokgjoeaaDoorProg
import Derived.Below
import Derived.Deep.Draws
import Derived.Deep.AppendLies
import Derived.Maps.AppendAt
import Derived.OwnWalk
import Derived.Laws.BytesArg
import Derived.Laws.MakeOwn
import Derived.Laws.OwnMore
import Derived.Deep.OwnRows
import Derived.Tactics
import Derived.Lib.ConvBytes
import Derived.Laws.Slices
import Derived.WalkKit
import Derived.KernelRfl
import Derived.RowKit3
import Derived.Deep.LoopGhost
import Derived.Deep.QuietTactic
import Derived.BigQuiet
import Derived.WideLaws
import Derived.Deep.DeepCutAuto
import Derived.Deep.CutBlock
import Derived.Deep.RegionHeld3
import Derived.Laws.Rows
import Derived.Lib.AppendStr
import Derived.ArgAppend
import Derived.Laws.IdiomCopy
import Derived.OrdersHeld
import Derived.Laws.BitsLemmas
import Derived.RowKit
import Derived.Test.YtaegllbokgjoeaaDoorWWords
import Derived.Test.YtaegllbokgjoeaaDoorWLast
import Derived.Test.YtaegllbokgjoeaaDoorWTab
import Derived.Test.YtaegllbokgjoeaaDoorWFour
import Derived.Test.YtaegllbokgjoeaaDoorWQPut
import Derived.Test.YtaegllbokgjoeaaDoorWApart
import Derived.Test.YtaegllbokgjoeaaDoorWArr
import Derived.Test.YtaegllbokgjoeaaDoorWZeros
import Derived.Test.YtaegllbokgjoeaaDoorWFoot
import Derived.Test.YtaegllbokgjoeaaDoorWKept
import Derived.Test.YtaegllbokgjoeaaDoorWShare
import Derived.Test.YtaegllbokgjoeaaDoorWN
import Derived.Test.YtaegllbokgjoeaaDoorWFootNe
import Derived.Test.YtaegllbokgjoeaaDoorWAt
import Derived.Test.YtaegllbokgjoeaaDoorWEqStruct
import Derived.Test.YtaegllbokgjoeaaDoorWRepsOne
import Derived.Test.YtaegllbokgjoeaaDoorWInv
import Derived.Test.YtaegllbokgjoeaaDoorWInvWords
import Derived.Test.YtaegllbokgjoeaaDoorWGuard
import Derived.Test.YtaegllbokgjoeaaDoorWNEv
import Derived.Test.YtaegllbokgjoeaaDoorWMore
import Derived.Test.YtaegllbokgjoeaaDoorWSized
namespace Go.Proofs.YtaegllbokgjoeaaDoor.PconstantHere
open Go.RowKit Go.Proofs.YtaegllbokgjoeaaDoorW.PrintWords Go.Proofs.YtaegllbokgjoeaaDoorW.PrintLast Go.Proofs.YtaegllbokgjoeaaDoorW.PrintMore
attribute [local go_sem] max2_int min2_int max_two min_two max_three min_three max_four min_four   -- for this text's walks alone
set_option linter.unusedVariables false
set_option linter.unusedSimpArgs false



def errW : Option Int → Value
  | none => .nilIface
  | some c => .iface 0 (.int .i64 c)
theorem errW_none : errW none = .nilIface := rfl
theorem errW_some (c : Int) : errW (some c) = .iface 0 (.int .i64 c) := rfl

theorem info5 : (Tryd.prog.info? 5).map (fun i => (i.zero, i.size, i.bytes)) = some (some (.int .u8 0), 1, 1) := by kernel_rfl
-- the values' own types
/-! #### struct type 25, nested in itself -/
structure S25 where
  f0 : Int
  f1 : Int
  f2 : ByteArray
  f3 : Int
  f4 : Bool
  f5 : (List S25)
def z25 : S25 := ⟨(0 : Int), (0 : Int), (⟨#[]⟩ : ByteArray), (0 : Int), false, ([] : List S25)⟩
def F25 (d : Kd S25) : Kd S25 := Kd.iso (Kd.pair (Kd.int .i64) (Kd.pair (Kd.int .u8) (Kd.pair Kd.string (Kd.pair (Kd.int .u64) (Kd.pair Kd.bool (Kd.slice 25 d)))))) (fun x : S25 => (x.f0, x.f1, x.f2, x.f3, x.f4, x.f5))
theorem mono25 : Kd.Mono F25 := Kd.mono_iso _ (Kd.mono_pair (Kd.mono_const _) (Kd.mono_pair (Kd.mono_const _) (Kd.mono_pair (Kd.mono_const _) (Kd.mono_pair (Kd.mono_const _) (Kd.mono_pair (Kd.mono_const _) (Kd.mono_slice 25 Kd.mono_id))))))
theorem sub25 : Kd.Sub F25 [25] := Kd.sub_iso _ (Kd.sub_pair (Kd.sub_const _ (by decide)) (Kd.sub_pair (Kd.sub_const _ (by decide)) (Kd.sub_pair (Kd.sub_const _ (by decide)) (Kd.sub_pair (Kd.sub_const _ (by decide)) (Kd.sub_pair (Kd.sub_const _ (by decide)) (Kd.sub_slice 25 (by decide) Kd.sub_id))))))
theorem sz25 : ∀ n, (Kd.upto F25 6 [25] n).sz = 6 := Kd.upto_sz (fun _ => rfl)
def k25 : Kd S25 := Kd.fix F25 6 [25] sz25 (Kd.upto_E sub25)
theorem k25_open {w : World} {x : S25} {cs : List Value} (h : k25.K w x cs) : ∃ A5 c5, cs = [.int .i64 x.f0, .int .u8 x.f1, .string x.f2, .int .u64 x.f3, .bool x.f4, .slice A5 x.f5.length c5] ∧ x.f5.length ≤ c5 ∧ k25.C w A5 x.f5.length x.f5 := by
  obtain ⟨n, h⟩ := h
  cases n with
  | zero => exact h.elim
  | succ n =>
    obtain ⟨_, _, rfl, rfl, ⟨_, _, rfl, rfl, ⟨_, _, rfl, rfl, ⟨_, _, rfl, rfl, ⟨_, _, rfl, rfl, ⟨A5, c5, rfl, l5, g5⟩⟩⟩⟩⟩⟩ := h
    exact ⟨A5, c5, rfl, l5, Kd.fix_C g5⟩
theorem k25_openM {w : World} {base : Nat} {ok : Nat → Prop} {x : S25} {cs : List Value} (h : k25.M w base ok x cs) : ∃ v5, cs = [.int .i64 x.f0, .int .u8 x.f1, .string x.f2, .int .u64 x.f3, .bool x.f4, v5] ∧ k25.R 25 w base ok v5 x.f5 := by
  obtain ⟨n, h⟩ := h
  cases n with
  | zero => exact h.elim
  | succ n =>
    obtain ⟨_, _, rfl, rfl, ⟨_, _, rfl, rfl, ⟨_, _, rfl, rfl, ⟨_, _, rfl, rfl, ⟨_, _, rfl, rfl, ⟨v5, rfl, g5⟩⟩⟩⟩⟩⟩ := h
    exact ⟨v5, rfl, Kd.fix_R g5⟩
theorem k25_mk (w : World) (x : S25) {A5 : Option Addr} {c5 : Nat} (l5 : x.f5.length ≤ c5) (g5 : k25.C w A5 x.f5.length x.f5) : k25.K w x [.int .i64 x.f0, .int .u8 x.f1, .string x.f2, .int .u64 x.f3, .bool x.f4, .slice A5 x.f5.length c5] := by
  obtain ⟨n5, q5⟩ := Kd.fix_C_back mono25 g5
  have r5 := Kd.upto_C_le mono25 sz25 (show n5 ≤ n5 by omega) q5
  exact ⟨n5 + 1, ⟨[.int .i64 x.f0], [.int .u8 x.f1, .string x.f2, .int .u64 x.f3, .bool x.f4, .slice A5 x.f5.length c5], rfl, rfl, ⟨[.int .u8 x.f1], [.string x.f2, .int .u64 x.f3, .bool x.f4, .slice A5 x.f5.length c5], rfl, rfl, ⟨[.string x.f2], [.int .u64 x.f3, .bool x.f4, .slice A5 x.f5.length c5], rfl, rfl, ⟨[.int .u64 x.f3], [.bool x.f4, .slice A5 x.f5.length c5], rfl, rfl, ⟨[.bool x.f4], [.slice A5 x.f5.length c5], rfl, rfl, ⟨A5, c5, rfl, l5, r5⟩⟩⟩⟩⟩⟩⟩
theorem k25_mkM (w : World) (base : Nat) (ok : Nat → Prop) (x : S25) {v5 : Value} (g5 : k25.R 25 w base ok v5 x.f5) : k25.M w base ok x [.int .i64 x.f0, .int .u8 x.f1, .string x.f2, .int .u64 x.f3, .bool x.f4, v5] := by
  obtain ⟨n5, q5⟩ := Kd.fix_R_back mono25 g5
  have r5 := Kd.upto_R_le mono25 sz25 (show n5 ≤ n5 by omega) q5
  exact ⟨n5 + 1, ⟨[.int .i64 x.f0], [.int .u8 x.f1, .string x.f2, .int .u64 x.f3, .bool x.f4, v5], rfl, rfl, ⟨[.int .u8 x.f1], [.string x.f2, .int .u64 x.f3, .bool x.f4, v5], rfl, rfl, ⟨[.string x.f2], [.int .u64 x.f3, .bool x.f4, v5], rfl, rfl, ⟨[.int .u64 x.f3], [.bool x.f4, v5], rfl, rfl, ⟨[.bool x.f4], [v5], rfl, rfl, ⟨v5, rfl, r5⟩⟩⟩⟩⟩⟩⟩
def rd_T25 (xs : List S25) (i : Int) : S25 := xs.getD i.toNat z25
theorem at_T25 {w : World} {A : Option Addr} {n : Nat} {xs : List S25} (h : Kd.C k25 w A n xs) (i : Int) (h0 : 0 ≤ i) (h1 : i < n) : ∃ ad A5 c5, A = some ad ∧ w.cell? (ad.add (i.toNat * 6)) = some (.int .i64 (rd_T25 xs i).f0) ∧ w.cell? ⟨(ad.add (i.toNat * 6)).block, (ad.add (i.toNat * 6)).off + 1, none⟩ = some (.int .u8 (rd_T25 xs i).f1) ∧ w.cell? ⟨(ad.add (i.toNat * 6)).block, (ad.add (i.toNat * 6)).off + 2, none⟩ = some (.string (rd_T25 xs i).f2) ∧ w.cell? ⟨(ad.add (i.toNat * 6)).block, (ad.add (i.toNat * 6)).off + 3, none⟩ = some (.int .u64 (rd_T25 xs i).f3) ∧ w.cell? ⟨(ad.add (i.toNat * 6)).block, (ad.add (i.toNat * 6)).off + 4, none⟩ = some (.bool (rd_T25 xs i).f4) ∧ w.cell? ⟨(ad.add (i.toNat * 6)).block, (ad.add (i.toNat * 6)).off + 5, none⟩ = some (.slice A5 (rd_T25 xs i).f5.length c5) ∧ (rd_T25 xs i).f5.length ≤ c5 ∧ k25.C w A5 (rd_T25 xs i).f5.length (rd_T25 xs i).f5 := by
  obtain ⟨ad, c, e, _, hK, hc0⟩ := Kd.C_get h z25 i h0 h1
  have hc : ∀ j u, c[j]? = some u → w.cell? (ad.add (i.toNat * 6 + j)) = some u := hc0
  obtain ⟨A5, c5, rfl, l5, g5⟩ := k25_open hK
  exact ⟨ad, A5, c5, e, hc 0 _ rfl, by rw [← add_field _ _ 1 (by omega)]; exact hc 1 _ rfl, by rw [← add_field _ _ 2 (by omega)]; exact hc 2 _ rfl, by rw [← add_field _ _ 3 (by omega)]; exact hc 3 _ rfl, by rw [← add_field _ _ 4 (by omega)]; exact hc 4 _ rfl, by rw [← add_field _ _ 5 (by omega)]; exact hc 5 _ rfl, l5, g5⟩

end Go.Proofs.YtaegllbokgjoeaaDoor.PconstantHere
