/- Written by a program of this session (wip/tools/myprint.py) with the kit's print: contracts of the functions that one statement reaches; functions that are proved by hand are taken as printed. Conditions: none. -/
import Derived.Test.YtdmkdclockmjbaaGreatDoorProg
import Derived.Below
import Derived.Deep.Draws
import Derived.Deep.AppendLies
import Derived.Maps.AppendAt
import Derived.OwnWalk
import Derived.Laws.BytesArg
import Derived.Laws.MakeOwn
import Derived.Laws.OwnMore
import Derived.Deep.OwnRows
import Derived.Tactics
import Derived.Lib.ConvBytes
import Derived.Laws.Slices
import Derived.WalkKit
import Derived.KernelRfl
import Derived.RowKit3
import Derived.Deep.LoopGhost
import Derived.Deep.QuietTactic
import Derived.BigQuiet
import Derived.WideLaws
import Derived.Deep.DeepCutAuto
import Derived.Deep.CutBlock
import Derived.Deep.RegionHeld3
import Derived.Laws.Rows
import Derived.Lib.AppendStr
import Derived.ArgAppend
import Derived.Laws.IdiomCopy
import Derived.OrdersHeld
import Derived.Laws.BitsLemmas
import Derived.RowKit
import Derived.Test.YtdmkdclockmjbaaGreatDoorM5
import Derived.Test.YtdmkdclockmjbaaGreatDoorM6
import Derived.Test.YtdmkdclockmjbaaGreatDoorM3
import Derived.Test.YtdmkdclockmjbaaGreatDoorWWords
import Derived.Test.YtdmkdclockmjbaaGreatDoorWLast
import Derived.Test.YtdmkdclockmjbaaGreatDoorWTab
import Derived.Test.YtdmkdclockmjbaaGreatDoorWFour
import Derived.Test.YtdmkdclockmjbaaGreatDoorWQPut
import Derived.Test.YtdmkdclockmjbaaGreatDoorWApart
import Derived.Test.YtdmkdclockmjbaaGreatDoorWArr
import Derived.Test.YtdmkdclockmjbaaGreatDoorWZeros
import Derived.Test.YtdmkdclockmjbaaGreatDoorWFoot
import Derived.Test.YtdmkdclockmjbaaGreatDoorWKept
import Derived.Test.YtdmkdclockmjbaaGreatDoorWShare
import Derived.Test.YtdmkdclockmjbaaGreatDoorWN
import Derived.Test.YtdmkdclockmjbaaGreatDoorWFootNe
import Derived.Test.YtdmkdclockmjbaaGreatDoorWAt
import Derived.Test.YtdmkdclockmjbaaGreatDoorWEqStruct
import Derived.Test.YtdmkdclockmjbaaGreatDoorWRepsOne
import Derived.Test.YtdmkdclockmjbaaGreatDoorWInv
import Derived.Test.YtdmkdclockmjbaaGreatDoorWInvWords
import Derived.Test.YtdmkdclockmjbaaGreatDoorWGuard
import Derived.Test.YtdmkdclockmjbaaGreatDoorWNEv
import Derived.Test.YtdmkdclockmjbaaGreatDoorWMore
import Derived.Test.YtdmkdclockmjbaaGreatDoorWSized
namespace Go.Proofs.YtdmkdclockmjbaaGreatDoor.PFnBehindRefused
open Go.RowKit Go.Proofs.YtdmkdclockmjbaaGreatDoorW.PrintWords Go.Proofs.YtdmkdclockmjbaaGreatDoorW.PrintLast Go.Proofs.YtdmkdclockmjbaaGreatDoorW.PrintMore
attribute [local go_sem] max2_int min2_int max_two min_two max_three min_three max_four min_four   -- for this text's walks alone
set_option linter.unusedVariables false
set_option linter.unusedSimpArgs false



def errW : Option Int → Value
  | none => .nilIface
  | some c => .iface 0 (.int .i64 c)
theorem errW_none : errW none = .nilIface := rfl
theorem errW_some (c : Int) : errW (some c) = .iface 0 (.int .i64 c) := rfl

theorem info5 : (Tryz.prog.info? 5).map (fun i => (i.zero, i.size, i.bytes)) = some (some (.int .u8 0), 1, 1) := by kernel_rfl
theorem info43 : (Tryz.prog.info? 43).map (fun i => (i.zero, i.size, i.bytes)) = some (some (.agg #[(.int .u8 0), (.string ⟨#[]⟩), (.int .u64 0)]), 3, 32) := by kernel_rfl
-- the values' own types
def rd_L1 (xs : List (List Int)) (i : Int) : (List Int) := xs.getD i.toNat ([] : List Int)
theorem at_L1 {w : World} {A : Option Addr} {n : Nat} {xs : List (List Int)} (h : Kd.C (Kd.slice 5 (Kd.int .u8)) w A n xs) (i : Int) (h0 : 0 ≤ i) (h1 : i < n) : ∃ ad A0 c0, A = some ad ∧ w.cell? (ad.add i.toNat) = some (.slice A0 (rd_L1 xs i).length c0) ∧ (rd_L1 xs i).length ≤ c0 ∧ (Kd.int .u8).C w A0 (rd_L1 xs i).length (rd_L1 xs i) := by
  obtain ⟨ad, c, e, _, hK, hc0⟩ := Kd.C_get h ([] : List Int) i h0 h1
  have hc : ∀ j u, c[j]? = some u → w.cell? (ad.add (i.toNat * 1 + j)) = some u := hc0
  obtain ⟨A0, c0, rfl, l0, g0⟩ := hK
  exact ⟨ad, A0, c0, e, by have hq := hc 0 _ rfl; rwa [Nat.mul_one, Nat.add_zero] at hq, l0, g0⟩

/-! #### struct type 43 -/
structure S43 where
  f0 : Int
  f1 : ByteArray
  f2 : Int
def z43 : S43 := ⟨(0 : Int), (⟨#[]⟩ : ByteArray), (0 : Int)⟩
def k43 : Kd S43 := Kd.iso (Kd.pair (Kd.int .u8) (Kd.pair Kd.string (Kd.int .u64))) (fun x : S43 => (x.f0, x.f1, x.f2))
theorem k43_open {w : World} {x : S43} {cs : List Value} (h : k43.K w x cs) : cs = [.int .u8 x.f0, .string x.f1, .int .u64 x.f2] := by
  obtain ⟨_, _, rfl, rfl, ⟨_, _, rfl, rfl, rfl⟩⟩ := h
  exact rfl
theorem k43_openM {w : World} {base : Nat} {ok : Nat → Prop} {x : S43} {cs : List Value} (h : k43.M w base ok x cs) : cs = [.int .u8 x.f0, .string x.f1, .int .u64 x.f2] := by
  obtain ⟨_, _, rfl, rfl, ⟨_, _, rfl, rfl, rfl⟩⟩ := h
  exact rfl
theorem k43_mk (w : World) (x : S43)  : k43.K w x [.int .u8 x.f0, .string x.f1, .int .u64 x.f2] := ⟨[.int .u8 x.f0], [.string x.f1, .int .u64 x.f2], rfl, rfl, ⟨[.string x.f1], [.int .u64 x.f2], rfl, rfl, rfl⟩⟩
theorem k43_mkM (w : World) (base : Nat) (ok : Nat → Prop) (x : S43)  : k43.M w base ok x [.int .u8 x.f0, .string x.f1, .int .u64 x.f2] := ⟨[.int .u8 x.f0], [.string x.f1, .int .u64 x.f2], rfl, rfl, ⟨[.string x.f1], [.int .u64 x.f2], rfl, rfl, rfl⟩⟩
def rd_T43 (xs : List S43) (i : Int) : S43 := xs.getD i.toNat z43
theorem at_T43 {w : World} {A : Option Addr} {n : Nat} {xs : List S43} (h : Kd.C k43 w A n xs) (i : Int) (h0 : 0 ≤ i) (h1 : i < n) : ∃ ad , A = some ad ∧ w.cell? (ad.add (i.toNat * 3)) = some (.int .u8 (rd_T43 xs i).f0) ∧ w.cell? ⟨(ad.add (i.toNat * 3)).block, (ad.add (i.toNat * 3)).off + 1, none⟩ = some (.string (rd_T43 xs i).f1) ∧ w.cell? ⟨(ad.add (i.toNat * 3)).block, (ad.add (i.toNat * 3)).off + 2, none⟩ = some (.int .u64 (rd_T43 xs i).f2) := by
  obtain ⟨ad, c, e, _, hK, hc0⟩ := Kd.C_get h z43 i h0 h1
  have hc : ∀ j u, c[j]? = some u → w.cell? (ad.add (i.toNat * 3 + j)) = some u := hc0
  obtain rfl := k43_open hK
  exact ⟨ad, e, hc 0 _ rfl, by rw [← add_field _ _ 1 (by omega)]; exact hc 1 _ rfl, by rw [← add_field _ _ 2 (by omega)]; exact hc 2 _ rfl⟩

end Go.Proofs.YtdmkdclockmjbaaGreatDoor.PFnBehindRefused
