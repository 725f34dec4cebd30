/- The struct types of pieces of old-style names, as the kit's print lays them. -/
import Derived.Test.YtpmlnhddkbgefaaDoorProg
import Derived.Below
import Derived.Deep.Draws
import Derived.Deep.AppendLies
import Derived.Maps.AppendAt
import Derived.OwnWalk
import Derived.Laws.BytesArg
import Derived.Laws.MakeOwn
import Derived.Laws.OwnMore
import Derived.Deep.OwnRows
import Derived.Tactics
import Derived.Lib.ConvBytes
import Derived.Laws.Slices
import Derived.WalkKit
import Derived.KernelRfl
import Derived.RowKit3
import Derived.Deep.LoopGhost
import Derived.Deep.QuietTactic
import Derived.BigQuiet
import Derived.WideLaws
import Derived.Deep.DeepCutAuto
import Derived.Deep.CutBlock
import Derived.Deep.RegionHeld3
import Derived.Laws.Rows
import Derived.Lib.AppendStr
import Derived.ArgAppend
import Derived.Laws.IdiomCopy
import Derived.OrdersHeld
import Derived.Laws.BitsLemmas
import Derived.RowKit
import Derived.Test.YtpmlnhddkbgefaaDoorWWords
import Derived.Test.YtpmlnhddkbgefaaDoorWLast
import Derived.Test.YtpmlnhddkbgefaaDoorWTab
import Derived.Test.YtpmlnhddkbgefaaDoorWFour
import Derived.Test.YtpmlnhddkbgefaaDoorWQPut
import Derived.Test.YtpmlnhddkbgefaaDoorWApart
import Derived.Test.YtpmlnhddkbgefaaDoorWArr
import Derived.Test.YtpmlnhddkbgefaaDoorWZeros
import Derived.Test.YtpmlnhddkbgefaaDoorWFoot
import Derived.Test.YtpmlnhddkbgefaaDoorWKept
import Derived.Test.YtpmlnhddkbgefaaDoorWShare
import Derived.Test.YtpmlnhddkbgefaaDoorWN
import Derived.Test.YtpmlnhddkbgefaaDoorWFootNe
import Derived.Test.YtpmlnhddkbgefaaDoorWAt
import Derived.Test.YtpmlnhddkbgefaaDoorWEqStruct
import Derived.Test.YtpmlnhddkbgefaaDoorWRepsOne
import Derived.Test.YtpmlnhddkbgefaaDoorWInv
import Derived.Test.YtpmlnhddkbgefaaDoorWInvWords
import Derived.Test.YtpmlnhddkbgefaaDoorWGuard
import Derived.Test.YtpmlnhddkbgefaaDoorWNEv
import Derived.Test.YtpmlnhddkbgefaaDoorWMore
import Derived.Test.YtpmlnhddkbgefaaDoorWSized
namespace Go.Proofs.YtpmlnhddkbgefaaDoor
open Go.RowKit Go.Proofs.YtpmlnhddkbgefaaDoorW.PrintWords Go.Proofs.YtpmlnhddkbgefaaDoorW.PrintLast Go.Proofs.YtpmlnhddkbgefaaDoorW.PrintMore
set_option linter.unusedVariables false
set_option linter.unusedSimpArgs false

/-! #### struct type 56 -/
structure S56 where
  f0 : ByteArray
  f1 : ByteArray
def z56 : S56 := ⟨(⟨#[]⟩ : ByteArray), (⟨#[]⟩ : ByteArray)⟩
def k56 : Kd S56 := Kd.iso (Kd.pair Kd.string Kd.string) (fun x : S56 => (x.f0, x.f1))
theorem k56_open {w : World} {x : S56} {cs : List Value} (h : k56.K w x cs) : cs = [.string x.f0, .string x.f1] := by
  obtain ⟨_, _, rfl, rfl, rfl⟩ := h
  exact rfl
theorem k56_openM {w : World} {base : Nat} {ok : Nat → Prop} {x : S56} {cs : List Value} (h : k56.M w base ok x cs) : cs = [.string x.f0, .string x.f1] := by
  obtain ⟨_, _, rfl, rfl, rfl⟩ := h
  exact rfl
theorem k56_mk (w : World) (x : S56)  : k56.K w x [.string x.f0, .string x.f1] := ⟨[.string x.f0], [.string x.f1], rfl, rfl, rfl⟩
theorem k56_mkM (w : World) (base : Nat) (ok : Nat → Prop) (x : S56)  : k56.M w base ok x [.string x.f0, .string x.f1] := ⟨[.string x.f0], [.string x.f1], rfl, rfl, rfl⟩
def rd_T56 (xs : List S56) (i : Int) : S56 := xs.getD i.toNat z56
theorem at_T56 {w : World} {A : Option Addr} {n : Nat} {xs : List S56} (h : Kd.C k56 w A n xs) (i : Int) (h0 : 0 ≤ i) (h1 : i < n) : ∃ ad , A = some ad ∧ w.cell? (ad.add (i.toNat * 2)) = some (.string (rd_T56 xs i).f0) ∧ w.cell? ⟨(ad.add (i.toNat * 2)).block, (ad.add (i.toNat * 2)).off + 1, none⟩ = some (.string (rd_T56 xs i).f1) := by
  obtain ⟨ad, c, e, _, hK, hc0⟩ := Kd.C_get h z56 i h0 h1
  have hc : ∀ j u, c[j]? = some u → w.cell? (ad.add (i.toNat * 2 + j)) = some u := hc0
  obtain rfl := k56_open hK
  exact ⟨ad, e, hc 0 _ rfl, by rw [← add_field _ _ 1 (by omega)]; exact hc 1 _ rfl⟩

/-! #### struct type 106 -/
structure S106 where
  f0 : Int
  f1 : ByteArray
def z106 : S106 := ⟨(0 : Int), (⟨#[]⟩ : ByteArray)⟩
def k106 : Kd S106 := Kd.iso (Kd.pair (Kd.int .i64) Kd.string) (fun x : S106 => (x.f0, x.f1))
theorem k106_open {w : World} {x : S106} {cs : List Value} (h : k106.K w x cs) : cs = [.int .i64 x.f0, .string x.f1] := by
  obtain ⟨_, _, rfl, rfl, rfl⟩ := h
  exact rfl
theorem k106_openM {w : World} {base : Nat} {ok : Nat → Prop} {x : S106} {cs : List Value} (h : k106.M w base ok x cs) : cs = [.int .i64 x.f0, .string x.f1] := by
  obtain ⟨_, _, rfl, rfl, rfl⟩ := h
  exact rfl
theorem k106_mk (w : World) (x : S106)  : k106.K w x [.int .i64 x.f0, .string x.f1] := ⟨[.int .i64 x.f0], [.string x.f1], rfl, rfl, rfl⟩
theorem k106_mkM (w : World) (base : Nat) (ok : Nat → Prop) (x : S106)  : k106.M w base ok x [.int .i64 x.f0, .string x.f1] := ⟨[.int .i64 x.f0], [.string x.f1], rfl, rfl, rfl⟩
def rd_T106 (xs : List S106) (i : Int) : S106 := xs.getD i.toNat z106
theorem at_T106 {w : World} {A : Option Addr} {n : Nat} {xs : List S106} (h : Kd.C k106 w A n xs) (i : Int) (h0 : 0 ≤ i) (h1 : i < n) : ∃ ad , A = some ad ∧ w.cell? (ad.add (i.toNat * 2)) = some (.int .i64 (rd_T106 xs i).f0) ∧ w.cell? ⟨(ad.add (i.toNat * 2)).block, (ad.add (i.toNat * 2)).off + 1, none⟩ = some (.string (rd_T106 xs i).f1) := by
  obtain ⟨ad, c, e, _, hK, hc0⟩ := Kd.C_get h z106 i h0 h1
  have hc : ∀ j u, c[j]? = some u → w.cell? (ad.add (i.toNat * 2 + j)) = some u := hc0
  obtain rfl := k106_open hK
  exact ⟨ad, e, hc 0 _ rfl, by rw [← add_field _ _ 1 (by omega)]; exact hc 1 _ rfl⟩

end Go.Proofs.YtpmlnhddkbgefaaDoor
