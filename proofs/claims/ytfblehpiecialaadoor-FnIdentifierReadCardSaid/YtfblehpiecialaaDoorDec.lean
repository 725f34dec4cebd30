/- ZZDecimal and the thin package's Decimal. -/
import Derived.Test.YtfblehpiecialaaDoorRun
import Derived.Shelf.Abstract
namespace Go.Proofs.YtfblehpiecialaaDoor
set_option linter.unusedVariables false
set_option linter.unusedSimpArgs false
open Go.RowKit

/-- A store below the state. -/
theorem RustAt.setLow {b N : Nat} {s : RS} {w : World} (h : RustAt b s w) (hN : N < b) (x : Value) : RustAt b s (w.setCell ⟨N, 0, none⟩ x) := by
  obtain ⟨hoff, p, v, hb, hp, hown, hne⟩ := h
  exact ⟨hoff, p, v, by rw [Below.heap_setCell _ _ _ _ (by show b ≠ N; omega)]; exact hb, hp, ownsRow_setCell_below hown (by show N < b; exact hN) x, hne⟩

theorem stored {b N : Nat} {s : RS} {w0 w1 w2 : World} {x v : Value} {T : TypeId} (hN : N < b) (h0 : Below N w0 w1) (h1 : w1.heap[N]? = some (.cells #[x] T (0, 0))) (hr : RustAt b s w2) (hb : Below b w1 w2) :
    RustAt b s (w2.setCell ⟨N, 0, none⟩ v) ∧ Mid (N + 1) b w1 (w2.setCell ⟨N, 0, none⟩ v) ∧ Below N w0 (w2.setCell ⟨N, 0, none⟩ v) ∧ (w2.setCell ⟨N, 0, none⟩ v).heap[N]? = some (.cells #[v] T (0, 0)) := by
  have e : w2.heap[N]? = some (.cells #[x] T (0, 0)) := (hb.block N hN).trans h1
  refine ⟨hr.setLow hN v, ?_, (h0.trans (hb.mono (by omega))).setCell (p := ⟨N, 0, none⟩) (Nat.le_refl _) _, ?_⟩
  · intro k hk hk2
    rw [Below.heap_setCell _ _ _ _ (by show k ≠ N; omega)]
    exact hb.block k hk2
  · simp [World.setCell, Array.getElem?_modify, e]

/-- What is kept of a variable that a closure writes. -/
def Var (N : Nat) (w0 : World) (T : TypeId) (v : Value) (w : World) : Prop := Below N w0 w ∧ w.heap[N]? = some (.cells #[v] T (0, 0))
theorem Var.later {N : Nat} {w0 : World} {T : TypeId} {v : Value} (a c : World) (h : Below (N + 1) a c) (k : Var N w0 T v a) : Var N w0 T v c :=
  ⟨k.1.trans (h.mono (by omega)), (h.block N (by omega)).trans k.2⟩
theorem Var.cell {N : Nat} {w0 w : World} {T : TypeId} {v : Value} (k : Var N w0 T v w) : w.cell? ⟨N, 0, none⟩ = some v := by rw [Lib.cell_of_heap k.2]; rfl
theorem Var.free {N : Nat} {w0 w : World} {T : TypeId} {v : Value} (k : Var N w0 T v w) : w.frozen? ⟨N, 0, none⟩ = false := Lib.frozen_of_heap k.2 0

theorem Var.new (w : World) (T : TypeId) (x : Value) : Var w.heap.size w T x (w.alloc (.cells #[x] T)) :=
  ⟨(Below.refl _ w).alloc (Nat.le_refl _) _, heap_alloc_new w _⟩

theorem decClo_ok (b N : Nat) (w0 w1 : World) (s : RS) (x : Value) (n : Int) (r : List UInt8) (hN : N < b) (hv : Var N w0 3 x w1) (hr : RustAt b s w1) (hd : Dm.decimal s.str = some (n, r)) :
    Calls Tryd.prog 63 #[.pointer (some ⟨b, 0, none⟩), .pointer (some ⟨N, 0, none⟩)] w1 fun e w2 =>
      e = .returned (.tuple #[]) ∧ RustAt b (s.adv r) w2 ∧ Mid (N + 1) b w1 w2 ∧ Var N w0 3 (.int .i64 n) w2 := by
  have hc := decimalNumber_calls b s w1 hr
  unfold DecPost at hc
  rw [hd] at hc
  have HV := Lib.hid hv
  clear hd hv
  go_enter Tryd.func63, Tryd.ntmps63
  go_wp2_with fail
  refine hc.mono ?_
  rintro e w2 ⟨rfl, hr2, hb2⟩
  have hst := stored (v := .int .i64 n) hN HV.out.1 HV.out.2 hr2 hb2
  have hc2 : w2.cell? ⟨N, 0, none⟩ = some x := by rw [hb2.below.cell (p := ⟨N, 0, none⟩) hN]; exact HV.out.cell
  have hf2 : w2.frozen? ⟨N, 0, none⟩ = false := by rw [hb2.below.frozen (p := ⟨N, 0, none⟩) hN]; exact HV.out.free
  have HS := Lib.hid hst
  clear hst hc
  go_wp2_with fail
  go_end0
  exact ⟨rfl, HS.out.1, HS.out.2.1, HS.out.2.2.1, HS.out.2.2.2⟩

theorem decClo_fails (b N : Nat) (w0 w1 : World) (s : RS) (x : Value) (hN : N < b) (hv : Var N w0 3 x w1) (hr : RustAt b s w1) (hd : Dm.decimal s.str = none) :
    Calls Tryd.prog 63 #[.pointer (some ⟨b, 0, none⟩), .pointer (some ⟨N, 0, none⟩)] w1 fun e w2 =>
      (∃ m o, e = .panicked [{ v := .iface 83 (.agg #[.string m, .int .i64 o]), recovered := false }]) ∧ Mid (N + 1) b w1 w2 ∧ Var N w0 3 x w2 := by
  have hc := decimalNumber_calls b s w1 hr
  unfold DecPost at hc
  rw [hd] at hc
  have HV := Lib.hid hv
  clear hd hv
  go_enter Tryd.func63, Tryd.ntmps63
  go_wp2_with fail
  refine hc.mono ?_
  rintro e w2 ⟨⟨m, o, rfl⟩, hb2⟩
  exact ⟨rfl, ⟨m, o, rfl⟩, fun k _ hk => hb2.block k hk, HV.out.1.trans (hb2.mono (by omega)), (hb2.block N hN).trans HV.out.2⟩

theorem enters_decClo (args : Array Value) (w : World) : (callFunc 63 args).run Tryd.prog w = .ok (.enter 63 args) w :=
  enters_of Tryd.func63 (by kernel_rfl) rfl args w

set_option maxHeartbeats 1000000 in
theorem zzDecimal_ok (l : List UInt8) (w : World) (hl : l.length ≤ 4611686018427387904) (n : Int) (r : List UInt8) (hd : Dm.decimal l = some (n, r)) :
    Calls Tryd.prog 47 #[.string (bs l)] w fun e w' => e = .returned (.tuple #[.int .i64 n, .string (bs r), .nilIface]) ∧ Below w.heap.size w w' := by
  have hmf : ∀ (fn : Fn) (first cap : Array Value) (w : World), (Instr.makeFunc fn first cap).run Tryd.prog w = .ok (.func fn first cap) w := fun _ _ _ _ => rfl
  have hrun := zzRun_ok l 63 #[.pointer (some ⟨w.heap.size, 0, none⟩)] (w.alloc (.cells #[.int .i64 0] 3)) hl
    (Var w.heap.size w 3 (.int .i64 n)) enters_decClo (fun a c h k => k.later a c (by simpa using h)) ((RS.init l).adv r)
    (fun b w1 hb hbel hr => by
      have := decClo_ok b w.heap.size w w1 (RS.init l) (.int .i64 0) n r (by simp at hb; omega) ((Var.new w _ _).later _ _ (by simpa using hbel)) hr hd
      simpa using this)
  have HR := Lib.hid hrun
  clear hrun hd
  go_enter Tryd.func47, Tryd.ntmps47
  go_wp2_with fail
  refine HR.out.mono ?_
  rintro e w2 ⟨rfl, hv⟩
  have hc := hv.cell
  have hf := hv.free
  have HV := Lib.hid hv
  clear hv HR
  go_wp2_with fail
  refine bodyPost_ret (v := .tuple #[.int .i64 n, .string (bs r), .nilIface]) ?_ rfl ⟨rfl, ?_⟩
  · have hc2 : (w2.setCell ⟨w.heap.size, 0, none⟩ (.int .i64 n)).cell? ⟨w.heap.size, 0, none⟩ = some (.int .i64 n) := by simp [World.cell?, World.setCell, Array.getElem?_modify, HV.out.2]
    simp [results, Tryd.results47, go_sem, hc2, RS.adv_str]
  · exact HV.out.1.setCell (p := ⟨w.heap.size, 0, none⟩) (Nat.le_refl _) _

set_option maxHeartbeats 1000000 in
theorem zzDecimal_fails (l : List UInt8) (w : World) (hl : l.length ≤ 4611686018427387904) (hd : Dm.decimal l = none) :
    Calls Tryd.prog 47 #[.string (bs l)] w fun e w' => (∃ v, e = .returned (.tuple #[.int .i64 0, .string ⟨#[]⟩, .iface 83 v])) ∧ Below w.heap.size w w' := by
  have hmf : ∀ (fn : Fn) (first cap : Array Value) (w : World), (Instr.makeFunc fn first cap).run Tryd.prog w = .ok (.func fn first cap) w := fun _ _ _ _ => rfl
  have hrun := zzRun_fails l 63 #[.pointer (some ⟨w.heap.size, 0, none⟩)] (w.alloc (.cells #[.int .i64 0] 3)) hl
    (Var w.heap.size w 3 (.int .i64 0)) enters_decClo (fun a c h k => k.later a c (by simpa using h))
    (fun b w1 hb hbel hr => by
      have := decClo_fails b w.heap.size w w1 (RS.init l) (.int .i64 0) (by simp at hb; omega) ((Var.new w _ _).later _ _ (by simpa using hbel)) hr hd
      simpa using this)
  have HR := Lib.hid hrun
  clear hrun hd
  go_enter Tryd.func47, Tryd.ntmps47
  go_wp2_with fail
  refine HR.out.mono ?_
  rintro e w2 ⟨⟨v, rfl⟩, hv⟩
  have hc := hv.cell
  have hf := hv.free
  have HV := Lib.hid hv
  clear hv HR
  go_wp2_with fail
  refine bodyPost_ret (v := .tuple #[.int .i64 0, .string ⟨#[]⟩, .iface 83 v]) ?_ rfl ⟨⟨v, rfl⟩, ?_⟩
  · simp [results, Tryd.results47, go_sem, World.cell?, World.setCell, Array.getElem?_modify, HV.out.2]
  · exact (HV.out.1.setCell (p := ⟨w.heap.size, 0, none⟩) (Nat.le_refl _) _).setCell (p := ⟨w.heap.size, 0, none⟩) (Nat.le_refl _) _

/-- The thin package's Decimal, whatever it reads. -/
def decRes (l : List UInt8) : Value :=
  match Dm.decimal l with
  | some (n, r) => .tuple #[.int .i64 n, .string (bs r), .bool true]
  | none => .tuple #[.int .i64 0, .string ⟨#[]⟩, .bool false]

theorem decimal_calls (l : List UInt8) (w : World) (hl : l.length ≤ 4611686018427387904) :
    Calls Tryd.prog 31 #[.string (bs l)] w fun e w' => e = .returned (decRes l) ∧ Below w.heap.size w w' := by
  cases hd : Dm.decimal l with
  | none =>
    have h := zzDecimal_fails l w hl hd
    have e : decRes l = .tuple #[.int .i64 0, .string ⟨#[]⟩, .bool false] := by unfold decRes; rw [hd]
    rw [e]
    clear e hd
    go_enter Tryd.func31, Tryd.ntmps31
    go_wp2_with fail
    refine h.mono ?_
    rintro e w2 ⟨⟨v, rfl⟩, hb⟩
    go_wp2_with fail
    go_ret3
    exact ⟨rfl, hb⟩
  | some q =>
    obtain ⟨n, r⟩ := q
    have h := zzDecimal_ok l w hl n r hd
    have e : decRes l = .tuple #[.int .i64 n, .string (bs r), .bool true] := by unfold decRes; rw [hd]
    rw [e]
    clear e hd
    go_enter Tryd.func31, Tryd.ntmps31
    go_wp2_with fail
    refine h.mono ?_
    rintro e w2 ⟨rfl, hb⟩
    go_wp2_with fail
    go_ret3
    exact ⟨rfl, hb⟩

end Go.Proofs.YtfblehpiecialaaDoor
