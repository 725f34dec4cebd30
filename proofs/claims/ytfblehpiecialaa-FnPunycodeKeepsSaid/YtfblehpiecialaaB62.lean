/- ZZBase62 and the thin package's Base62. -/
import Derived.Test.YtfblehpiecialaaDec
namespace Go.Proofs.Ytfblehpiecialaa
set_option linter.unusedVariables false
set_option linter.unusedSimpArgs false
open Go.RowKit

theorem b62_bounds : ∀ (l : List UInt8) (v n : Int) (r : List UInt8), Dm.b62 v l = some (n, r) → -9223372036854775808 ≤ n ∧ n ≤ 9223372036854775807
  | [], _, _, _, h => by simp [Dm.b62] at h
  | c :: t, v, n, r, h => by
    rw [Dm.b62] at h
    by_cases hc : c = 95
    · rw [if_pos hc] at h
      simp only [Option.some.injEq, Prod.mk.injEq] at h
      rw [← h.1]; unfold wrap64; omega
    · rw [if_neg hc] at h
      cases hd : Dm.dig62 c with
      | none => rw [hd] at h; cases h
      | some d => rw [hd] at h; exact b62_bounds t _ n r h

theorem base62_bounds (l : List UInt8) (n : Int) (r : List UInt8) (h : Dm.base62 l = some (n, r)) : -9223372036854775808 ≤ n ∧ n ≤ 9223372036854775807 := by
  cases l with
  | nil => cases h
  | cons c t =>
    rw [Dm.base62] at h
    by_cases hc : c = 95
    · rw [if_pos hc] at h
      simp only [Option.some.injEq, Prod.mk.injEq] at h
      omega
    · rw [if_neg hc] at h; exact b62_bounds _ _ _ _ h

theorem b62Clo_ok (b N : Nat) (w0 w1 : World) (s : RS) (x : Value) (n : Int) (r : List UInt8) (hN : N < b) (hv : Var N w0 2 x w1) (hr : RustAt b s w1) (hd : Dm.base62 s.str = some (n, r)) :
    Calls Try.prog 26 #[.pointer (some ⟨b, 0, none⟩), .pointer (some ⟨N, 0, none⟩)] w1 fun e w2 =>
      e = .returned (.tuple #[]) ∧ RustAt b (s.adv r) w2 ∧ Mid (N + 1) b w1 w2 ∧ Var N w0 2 (.int .i64 n) w2 := by
  have hc := base62Number_calls b s w1 hr
  unfold B62Post at hc
  rw [hd] at hc
  have HV := Lib.hid hv
  clear hd hv
  go_enter Try.func26, Try.ntmps26
  go_wp2_with fail
  refine hc.mono ?_
  rintro e w2 ⟨rfl, hr2, hb2⟩
  have hst := stored (v := .int .i64 n) hN HV.out.1 HV.out.2 hr2 hb2
  have hc2 : w2.cell? ⟨N, 0, none⟩ = some x := by rw [hb2.cell (p := ⟨N, 0, none⟩) hN]; exact HV.out.cell
  have hf2 : w2.frozen? ⟨N, 0, none⟩ = false := by rw [hb2.frozen (p := ⟨N, 0, none⟩) hN]; exact HV.out.free
  have HS := Lib.hid hst
  clear hst hc
  go_wp2_with fail
  go_end0
  exact ⟨rfl, HS.out.1, HS.out.2.1, HS.out.2.2.1, HS.out.2.2.2⟩

theorem b62Clo_fails (b N : Nat) (w0 w1 : World) (s : RS) (x : Value) (hN : N < b) (hv : Var N w0 2 x w1) (hr : RustAt b s w1) (hd : Dm.base62 s.str = none) :
    Calls Try.prog 26 #[.pointer (some ⟨b, 0, none⟩), .pointer (some ⟨N, 0, none⟩)] w1 fun e w2 =>
      (∃ m o, e = .panicked [{ v := .iface 55 (.agg #[.string m, .int .i64 o]), recovered := false }]) ∧ Mid (N + 1) b w1 w2 ∧ Var N w0 2 x w2 := by
  have hc := base62Number_calls b s w1 hr
  unfold B62Post at hc
  rw [hd] at hc
  have HV := Lib.hid hv
  clear hd hv
  go_enter Try.func26, Try.ntmps26
  go_wp2_with fail
  refine hc.mono ?_
  rintro e w2 ⟨⟨m, o, rfl⟩, hb2⟩
  exact ⟨rfl, ⟨m, o, rfl⟩, fun k _ hk => hb2.block k hk, HV.out.1.trans (hb2.mono (by omega)), (hb2.block N hN).trans HV.out.2⟩

theorem enters_b62Clo (args : Array Value) (w : World) : (callFunc 26 args).run Try.prog w = .ok (.enter 26 args) w :=
  enters_of Try.func26 (by kernel_rfl) rfl args w

set_option maxHeartbeats 1000000 in
theorem zzBase62_ok (l : List UInt8) (w : World) (hl : l.length ≤ 4611686018427387904) (n : Int) (r : List UInt8) (hd : Dm.base62 l = some (n, r)) :
    Calls Try.prog 21 #[.string (bs l)] w fun e w' => e = .returned (.tuple #[.int .i64 n, .string (bs r), .nilIface]) ∧ Below w.heap.size w w' := by
  have hmf : ∀ (fn : Fn) (first cap : Array Value) (w : World), (Instr.makeFunc fn first cap).run Try.prog w = .ok (.func fn first cap) w := fun _ _ _ _ => rfl
  have hrun := zzRun_ok l 26 #[.pointer (some ⟨w.heap.size, 0, none⟩)] (w.alloc (.cells #[.int .i64 0] 2)) hl
    (Var w.heap.size w 2 (.int .i64 n)) enters_b62Clo (fun a c h k => k.later a c (by simpa using h)) ((RS.init l).adv r)
    (fun b w1 hb hbel hr => by
      have := b62Clo_ok b w.heap.size w w1 (RS.init l) (.int .i64 0) n r (by simp at hb; omega) ((Var.new w _ _).later _ _ (by simpa using hbel)) hr hd
      simpa using this)
  have HR := Lib.hid hrun
  clear hrun hd
  go_enter Try.func21, Try.ntmps21
  go_wp2_with fail
  refine HR.out.mono ?_
  rintro e w2 ⟨rfl, hv⟩
  have hc := hv.cell
  have hf := hv.free
  have HV := Lib.hid hv
  clear hv HR
  go_wp2_with fail
  refine bodyPost_ret (v := .tuple #[.int .i64 n, .string (bs r), .nilIface]) ?_ rfl ⟨rfl, ?_⟩
  · have hc2 : (w2.setCell ⟨w.heap.size, 0, none⟩ (.int .i64 n)).cell? ⟨w.heap.size, 0, none⟩ = some (.int .i64 n) := by simp [World.cell?, World.setCell, Array.getElem?_modify, HV.out.2]
    simp [results, Try.results21, go_sem, hc2, RS.adv_str]
  · exact HV.out.1.setCell (p := ⟨w.heap.size, 0, none⟩) (Nat.le_refl _) _

set_option maxHeartbeats 1000000 in
theorem zzBase62_fails (l : List UInt8) (w : World) (hl : l.length ≤ 4611686018427387904) (hd : Dm.base62 l = none) :
    Calls Try.prog 21 #[.string (bs l)] w fun e w' => (∃ v, e = .returned (.tuple #[.int .i64 0, .string ⟨#[]⟩, .iface 55 v])) ∧ Below w.heap.size w w' := by
  have hmf : ∀ (fn : Fn) (first cap : Array Value) (w : World), (Instr.makeFunc fn first cap).run Try.prog w = .ok (.func fn first cap) w := fun _ _ _ _ => rfl
  have hrun := zzRun_fails l 26 #[.pointer (some ⟨w.heap.size, 0, none⟩)] (w.alloc (.cells #[.int .i64 0] 2)) hl
    (Var w.heap.size w 2 (.int .i64 0)) enters_b62Clo (fun a c h k => k.later a c (by simpa using h))
    (fun b w1 hb hbel hr => by
      have := b62Clo_fails b w.heap.size w w1 (RS.init l) (.int .i64 0) (by simp at hb; omega) ((Var.new w _ _).later _ _ (by simpa using hbel)) hr hd
      simpa using this)
  have HR := Lib.hid hrun
  clear hrun hd
  go_enter Try.func21, Try.ntmps21
  go_wp2_with fail
  refine HR.out.mono ?_
  rintro e w2 ⟨⟨v, rfl⟩, hv⟩
  have hc := hv.cell
  have hf := hv.free
  have HV := Lib.hid hv
  clear hv HR
  go_wp2_with fail
  refine bodyPost_ret (v := .tuple #[.int .i64 0, .string ⟨#[]⟩, .iface 55 v]) ?_ rfl ⟨⟨v, rfl⟩, ?_⟩
  · simp [results, Try.results21, go_sem, World.cell?, World.setCell, Array.getElem?_modify, HV.out.2]
  · exact (HV.out.1.setCell (p := ⟨w.heap.size, 0, none⟩) (Nat.le_refl _) _).setCell (p := ⟨w.heap.size, 0, none⟩) (Nat.le_refl _) _

/-- The thin package's Base62, whatever it reads. -/
def b62Res (l : List UInt8) : Value :=
  match Dm.base62 l with
  | some (n, r) => .tuple #[.int .i64 n, .string (bs r), .bool true]
  | none => .tuple #[.int .i64 0, .string ⟨#[]⟩, .bool false]

theorem base62_calls (l : List UInt8) (w : World) (hl : l.length ≤ 4611686018427387904) :
    Calls Try.prog 12 #[.string (bs l)] w fun e w' => e = .returned (b62Res l) ∧ Below w.heap.size w w' := by
  cases hd : Dm.base62 l with
  | none =>
    have h := zzBase62_fails l w hl hd
    have e : b62Res l = .tuple #[.int .i64 0, .string ⟨#[]⟩, .bool false] := by unfold b62Res; rw [hd]
    rw [e]
    clear e hd
    go_enter Try.func12, Try.ntmps12
    go_wp2_with fail
    refine h.mono ?_
    rintro e w2 ⟨⟨v, rfl⟩, hb⟩
    go_wp2_with fail
    go_ret3
    exact ⟨rfl, hb⟩
  | some q =>
    obtain ⟨n, r⟩ := q
    obtain ⟨n0, n1⟩ := base62_bounds l n r hd
    have h := zzBase62_ok l w hl n r hd
    have e : b62Res l = .tuple #[.int .i64 n, .string (bs r), .bool true] := by unfold b62Res; rw [hd]
    rw [e]
    clear e hd
    go_enter Try.func12, Try.ntmps12
    go_wp2_with fail
    refine h.mono ?_
    rintro e w2 ⟨rfl, hb⟩
    go_wp2_with fail
    go_ret3
    exact ⟨rfl, hb⟩

end Go.Proofs.Ytfblehpiecialaa
