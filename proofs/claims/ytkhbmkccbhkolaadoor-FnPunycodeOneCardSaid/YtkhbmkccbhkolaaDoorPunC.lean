/- ZZPunycode and the thin package's Punycode. -/
import Derived.Test.YtkhbmkccbhkolaaDoorExp2
import Derived.Test.YtkhbmkccbhkolaaDoorDec
namespace Go.Proofs.YtkhbmkccbhkolaaDoor
set_option linter.unusedVariables false
set_option linter.unusedSimpArgs false
open Go.RowKit

/-- Two variables: one that a closure reads, one that it writes. -/
def Pv (N : Nat) (w0 : World) (u v : Value) (w : World) : Prop :=
  Below N w0 w ∧ w.heap[N]? = some (.cells #[u] 9 (0, 0)) ∧ w.heap[N + 1]? = some (.cells #[v] 9 (0, 0))
theorem Pv.later {N : Nat} {w0 : World} {u v : Value} (a c : World) (h : Below (N + 2) a c) (k : Pv N w0 u v a) : Pv N w0 u v c :=
  ⟨k.1.trans (h.mono (by omega)), (h.block N (by omega)).trans k.2.1, (h.block (N + 1) (by omega)).trans k.2.2⟩
theorem Pv.cell0 {N : Nat} {w0 w : World} {u v : Value} (k : Pv N w0 u v w) : w.cell? ⟨N, 0, none⟩ = some u := by rw [Lib.cell_of_heap k.2.1]; rfl
theorem Pv.cell1 {N : Nat} {w0 w : World} {u v : Value} (k : Pv N w0 u v w) : w.cell? ⟨N + 1, 0, none⟩ = some v := by rw [Lib.cell_of_heap k.2.2]; rfl
theorem Pv.free1 {N : Nat} {w0 w : World} {u v : Value} (k : Pv N w0 u v w) : w.frozen? ⟨N + 1, 0, none⟩ = false := Lib.frozen_of_heap k.2.2 0
theorem Pv.new (w : World) (u v : Value) : Pv w.heap.size w u v ((w.alloc (.cells #[u] 9)).alloc (.cells #[v] 9)) := by
  refine ⟨((Below.refl _ w).alloc (Nat.le_refl _) _).alloc (by simp) _, ?_, ?_⟩
  · rw [Lib.alloc_old _ _ _ (by simp only [World.size_alloc]; omega)]; exact heap_alloc_new w _
  · have := heap_alloc_new (w.alloc (.cells #[u] 9)) (.cells #[v] 9)
    simp only [World.size_alloc] at this
    exact this
theorem Pv.put {N : Nat} {w0 w : World} {u v x : Value} (k : Pv N w0 u v w) : Pv N w0 u x (w.setCell ⟨N + 1, 0, none⟩ x) := by
  refine ⟨k.1.setCell (p := ⟨N + 1, 0, none⟩) (by simp) _, ?_, ?_⟩
  · rw [Below.heap_setCell _ _ _ _ (by show N ≠ N + 1; omega)]; exact k.2.1
  · simp [World.setCell, Array.getElem?_modify, k.2.2]

theorem punyClo_ok (b N : Nat) (w0 w1 : World) (s : RS) (l : List UInt8) (x : Value) (out : List Int) (hN : N + 1 < b) (hl : l.length ≤ 2147483647) (ha : ∀ c ∈ l.take (Dm.lastU l).toNat, c.toNat < 128)
    (hv : Pv N w0 (.string (bs l)) x w1) (hr : RustAt b s w1) (hd : Dm.expand l = some out) :
    Calls Tryd.prog 35 #[.pointer (some ⟨b, 0, none⟩), .pointer (some ⟨N, 0, none⟩), .pointer (some ⟨N + 1, 0, none⟩)] w1 fun e w2 =>
      e = .returned (.tuple #[]) ∧ RustAt b s w2 ∧ Mid (N + 2) b w1 w2 ∧ Pv N w0 (.string (bs l)) (.string (runesBytes out)) w2 := by
  have hc := expand_calls b s l w1 hr hl ha
  unfold ExpPost at hc
  rw [hd] at hc
  have hlt := hr.lt
  have c0 := hv.cell0
  have HV := Lib.hid (And.intro hv hr)
  clear hd hv ha hr
  go_enter Tryd.func35, Tryd.ntmps35
  go_wp2_with fail
  refine hc.mono ?_
  rintro e w2 ⟨hb2, rfl⟩
  have hv2 := HV.out.1.later _ _ (hb2.mono (by omega))
  have hr2 := HV.out.2.below hb2
  have hc2 := hv2.cell1
  have hf2 := hv2.free1
  have HS := Lib.hid (And.intro (hr2.setLow hN (.string (runesBytes out))) (hv2.put (x := .string (runesBytes out))))
  clear hc hv2 hr2
  go_wp2_with fail
  go_end0
  refine ⟨rfl, HS.out.1, ?_, HS.out.2⟩
  intro k hk hk2
  rw [Below.heap_setCell _ _ _ _ (by show k ≠ N + 1; omega)]
  exact hb2.block k (by omega)

theorem punyClo_fails (b N : Nat) (w0 w1 : World) (s : RS) (l : List UInt8) (x : Value) (hN : N + 1 < b) (hl : l.length ≤ 2147483647) (ha : ∀ c ∈ l.take (Dm.lastU l).toNat, c.toNat < 128)
    (hv : Pv N w0 (.string (bs l)) x w1) (hr : RustAt b s w1) (hd : Dm.expand l = none) :
    Calls Tryd.prog 35 #[.pointer (some ⟨b, 0, none⟩), .pointer (some ⟨N, 0, none⟩), .pointer (some ⟨N + 1, 0, none⟩)] w1 fun e w2 =>
      (∃ m o, e = .panicked [{ v := .iface 68 (.agg #[.string m, .int .i64 o]), recovered := false }]) ∧ Mid (N + 2) b w1 w2 ∧ Pv N w0 (.string (bs l)) x w2 := by
  have hc := expand_calls b s l w1 hr hl ha
  unfold ExpPost at hc
  rw [hd] at hc
  have hlt := hr.lt
  have c0 := hv.cell0
  have HV := Lib.hid (And.intro hv hr)
  clear hd hv ha hr
  go_enter Tryd.func35, Tryd.ntmps35
  go_wp2_with fail
  refine hc.mono ?_
  rintro e w2 ⟨hb2, m, o, rfl⟩
  exact ⟨rfl, ⟨m, o, rfl⟩, fun k _ hk => hb2.block k (by omega), HV.out.1.later _ _ (hb2.mono (by omega))⟩

theorem enters_punyClo (args : Array Value) (w : World) : (callFunc 35 args).run Tryd.prog w = .ok (.enter 35 args) w :=
  enters_of Tryd.func35 (by kernel_rfl) rfl args w

set_option maxHeartbeats 1000000 in
theorem zzPuny_ok (l : List UInt8) (w : World) (hl : l.length ≤ 2147483647) (ha : ∀ c ∈ l.take (Dm.lastU l).toNat, c.toNat < 128) (out : List Int) (hd : Dm.expand l = some out) :
    Calls Tryd.prog 27 #[.string (bs l)] w fun e w' => e = .returned (.tuple #[.string (runesBytes out), .nilIface]) ∧ Below w.heap.size w w' := by
  have hmf : ∀ (fn : Fn) (first cap : Array Value) (w : World), (Instr.makeFunc fn first cap).run Tryd.prog w = .ok (.func fn first cap) w := fun _ _ _ _ => rfl
  have hrun := zzRun_ok [] 35 #[.pointer (some ⟨w.heap.size, 0, none⟩), .pointer (some ⟨w.heap.size + 1, 0, none⟩)] ((w.alloc (.cells #[.string (bs l)] 9)).alloc (.cells #[.string ⟨#[]⟩] 9)) (by simp)
    (Pv w.heap.size w (.string (bs l)) (.string (runesBytes out))) enters_punyClo (fun a c h k => k.later a c (by simpa using h)) (RS.init [])
    (fun b w1 hb hbel hr => by
      have := punyClo_ok b w.heap.size w w1 (RS.init []) l (.string ⟨#[]⟩) out (by simp at hb; omega) hl ha ((Pv.new w _ _).later _ _ (by simpa using hbel)) hr hd
      simpa using this)
  have HR := Lib.hid hrun
  clear hrun hd ha
  go_enter Tryd.func27, Tryd.ntmps27
  go_wp2_with fail
  refine HR.out.mono ?_
  rintro e w2 ⟨rfl, hv⟩
  have hc := hv.cell1
  have hf := hv.free1
  have HV := Lib.hid hv
  clear hv HR
  go_wp2_with fail
  refine bodyPost_ret (v := .tuple #[.string (runesBytes out), .nilIface]) ?_ rfl ⟨rfl, ?_⟩
  · have hc2 : (w2.setCell ⟨w.heap.size + 1, 0, none⟩ (.string (runesBytes out))).cell? ⟨w.heap.size + 1, 0, none⟩ = some (.string (runesBytes out)) := by simp [World.cell?, World.setCell, Array.getElem?_modify, HV.out.2.2]
    simp [results, Tryd.results27, go_sem, hc2]
  · exact HV.out.1.setCell (p := ⟨w.heap.size + 1, 0, none⟩) (by simp) _

set_option maxHeartbeats 1000000 in
theorem zzPuny_fails (l : List UInt8) (w : World) (hl : l.length ≤ 2147483647) (ha : ∀ c ∈ l.take (Dm.lastU l).toNat, c.toNat < 128) (hd : Dm.expand l = none) :
    Calls Tryd.prog 27 #[.string (bs l)] w fun e w' => (∃ v, e = .returned (.tuple #[.string ⟨#[]⟩, .iface 68 v])) ∧ Below w.heap.size w w' := by
  have hmf : ∀ (fn : Fn) (first cap : Array Value) (w : World), (Instr.makeFunc fn first cap).run Tryd.prog w = .ok (.func fn first cap) w := fun _ _ _ _ => rfl
  have hrun := zzRun_fails [] 35 #[.pointer (some ⟨w.heap.size, 0, none⟩), .pointer (some ⟨w.heap.size + 1, 0, none⟩)] ((w.alloc (.cells #[.string (bs l)] 9)).alloc (.cells #[.string ⟨#[]⟩] 9)) (by simp)
    (Pv w.heap.size w (.string (bs l)) (.string ⟨#[]⟩)) enters_punyClo (fun a c h k => k.later a c (by simpa using h))
    (fun b w1 hb hbel hr => by
      have := punyClo_fails b w.heap.size w w1 (RS.init []) l (.string ⟨#[]⟩) (by simp at hb; omega) hl ha ((Pv.new w _ _).later _ _ (by simpa using hbel)) hr hd
      simpa using this)
  have HR := Lib.hid hrun
  clear hrun hd ha
  go_enter Tryd.func27, Tryd.ntmps27
  go_wp2_with fail
  refine HR.out.mono ?_
  rintro e w2 ⟨⟨v, rfl⟩, hv⟩
  have hc := hv.cell1
  have hf := hv.free1
  have HV := Lib.hid hv
  clear hv HR
  go_wp2_with fail
  refine bodyPost_ret (v := .tuple #[.string ⟨#[]⟩, .iface 68 v]) ?_ rfl ⟨⟨v, rfl⟩, ?_⟩
  · simp [results, Tryd.results27, go_sem, World.cell?, World.setCell, Array.getElem?_modify, HV.out.2.2]
  · exact (HV.out.1.setCell (p := ⟨w.heap.size + 1, 0, none⟩) (by simp) _).setCell (p := ⟨w.heap.size + 1, 0, none⟩) (by simp) _

/-- The thin package's Punycode, whatever it reads. -/
def punyRes (l : List UInt8) : Value :=
  match Dm.expand l with
  | some out => .tuple #[.string (runesBytes out), .bool true]
  | none => .tuple #[.string ⟨#[]⟩, .bool false]

theorem puny_calls (l : List UInt8) (w : World) (hl : l.length ≤ 2147483647) (ha : ∀ c ∈ l.take (Dm.lastU l).toNat, c.toNat < 128) :
    Calls Tryd.prog 18 #[.string (bs l)] w fun e w' => e = .returned (punyRes l) ∧ Below w.heap.size w w' := by
  cases hd : Dm.expand l with
  | none =>
    have h := zzPuny_fails l w hl ha hd
    have e : punyRes l = .tuple #[.string ⟨#[]⟩, .bool false] := by unfold punyRes; rw [hd]
    rw [e]
    clear e hd ha
    go_enter Tryd.func18, Tryd.ntmps18
    go_wp2_with fail
    refine h.mono ?_
    rintro e w2 ⟨⟨v, rfl⟩, hb⟩
    go_wp2_with fail
    go_ret2
    exact ⟨rfl, hb⟩
  | some out =>
    have h := zzPuny_ok l w hl ha out hd
    have e : punyRes l = .tuple #[.string (runesBytes out), .bool true] := by unfold punyRes; rw [hd]
    rw [e]
    clear e hd ha
    go_enter Tryd.func18, Tryd.ntmps18
    go_wp2_with fail
    refine h.mono ?_
    rintro e w2 ⟨rfl, hb⟩
    go_wp2_with fail
    go_ret2
    exact ⟨rfl, hb⟩

end Go.Proofs.YtkhbmkccbhkolaaDoor
