/- ZZIdentifier and the thin package's Identifier. The thin package's Identifier, in the form of a printed function. -/
import Derived.Test.YtkhbmkccbhkolaaDoorIde
import Derived.Test.YtkhbmkccbhkolaaDoorPF
namespace Go.Proofs.YtkhbmkccbhkolaaDoor
set_option linter.unusedVariables false
set_option linter.unusedSimpArgs false
open Go.RowKit

/-- Two variables that a closure writes: a number and a text. -/
def Iv (N : Nat) (w0 : World) (u v : Value) (w : World) : Prop :=
  Below N w0 w ∧ w.heap[N]? = some (.cells #[u] 2 (0, 0)) ∧ w.heap[N + 1]? = some (.cells #[v] 9 (0, 0))
theorem Iv.later {N : Nat} {w0 : World} {u v : Value} (a c : World) (h : Below (N + 2) a c) (k : Iv N w0 u v a) : Iv N w0 u v c :=
  ⟨k.1.trans (h.mono (by omega)), (h.block N (by omega)).trans k.2.1, (h.block (N + 1) (by omega)).trans k.2.2⟩
theorem Iv.cell0 {N : Nat} {w0 w : World} {u v : Value} (k : Iv N w0 u v w) : w.cell? ⟨N, 0, none⟩ = some u := by rw [Lib.cell_of_heap k.2.1]; rfl
theorem Iv.cell1 {N : Nat} {w0 w : World} {u v : Value} (k : Iv N w0 u v w) : w.cell? ⟨N + 1, 0, none⟩ = some v := by rw [Lib.cell_of_heap k.2.2]; rfl
theorem Iv.free0 {N : Nat} {w0 w : World} {u v : Value} (k : Iv N w0 u v w) : w.frozen? ⟨N, 0, none⟩ = false := Lib.frozen_of_heap k.2.1 0
theorem Iv.free1 {N : Nat} {w0 w : World} {u v : Value} (k : Iv N w0 u v w) : w.frozen? ⟨N + 1, 0, none⟩ = false := Lib.frozen_of_heap k.2.2 0
theorem Iv.new (w : World) (u v : Value) : Iv w.heap.size w u v ((w.alloc (.cells #[u] 2)).alloc (.cells #[v] 9)) := by
  refine ⟨((Below.refl _ w).alloc (Nat.le_refl _) _).alloc (by simp) _, ?_, ?_⟩
  · rw [Lib.alloc_old _ _ _ (by simp only [World.size_alloc]; omega)]; exact heap_alloc_new w _
  · have := heap_alloc_new (w.alloc (.cells #[u] 2)) (.cells #[v] 9)
    simp only [World.size_alloc] at this
    exact this
theorem Iv.put {N : Nat} {w0 w : World} {u v x y : Value} (k : Iv N w0 u v w) : Iv N w0 x y ((w.setCell ⟨N, 0, none⟩ x).setCell ⟨N + 1, 0, none⟩ y) := by
  refine ⟨(k.1.setCell (p := ⟨N, 0, none⟩) (Nat.le_refl _) _).setCell (p := ⟨N + 1, 0, none⟩) (by simp) _, ?_, ?_⟩
  · rw [Below.heap_setCell _ _ _ _ (by show N ≠ N + 1; omega)]; simp [World.setCell, Array.getElem?_modify, k.2.1]
  · simp [World.setCell, Array.getElem?_modify, k.2.2]

theorem ideClo_ok (b N : Nat) (w0 w1 : World) (s : RS) (x y : Value) (d : Int) (id r : List UInt8) (hN : N + 1 < b)
    (hv : Iv N w0 x y w1) (hr : RustAt b s w1) (hd : Dm.ident s.str = some (d, id, r)) :
    Calls Tryd.prog 37 #[.pointer (some ⟨b, 0, none⟩), .pointer (some ⟨N, 0, none⟩), .pointer (some ⟨N + 1, 0, none⟩)] w1 fun e w2 =>
      e = .returned (.tuple #[]) ∧ RustAt b (s.adv r) w2 ∧ Mid (N + 2) b w1 w2 ∧ Iv N w0 (.int .i64 d) (.string (bs id)) w2 := by
  have hc := identifier_calls b s w1 hr
  unfold IdePost at hc
  rw [hd] at hc
  have HV := Lib.hid (And.intro hv hr)
  clear hd hv hr
  go_enter Tryd.func37, Tryd.ntmps37
  go_wp2_with fail
  refine hc.mono ?_
  rintro e w2 ⟨rfl, hr2, hb2⟩
  have hv2 : Iv N w0 x y w2 := HV.out.1.later _ _ (hb2.mono (by omega))
  have c0 := hv2.cell0
  have c1 := hv2.cell1
  have f0 := hv2.free0
  have f1 := hv2.free1
  have HS := Lib.hid (And.intro ((hr2.setLow (show N < b by omega) (.int .i64 d)).setLow hN (.string (bs id))) (hv2.put (x := .int .i64 d) (y := .string (bs id))))
  clear hc hv2 hr2
  go_wp2_with fail
  go_end0
  refine ⟨rfl, HS.out.1, ?_, HS.out.2⟩
  intro k hk hk2
  rw [Below.heap_setCell _ _ _ _ (by show k ≠ N + 1; omega), Below.heap_setCell _ _ _ _ (by show k ≠ N; omega)]
  exact hb2.block k (by omega)

theorem ideClo_fails (b N : Nat) (w0 w1 : World) (s : RS) (x y : Value) (hN : N + 1 < b) (hv : Iv N w0 x y w1) (hr : RustAt b s w1) (hd : Dm.ident s.str = none) :
    Calls Tryd.prog 37 #[.pointer (some ⟨b, 0, none⟩), .pointer (some ⟨N, 0, none⟩), .pointer (some ⟨N + 1, 0, none⟩)] w1 fun e w2 =>
      (∃ m o, e = .panicked [{ v := .iface 68 (.agg #[.string m, .int .i64 o]), recovered := false }]) ∧ Mid (N + 2) b w1 w2 ∧ Iv N w0 x y w2 := by
  have hc := identifier_calls b s w1 hr
  unfold IdePost at hc
  rw [hd] at hc
  have HV := Lib.hid (And.intro hv hr)
  clear hd hv hr
  go_enter Tryd.func37, Tryd.ntmps37
  go_wp2_with fail
  refine hc.mono ?_
  rintro e w2 ⟨⟨m, o, rfl⟩, hb2⟩
  exact ⟨rfl, ⟨m, o, rfl⟩, fun k _ hk => hb2.block k (by omega), HV.out.1.later _ _ (hb2.mono (by omega))⟩

theorem enters_ideClo (args : Array Value) (w : World) : (callFunc 37 args).run Tryd.prog w = .ok (.enter 37 args) w :=
  enters_of Tryd.func37 (by kernel_rfl) rfl args w

set_option maxHeartbeats 1000000 in
theorem zzIde_ok (l : List UInt8) (w : World) (hl : l.length ≤ 4611686018427387904) (d : Int) (id r : List UInt8) (hd : Dm.ident l = some (d, id, r)) :
    Calls Tryd.prog 30 #[.string (bs l)] w fun e w' => e = .returned (.tuple #[.int .i64 d, .string (bs id), .string (bs r), .nilIface]) ∧ Below w.heap.size w w' := by
  have hmf : ∀ (fn : Fn) (first cap : Array Value) (w : World), (Instr.makeFunc fn first cap).run Tryd.prog w = .ok (.func fn first cap) w := fun _ _ _ _ => rfl
  have hrun := zzRun_ok l 37 #[.pointer (some ⟨w.heap.size, 0, none⟩), .pointer (some ⟨w.heap.size + 1, 0, none⟩)] ((w.alloc (.cells #[.int .i64 0] 2)).alloc (.cells #[.string ⟨#[]⟩] 9)) hl
    (Iv w.heap.size w (.int .i64 d) (.string (bs id))) enters_ideClo (fun a c h k => k.later a c (by simpa using h)) ((RS.init l).adv r)
    (fun b w1 hb hbel hr => by
      have := ideClo_ok b w.heap.size w w1 (RS.init l) (.int .i64 0) (.string ⟨#[]⟩) d id r (by simp at hb; omega) ((Iv.new w _ _).later _ _ (by simpa using hbel)) hr hd
      simpa using this)
  have HR := Lib.hid hrun
  clear hrun hd
  go_enter Tryd.func30, Tryd.ntmps30
  go_wp2_with fail
  refine HR.out.mono ?_
  rintro e w2 ⟨rfl, hv⟩
  have c0 := hv.cell0
  have c1 := hv.cell1
  have f0 := hv.free0
  have f1 := hv.free1
  have HV := Lib.hid hv
  clear hv HR
  go_wp2_with fail
  go_region
  all_goals go_wp2
  refine bodyPost_ret (v := .tuple #[.int .i64 d, .string (bs id), .string (bs r), .nilIface]) ?_ rfl ⟨rfl, ?_⟩
  · have hp := HV.out.put (x := .int .i64 d) (y := .string (bs id))
    have e0 := hp.cell0
    have e1 := hp.cell1
    simp [results, Tryd.results30, go_sem, e0, e1, RS.adv_str]
  · exact (HV.out.put (x := .int .i64 d) (y := .string (bs id))).1.drew

set_option maxHeartbeats 1000000 in
theorem zzIde_fails (l : List UInt8) (w : World) (hl : l.length ≤ 4611686018427387904) (hd : Dm.ident l = none) :
    Calls Tryd.prog 30 #[.string (bs l)] w fun e w' => (∃ v, e = .returned (.tuple #[.int .i64 0, .string ⟨#[]⟩, .string ⟨#[]⟩, .iface 68 v])) ∧ Below w.heap.size w w' := by
  have hmf : ∀ (fn : Fn) (first cap : Array Value) (w : World), (Instr.makeFunc fn first cap).run Tryd.prog w = .ok (.func fn first cap) w := fun _ _ _ _ => rfl
  have hrun := zzRun_fails l 37 #[.pointer (some ⟨w.heap.size, 0, none⟩), .pointer (some ⟨w.heap.size + 1, 0, none⟩)] ((w.alloc (.cells #[.int .i64 0] 2)).alloc (.cells #[.string ⟨#[]⟩] 9)) hl
    (Iv w.heap.size w (.int .i64 0) (.string ⟨#[]⟩)) enters_ideClo (fun a c h k => k.later a c (by simpa using h))
    (fun b w1 hb hbel hr => by
      have := ideClo_fails b w.heap.size w w1 (RS.init l) (.int .i64 0) (.string ⟨#[]⟩) (by simp at hb; omega) ((Iv.new w _ _).later _ _ (by simpa using hbel)) hr hd
      simpa using this)
  have HR := Lib.hid hrun
  clear hrun hd
  go_enter Tryd.func30, Tryd.ntmps30
  go_wp2_with fail
  refine HR.out.mono ?_
  rintro e w2 ⟨⟨v, rfl⟩, hv⟩
  have c0 := hv.cell0
  have c1 := hv.cell1
  have f0 := hv.free0
  have f1 := hv.free1
  have HV := Lib.hid hv
  clear hv HR
  have hp := HV.out.put (x := .int .i64 0) (y := .string ⟨#[]⟩)
  have HP := Lib.hid (And.intro hp (hp.put (x := .int .i64 0) (y := .string ⟨#[]⟩)))
  have e0 := hp.cell0
  have e1 := hp.cell1
  have g0 := hp.free0
  have g1 := hp.free1
  clear hp
  go_wp2_with fail
  go_region
  all_goals go_wp2
  refine bodyPost_ret (v := .tuple #[.int .i64 0, .string ⟨#[]⟩, .string ⟨#[]⟩, .iface 68 v]) ?_ rfl ⟨⟨v, rfl⟩, ?_⟩
  · have k0 := HP.out.2.cell0
    have k1 := HP.out.2.cell1
    simp [results, Tryd.results30, go_sem, k0, k1]
  · exact HP.out.2.1.drew

/-- The thin package's Identifier, whatever it reads. -/
def ideRes (l : List UInt8) : Value :=
  match Dm.ident l with
  | some (d, id, r) => .tuple #[.int .i64 d, .string (bs id), .string (bs r), .bool true]
  | none => .tuple #[.int .i64 0, .string ⟨#[]⟩, .string ⟨#[]⟩, .bool false]

set_option maxHeartbeats 1000000 in
theorem ide_calls (l : List UInt8) (w : World) (hl : l.length ≤ 4611686018427387904) :
    Calls Tryd.prog 22 #[.string (bs l)] w fun e w' => e = .returned (ideRes l) ∧ Below w.heap.size w w' := by
  cases hd : Dm.ident l with
  | none =>
    have h := zzIde_fails l w hl hd
    have e : ideRes l = .tuple #[.int .i64 0, .string ⟨#[]⟩, .string ⟨#[]⟩, .bool false] := by unfold ideRes; rw [hd]
    rw [e]
    clear e hd
    go_enter Tryd.func22, Tryd.ntmps22
    go_wp2_with fail
    refine h.mono ?_
    rintro e w2 ⟨⟨v, rfl⟩, hb⟩
    go_wp2_with fail
    refine bodyPost_ret (v := .tuple #[.int .i64 0, .string ⟨#[]⟩, .string ⟨#[]⟩, .bool false]) (by simp [results, Tryd.results22, go_sem]) rfl ⟨rfl, hb⟩
  | some q =>
    obtain ⟨d, id, r⟩ := q
    have h := zzIde_ok l w hl d id r hd
    have e : ideRes l = .tuple #[.int .i64 d, .string (bs id), .string (bs r), .bool true] := by unfold ideRes; rw [hd]
    rw [e]
    clear e hd
    go_enter Tryd.func22, Tryd.ntmps22
    go_wp2_with fail
    refine h.mono ?_
    rintro e w2 ⟨rfl, hb⟩
    go_wp2_with fail
    refine bodyPost_ret (v := .tuple #[.int .i64 d, .string (bs id), .string (bs r), .bool true]) (by simp [results, Tryd.results22, go_sem]) rfl ⟨rfl, hb⟩
end Go.Proofs.YtkhbmkccbhkolaaDoor
namespace Go.Proofs.YtkhbmkccbhkolaaDoor
set_option linter.unusedVariables false
set_option linter.unusedSimpArgs false
open Go.RowKit

def impl_Identifier.f (a0 : ByteArray) : Option (Int × ByteArray × ByteArray × Bool) :=
  if a0.size ≤ 4611686018427387904 then
    match Dm.ident a0.data.toList with
    | some (d, t, r) => some (d, bs t, bs r, true)
    | none => some (0, ⟨#[]⟩, ⟨#[]⟩, false)
  else none

theorem impl_Identifier.calls (a0 : ByteArray) (r1 : Int) (r2 : ByteArray) (r3 : ByteArray) (r4 : Bool) (w : World) (h : impl_Identifier.f a0 = some (r1, r2, r3, r4)) :
    Calls Tryd.prog 22 #[.string a0] w fun e w' => e = .returned (.tuple #[.int .i64 r1, .string r2, .string r3, .bool r4]) ∧ Below w.heap.size w w' := by
  unfold impl_Identifier.f at h
  by_cases hs : a0.size ≤ 4611686018427387904
  · rw [if_pos hs] at h
    have hc := ide_calls a0.data.toList w (by rw [Array.length_toList]; exact hs)
    rw [bs_data] at hc
    refine hc.mono ?_
    rintro e w' ⟨rfl, hb⟩
    refine ⟨?_, hb⟩
    unfold ideRes
    cases hd : Dm.ident a0.data.toList with
    | none => rw [hd] at h; simp only [Option.some.injEq, Prod.mk.injEq] at h; obtain ⟨rfl, rfl, rfl, rfl⟩ := h; rfl
    | some q => obtain ⟨d, t, r⟩ := q; rw [hd] at h; simp only [Option.some.injEq, Prod.mk.injEq] at h; obtain ⟨rfl, rfl, rfl, rfl⟩ := h; rfl
  · rw [if_neg hs] at h; cases h
end Go.Proofs.YtkhbmkccbhkolaaDoor
