/- zzRun: the reader is run by a closure; its own panic is turned into an error. -/
import Derived.Test.YtaegllbokgjoeaaDoorStr
import Derived.Test.YtaegllbokgjoeaaDoorCore
import Derived.Defers
import Derived.Recover
import Derived.Laws.Pointers
import Derived.Deep.RegionWith
namespace Go.Proofs.YtaegllbokgjoeaaDoor
set_option linter.unusedVariables false
set_option linter.unusedSimpArgs false
open Go.RowKit

theorem q_ways (Q0 : Exit → Act → World → Prop) : ∃ Q : Exit → Act → World → Prop, (∀ e a w', Q e a w' → Q0 e a w') ∧ Hid (∀ e a w', Q0 e a w' → Q e a w') :=
  ⟨Q0, fun _ _ _ h => h, fun _ _ _ h => h⟩

/-- The deferred closure, behind a run without a panic. -/
theorem catch_idle (p q r : Value) (w : World) :
    CallsD Tryd.prog 26 #[p, q, r] .returning w fun e u' w' => e = .returned (.tuple #[]) ∧ u' = .returning ∧ w' = w := by
  refine callsD_of_wpS Tryd.func26 rfl fun c₀ cs hu => ?_
  apply wpS_seq
  apply wpS_region
  simp [wpOpsS, go_sem, recoverD, hu, Tryd.ntmps26, Exit.thenS]
  apply wpS_seq
  apply wpS_region
  simp [wpOpsS, go_sem, Exit.thenS]
  refine wpS_cond (t := false) (by simp [Act.eval, Array.replicate]) ?_
  simp only [Bool.false_eq_true, if_false]
  refine wpS_of_wp (wp_skip ?_)
  cases c₀
  simp_all [bodyPostS, results, Tryd.results26]

/-- The named results behind a panic that was caught. -/
def Caught (n : Nat) (m : ByteArray) (o : Int) (w w' : World) : Prop :=
  w'.heap[n]? = some (.cells #[.string ⟨#[]⟩] 9 (0, 0)) ∧ w'.heap[n + 1]? = some (.cells #[.string ⟨#[]⟩] 9 (0, 0)) ∧
    w'.heap[n + 1 + 1]? = some (.cells #[.iface 57 (.agg #[.string m, .int .i64 o])] 37 (0, 0)) ∧ Below n w w'

def CatchEnd (n : Nat) (m : ByteArray) (o : Int) (w : World) (e : Exit) (a : Act) (w' : World) : Prop :=
  e = .ret ∧ a.defers = [] ∧ Caught n m o w w'

theorem caught_mk {n : Nat} {x0 x1 x2 : Value} (m : ByteArray) (o : Int) {w : World}
    (h0 : w.heap[n]? = some (.cells #[x0] 9 (0, 0))) (h1 : w.heap[n + 1]? = some (.cells #[x1] 9 (0, 0))) (h2 : w.heap[n + 1 + 1]? = some (.cells #[x2] 37 (0, 0))) (O : Obj) :
    Caught n m o w ((((w.alloc O).setCell ⟨n, 0, none⟩ (.string ⟨#[]⟩)).setCell ⟨n + 1, 0, none⟩ (.string ⟨#[]⟩)).setCell ⟨n + 1 + 1, 0, none⟩ (.iface 57 (.agg #[.string m, .int .i64 o]))).drew := by
  have hlt : n + 1 + 1 < w.heap.size := (Array.getElem?_eq_some_iff.1 h2).1
  have e0 := (Lib.alloc_old w O n (by omega)).trans h0
  have e1 := (Lib.alloc_old w O (n + 1) (by omega)).trans h1
  have e2 := (Lib.alloc_old w O (n + 1 + 1) (by omega)).trans h2
  have q1 : ¬ n + 1 + 1 = n := by omega
  have q2 : ¬ n = n + 1 + 1 := by omega
  have q3 : ¬ n + 1 = n := by omega
  have q4 : ¬ n = n + 1 := by omega
  refine ⟨?_, ?_, ?_, ?_⟩
  · simp [World.drew, World.setCell, Array.getElem?_modify, e0, q1, q2, q3, q4]
  · simp [World.drew, World.setCell, Array.getElem?_modify, e1, q1, q2, q3, q4]
  · simp [World.drew, World.setCell, Array.getElem?_modify, e2, q1, q2, q3, q4]
  · exact (((((Below.refl n w).alloc (by omega) O).setCell (p := ⟨n, 0, none⟩) (Nat.le_refl _) _).setCell (p := ⟨n + 1, 0, none⟩) (by simp) _).setCell (p := ⟨n + 1 + 1, 0, none⟩) (by show n ≤ n + 1 + 1; omega) _).drew

set_option maxRecDepth 100000 in
theorem catch_panicking (n : Nat) (x0 x1 x2 : Value) (m : ByteArray) (o : Int) (older : List PanicEntry) (w : World)
    (h0 : w.heap[n]? = some (.cells #[x0] 9 (0, 0))) (h1 : w.heap[n + 1]? = some (.cells #[x1] 9 (0, 0))) (h2 : w.heap[n + 1 + 1]? = some (.cells #[x2] 37 (0, 0))) :
    CallsD Tryd.prog 26 #[.pointer (some ⟨n, 0, none⟩), .pointer (some ⟨n + 1, 0, none⟩), .pointer (some ⟨n + 1 + 1, 0, none⟩)] (.panicking ({ v := .iface 57 (.agg #[.string m, .int .i64 o]), recovered := false } :: older)) w fun e u' w' =>
      e = .returned (.tuple #[]) ∧ u' = .panicking ({ v := .iface 57 (.agg #[.string m, .int .i64 o]), recovered := true } :: older) ∧ Caught n m o w w' := by
  have hta : ∀ (v : Value) (W : World), (Instr.typeAssert (.iface 57 v) 20 57 true).run Tryd.prog W = .ok (.tuple #[v, .bool true]) W := fun v W => by rfl
  have hlt : n + 1 + 1 < w.heap.size := (Array.getElem?_eq_some_iff.1 h2).1
  refine callsD_of_wpS Tryd.func26 rfl fun c₀ cs hu => ?_
  apply wpS_seq
  apply wpS_region
  simp [wpOpsS, go_sem, recoverD, hu, Tryd.ntmps26, Exit.thenS]
  apply wpS_seq
  apply wpS_region
  simp [wpOpsS, go_sem, Exit.thenS]
  refine wpS_cond (t := true) (by simp [Act.eval, Array.replicate]) ?_
  simp only [if_true]
  apply wpS_seq
  apply wpS_seq
  apply wpS_region
  simp [wpOpsS, go_sem, Exit.thenS, hta]
  apply wpS_seq
  apply wpS_region
  simp [wpOpsS, go_sem, Exit.thenS]
  refine wpS_cond (t := true) (by simp [Act.eval, Array.replicate]) ?_
  simp only [if_true]
  refine wpS_of_wp (wp_mono (Q := CatchEnd n m o w) ?_ ?_)
  · have e0 : ∀ O, (w.alloc O).heap[n]? = _ := fun O => (Lib.alloc_old w O n (by omega)).trans h0
    have e1 : ∀ O, (w.alloc O).heap[n + 1]? = _ := fun O => (Lib.alloc_old w O (n + 1) (by omega)).trans h1
    have e2 : ∀ O, (w.alloc O).heap[n + 1 + 1]? = _ := fun O => (Lib.alloc_old w O (n + 1 + 1) (by omega)).trans h2
    have c0 : ∀ O, (w.alloc O).cell? ⟨n, 0, none⟩ = some x0 := fun O => by rw [Lib.cell_of_heap (e0 O)]; rfl
    have c1 : ∀ O, (w.alloc O).cell? ⟨n + 1, 0, none⟩ = some x1 := fun O => by rw [Lib.cell_of_heap (e1 O)]; rfl
    have c2 : ∀ O, (w.alloc O).cell? ⟨n + 1 + 1, 0, none⟩ = some x2 := fun O => by rw [Lib.cell_of_heap (e2 O)]; rfl
    have z0 : ∀ O, (w.alloc O).frozen? ⟨n, 0, none⟩ = false := fun O => Lib.frozen_of_heap (e0 O) 0
    have z1 : ∀ O, (w.alloc O).frozen? ⟨n + 1, 0, none⟩ = false := fun O => Lib.frozen_of_heap (e1 O) 0
    have z2 : ∀ O, (w.alloc O).frozen? ⟨n + 1 + 1, 0, none⟩ = false := fun O => Lib.frozen_of_heap (e2 O) 0
    have HC := Lib.hid (caught_mk m o h0 h1 h2)
    clear h0 h1 h2 e0 e1 e2 hta hu
    go_wp2
    go_region
    all_goals go_wp2
    all_goals exact ⟨rfl, rfl, HC.out _⟩
  · rintro e a w' ⟨rfl, hd, hc⟩
    cases c₀
    simp_all [bodyPostS, results, Tryd.results26, Exit.thenS]

/-- The state in which a reading begins. -/
def RS.init (l : List UInt8) : RS := { orig := l, str := l, off := 0, out := [], skip := false, lt := 0, last := 0, ng := false, mx := 0 }

/-- The blocks from B on, up to b, are as they were. -/
def Mid (B b : Nat) (w w' : World) : Prop := ∀ k, B ≤ k → k < b → w'.heap[k]? = w.heap[k]?

theorem rust_fresh (l : List UInt8) (w : World) (h : l.length ≤ 4611686018427387904) :
    RustAt w.heap.size (RS.init l) (w.alloc (.cells ((RS.init l).cells (.pointer none) (.slice none 0 0)) 63)) :=
  ⟨⟨Int.le_refl _, by simp [RS.init]; omega⟩, none, .slice none 0 0, heap_alloc_new w _, .inl rfl, World.ownsRow_nil _ _ _ _, by simp [Value.ownBlock]⟩

/-- The world in which a closure of zzRun's is called: three named results, and the state. -/
def startW (l : List UInt8) (w : World) : World :=
  (((w.alloc (.cells #[.string ⟨#[]⟩] 9)).alloc (.cells #[.string ⟨#[]⟩] 9)).alloc (.cells #[.nilIface] 37)).alloc
    (.cells #[.string (bs l), .string (bs l), .int .i64 0, .pointer none, .slice none 0 0, .bool false, .int .i64 0, .int .u8 0, .bool false, .int .i64 0] 63)

theorem start_rust (l : List UInt8) (w : World) (hl : l.length ≤ 4611686018427387904) : RustAt (w.heap.size + 1 + 1 + 1) (RS.init l) (startW l w) := by
  have := rust_fresh l (((w.alloc (.cells #[.string ⟨#[]⟩] 9)).alloc (.cells #[.string ⟨#[]⟩] 9)).alloc (.cells #[.nilIface] 37)) hl
  simp only [World.size_alloc] at this
  exact this
theorem start_below (l : List UInt8) (w : World) : Below w.heap.size w (startW l w) :=
  ((((Below.refl _ w).alloc (Nat.le_refl _) _).alloc (by simp) _).alloc (by simp; omega) _).alloc (by simp; omega) _
theorem start_0 (l : List UInt8) (w : World) : (startW l w).heap[w.heap.size]? = some (.cells #[.string ⟨#[]⟩] 9 (0, 0)) := by
  unfold startW
  rw [Lib.alloc_old _ _ _ (by simp only [World.size_alloc]; omega), Lib.alloc_old _ _ _ (by simp only [World.size_alloc]; omega), Lib.alloc_old _ _ _ (by simp only [World.size_alloc]; omega)]
  exact heap_alloc_new w _
theorem start_1 (l : List UInt8) (w : World) : (startW l w).heap[w.heap.size + 1]? = some (.cells #[.string ⟨#[]⟩] 9 (0, 0)) := by
  unfold startW
  rw [Lib.alloc_old _ _ _ (by simp only [World.size_alloc]; omega), Lib.alloc_old _ _ _ (by simp only [World.size_alloc]; omega)]
  have := heap_alloc_new (w.alloc (.cells #[.string ⟨#[]⟩] 9)) (.cells #[.string ⟨#[]⟩] 9)
  simp only [World.size_alloc] at this
  exact this
theorem start_2 (l : List UInt8) (w : World) : (startW l w).heap[w.heap.size + 1 + 1]? = some (.cells #[.nilIface] 37 (0, 0)) := by
  unfold startW
  rw [Lib.alloc_old _ _ _ (by simp only [World.size_alloc]; omega)]
  have := heap_alloc_new ((w.alloc (.cells #[.string ⟨#[]⟩] 9)).alloc (.cells #[.string ⟨#[]⟩] 9)) (.cells #[.nilIface] 37)
  simp only [World.size_alloc] at this
  exact this

/-- What the reading of the state finds behind String. -/
theorem after_string {n : Nat} {s : RS} {w2 w3 : World} (hr : RustAt (n + 1 + 1 + 1) s w2) (hk : w3.heap[n + 1 + 1 + 1]? = w2.drew.heap[n + 1 + 1 + 1]?) (hb : Below (n + 1 + 1 + 1) w2.drew w3)
    (h : w2.heap[n]? = some (.cells #[.string ⟨#[]⟩] 9 (0, 0)) ∧ w2.heap[n + 1]? = some (.cells #[.string ⟨#[]⟩] 9 (0, 0)) ∧ w2.heap[n + 1 + 1]? = some (.cells #[.nilIface] 37 (0, 0))) :
    w3.cell? ⟨n + 1 + 1 + 1, 1, none⟩ = some (.string (bs s.str)) ∧ w3.cell? ⟨n, 0, none⟩ = some (.string ⟨#[]⟩) ∧ w3.cell? ⟨n + 1, 0, none⟩ = some (.string ⟨#[]⟩) ∧ w3.cell? ⟨n + 1 + 1, 0, none⟩ = some .nilIface ∧
      w3.frozen? ⟨n, 0, none⟩ = false ∧ w3.frozen? ⟨n + 1, 0, none⟩ = false ∧ w3.frozen? ⟨n + 1 + 1, 0, none⟩ = false := by
  obtain ⟨h0, h1, h2⟩ := h
  have e0 := (hb.block n (by omega)).trans h0
  have e1 := (hb.block (n + 1) (by omega)).trans h1
  have e2 := (hb.block (n + 1 + 1) (by omega)).trans h2
  refine ⟨by rw [World.cell?_of_block (w := w2) hk]; exact hr.c1, ?_, ?_, ?_, Lib.frozen_of_heap e0 0, Lib.frozen_of_heap e1 0, Lib.frozen_of_heap e2 0⟩
  · rw [Lib.cell_of_heap e0]; rfl
  · rw [Lib.cell_of_heap e1]; rfl
  · rw [Lib.cell_of_heap e2]; rfl

/-- What the last statement of zzRun leaves: the three results are laid, the closure is still to be called. -/
def RegQ (n : Nat) (s : RS) (w2 : World) : Exit → Act → World → Prop
  | .normal, a, w' => a.defers = [{ target := .fn (.func 26) #[.pointer (some ⟨n, 0, none⟩), .pointer (some ⟨n + 1, 0, none⟩), .pointer (some ⟨n + 1 + 1, 0, none⟩)], args := #[] }] ∧
      a.tmps.getD 4 undef = .pointer (some ⟨n, 0, none⟩) ∧ a.tmps.getD 5 undef = .pointer (some ⟨n + 1, 0, none⟩) ∧ a.tmps.getD 6 undef = .pointer (some ⟨n + 1 + 1, 0, none⟩) ∧
      w'.cell? ⟨n, 0, none⟩ = some (.string (bs s.out)) ∧ w'.cell? ⟨n + 1, 0, none⟩ = some (.string (bs s.str)) ∧ w'.cell? ⟨n + 1 + 1, 0, none⟩ = some .nilIface ∧ Below n w2 w'
  | _, _, _ => False

theorem reg_world {n : Nat} {s : RS} {w2 w3 : World} (hr : RustAt (n + 1 + 1 + 1) s w2) (hb : Below (n + 1 + 1 + 1) w2.drew w3)
    (h : w2.heap[n]? = some (.cells #[.string ⟨#[]⟩] 9 (0, 0)) ∧ w2.heap[n + 1]? = some (.cells #[.string ⟨#[]⟩] 9 (0, 0)) ∧ w2.heap[n + 1 + 1]? = some (.cells #[.nilIface] 37 (0, 0))) :
    ((((w3.setCell ⟨n, 0, none⟩ (.string (bs s.out))).setCell ⟨n + 1, 0, none⟩ (.string (bs s.str))).setCell ⟨n + 1 + 1, 0, none⟩ .nilIface).cell? ⟨n, 0, none⟩ = some (.string (bs s.out)) ∧
    (((w3.setCell ⟨n, 0, none⟩ (.string (bs s.out))).setCell ⟨n + 1, 0, none⟩ (.string (bs s.str))).setCell ⟨n + 1 + 1, 0, none⟩ .nilIface).cell? ⟨n + 1, 0, none⟩ = some (.string (bs s.str)) ∧
    (((w3.setCell ⟨n, 0, none⟩ (.string (bs s.out))).setCell ⟨n + 1, 0, none⟩ (.string (bs s.str))).setCell ⟨n + 1 + 1, 0, none⟩ .nilIface).cell? ⟨n + 1 + 1, 0, none⟩ = some .nilIface) ∧
    Below n w2 (((w3.setCell ⟨n, 0, none⟩ (.string (bs s.out))).setCell ⟨n + 1, 0, none⟩ (.string (bs s.str))).setCell ⟨n + 1 + 1, 0, none⟩ .nilIface) := by
  obtain ⟨h0, h1, h2⟩ := h
  have e0 := (hb.block n (by omega)).trans h0
  have e1 := (hb.block (n + 1) (by omega)).trans h1
  have e2 := (hb.block (n + 1 + 1) (by omega)).trans h2
  have q1 : ¬ n + 1 + 1 = n := by omega
  have q2 : ¬ n = n + 1 + 1 := by omega
  have q3 : ¬ n + 1 = n := by omega
  have q4 : ¬ n = n + 1 := by omega
  refine ⟨⟨?_, ?_, ?_⟩, ((((Below.refl n w2).drew.trans (hb.mono (by omega))).setCell (p := ⟨n, 0, none⟩) (Nat.le_refl _) _).setCell (p := ⟨n + 1, 0, none⟩) (by simp) _).setCell (p := ⟨n + 1 + 1, 0, none⟩) (by show n ≤ n + 1 + 1; omega) _⟩
  · simp [World.cell?, World.setCell, Array.getElem?_modify, e0, q1, q2, q3, q4]
  · simp [World.cell?, World.setCell, Array.getElem?_modify, e1, q1, q2, q3, q4]
  · simp [World.cell?, World.setCell, Array.getElem?_modify, e2, q1, q2, q3, q4]

set_option maxHeartbeats 2000000 in
set_option maxRecDepth 100000 in
theorem zzRun_ok' (l : List UInt8) (K : Nat) (caps : Array Value) (w : World) (hl : l.length ≤ 4611686018427387904) (Φ : World → Prop)
    (hK : ∀ args w, (callFunc K args).run Tryd.prog w = .ok (.enter K args) w)
    (hΦ : ∀ a c, Below w.heap.size a c → Φ a → Φ c) (o t : List UInt8)
    (hf : ∀ b w1, w.heap.size + 3 ≤ b → Below w.heap.size w w1 → RustAt b (RS.init l) w1 →
      Calls Tryd.prog K (#[.pointer (some ⟨b, 0, none⟩)] ++ caps) w1 fun e w2 => e = .returned (.tuple #[]) ∧ (∃ s' : RS, s'.out = o ∧ s'.str = t ∧ RustAt b s' w2) ∧ Mid w.heap.size b w1 w2 ∧ Φ w2) :
    Calls Tryd.prog 14 #[.string (bs l), .func (.func K) #[] caps] w fun e w' =>
      e = .returned (.tuple #[.string (bs o), .string (bs t), .nilIface]) ∧ Φ w' := by
  have hmf : ∀ (fn : Fn) (first cap : Array Value) (w : World), (Instr.makeFunc fn first cap).run Tryd.prog w = .ok (.func fn first cap) w := fun _ _ _ _ => rfl
  go_enter_defers Tryd.func14, Tryd.ntmps14
  go_wp2_with fail
  refine (hf (w.heap.size + 1 + 1 + 1) (startW l w) (by omega) (start_below l w) (start_rust l w hl)).mono ?_
  rintro e w2 ⟨rfl, ⟨s', rfl, rfl, hr2⟩, hmid, hphi⟩
  have e0 := (hmid w.heap.size (Nat.le_refl _) (by omega)).trans (start_0 l w)
  have e1 := (hmid (w.heap.size + 1) (by omega) (by omega)).trans (start_1 l w)
  have e2 := (hmid (w.heap.size + 1 + 1) (by omega) (by omega)).trans (start_2 l w)
  clear hf hmid hK
  generalize w.heap.size = n at *
  have HE := Lib.hid (And.intro e0 (And.intro e1 e2))
  have c1 := hr2.c1
  clear e0 e1 e2
  go_wp2_with fail
  refine wp_mono (Q := RegQ n s' w2) ?_ ?_
  · clear hΦ hphi hmf
    go_region_with (go_at_call 27; refine (string_calls (n + 1 + 1 + 1) s' _ hr2.drew).mono ?_; rintro e w3 ⟨rfl, hk, hb3⟩; obtain ⟨k1, d0, d1, d2, f0, f1, f2⟩ := after_string hr2 hk hb3 HE.out)
    all_goals
      have hW := reg_world hr2 hb3 HE.out
      exact ⟨rfl, rfl, rfl, rfl, hW.1.1, hW.1.2.1, hW.1.2.2, hW.2⟩
  · rintro e a w' hq
    cases e with
    | normal =>
      obtain ⟨hd, t4, t5, t6, d0, d1, d2, hb⟩ := hq
      have hphi' := hΦ _ _ hb hphi
      obtain ⟨tmps, ds⟩ := a
      simp only at hd t4 t5 t6
      subst hd
      rw [Array.getD_eq_getD_getElem?] at t4 t5 t6
      clear hΦ hphi hmf hr2 HE c1 hl
      go_wp2
      refine leaves_cons (f := 26) (args := #[.pointer (some ⟨n, 0, none⟩), .pointer (some ⟨n + 1, 0, none⟩), .pointer (some ⟨n + 1 + 1, 0, none⟩)]) (by simp) (by simp [go_sem]) ?_
      refine (catch_idle _ _ _ _).mono ?_
      rintro e u' w'' ⟨rfl, rfl, rfl⟩
      simp [Leaves, settle, results, Tryd.results14, go_sem, t4, t5, t6, d0, d1, d2]
      exact hphi'
    | _ => exact hq.elim

theorem zzRun_ok (l : List UInt8) (K : Nat) (caps : Array Value) (w : World) (hl : l.length ≤ 4611686018427387904) (Φ : World → Prop)
    (hK : ∀ args w, (callFunc K args).run Tryd.prog w = .ok (.enter K args) w)
    (hΦ : ∀ a c, Below w.heap.size a c → Φ a → Φ c) (s' : RS)
    (hf : ∀ b w1, w.heap.size + 3 ≤ b → Below w.heap.size w w1 → RustAt b (RS.init l) w1 →
      Calls Tryd.prog K (#[.pointer (some ⟨b, 0, none⟩)] ++ caps) w1 fun e w2 => e = .returned (.tuple #[]) ∧ RustAt b s' w2 ∧ Mid w.heap.size b w1 w2 ∧ Φ w2) :
    Calls Tryd.prog 14 #[.string (bs l), .func (.func K) #[] caps] w fun e w' =>
      e = .returned (.tuple #[.string (bs s'.out), .string (bs s'.str), .nilIface]) ∧ Φ w' :=
  zzRun_ok' l K caps w hl Φ hK hΦ s'.out s'.str (fun b w1 h1 h2 h3 => (hf b w1 h1 h2 h3).mono fun e w2 ⟨a, c, d⟩ => ⟨a, ⟨s', rfl, rfl, c⟩, d⟩)

set_option maxHeartbeats 2000000 in
set_option maxRecDepth 100000 in
theorem zzRun_fails (l : List UInt8) (K : Nat) (caps : Array Value) (w : World) (hl : l.length ≤ 4611686018427387904) (Φ : World → Prop)
    (hK : ∀ args w, (callFunc K args).run Tryd.prog w = .ok (.enter K args) w)
    (hΦ : ∀ a c, Below w.heap.size a c → Φ a → Φ c)
    (hf : ∀ b w1, w.heap.size + 3 ≤ b → Below w.heap.size w w1 → RustAt b (RS.init l) w1 →
      Calls Tryd.prog K (#[.pointer (some ⟨b, 0, none⟩)] ++ caps) w1 fun e w2 =>
        (∃ m o, e = .panicked [{ v := .iface 57 (.agg #[.string m, .int .i64 o]), recovered := false }]) ∧ Mid w.heap.size b w1 w2 ∧ Φ w2) :
    Calls Tryd.prog 14 #[.string (bs l), .func (.func K) #[] caps] w fun e w' =>
      (∃ v, e = .returned (.tuple #[.string ⟨#[]⟩, .string ⟨#[]⟩, .iface 57 v])) ∧ Φ w' := by
  have hmf : ∀ (fn : Fn) (first cap : Array Value) (w : World), (Instr.makeFunc fn first cap).run Tryd.prog w = .ok (.func fn first cap) w := fun _ _ _ _ => rfl
  go_enter_defers Tryd.func14, Tryd.ntmps14
  go_wp2_with fail
  refine (hf (w.heap.size + 1 + 1 + 1) (startW l w) (by omega) (start_below l w) (start_rust l w hl)).mono ?_
  rintro e w2 ⟨⟨m, o, rfl⟩, hmid, hphi⟩
  have e0 := (hmid w.heap.size (Nat.le_refl _) (by omega)).trans (start_0 l w)
  have e1 := (hmid (w.heap.size + 1) (by omega) (by omega)).trans (start_1 l w)
  have e2 := (hmid (w.heap.size + 1 + 1) (by omega) (by omega)).trans (start_2 l w)
  clear hf hmid hK
  generalize w.heap.size = n at *
  have HE := Lib.hid (And.intro e0 (And.intro e1 e2))
  clear e0 e1 e2
  go_wp2_with fail
  refine leaves_cons (f := 26) (args := #[.pointer (some ⟨n, 0, none⟩), .pointer (some ⟨n + 1, 0, none⟩), .pointer (some ⟨n + 1 + 1, 0, none⟩)]) (by simp) (by simp [go_sem]) ?_
  refine (catch_panicking n _ _ _ m o [] w2 HE.out.1 HE.out.2.1 HE.out.2.2).mono ?_
  rintro e u' w' ⟨rfl, rfl, h0, h1, h2, hb⟩
  have hphi' := hΦ _ _ hb hphi
  have d0 : w'.cell? ⟨n, 0, none⟩ = some (.string ⟨#[]⟩) := by rw [Lib.cell_of_heap h0]; rfl
  have d1 : w'.cell? ⟨n + 1, 0, none⟩ = some (.string ⟨#[]⟩) := by rw [Lib.cell_of_heap h1]; rfl
  have d2 : w'.cell? ⟨n + 1 + 1, 0, none⟩ = some (.iface 57 (.agg #[.string m, .int .i64 o])) := by rw [Lib.cell_of_heap h2]; rfl
  clear hΦ hphi hmf HE hl h0 h1 h2 hb
  simp [Leaves, settle, results, Tryd.results14, go_sem, d0, d1, d2]
  exact hphi'

end Go.Proofs.YtaegllbokgjoeaaDoor
