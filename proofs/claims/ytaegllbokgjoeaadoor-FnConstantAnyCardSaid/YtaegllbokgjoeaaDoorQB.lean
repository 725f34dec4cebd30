/- ZZConst and the thin package's Constant. The reader's constants: what refers back from the first place is none; the thin package's Constant, of whatever begins with anything. -/
import Derived.Test.YtaegllbokgjoeaaDoorCon2
import Derived.Test.YtaegllbokgjoeaaDoorRun
import Derived.Shelf.Abstract
import Derived.Defers
import Derived.Test.YtaegllbokgjoeaaDoorWWords
namespace Go.Proofs.YtaegllbokgjoeaaDoor
set_option linter.unusedVariables false
set_option linter.unusedSimpArgs false
open Go.RowKit

/-- demangleConst, of whatever begins with no B. -/
theorem const_calls (b : Nat) (s : RS) (w : World) (h : RustAt b s w) (hk : s.skip = false) (hm : s.mx = 0) (h66 : s.str.head? ≠ some 66)
    (hU : Dm.const s.str ≠ .unsaid) (hT : Based StrIs b w) (hlen : s.out.length + s.str.length + 40 ≤ 140737488355328) :
    Calls Tryd.prog 16 #[.pointer (some ⟨b, 0, none⟩)] w fun e w' => ConPost b (Dm.const s.str) s w e w' := by
  cases hs : s.str with
  | nil => exact const_empty b s w h hs
  | cons c r =>
    rw [hs] at h66
    have n66 : c ≠ 66 := fun e => h66 (by rw [e]; rfl)
    by_cases h112 : c = 112
    · subst h112
      have e : Dm.const (112 :: r) = .told [95] r := by simp [Dm.const]
      rw [e]
      exact const_hole b s w h hk hm r hs (by rw [hs, List.length_cons] at hlen; omega)
    · rw [← hs]
      exact const_num b s w h hk hm c r hs n66 h112 hU hT hlen

theorem enters_conClo (args : Array Value) (w : World) : (callFunc 15 args).run Tryd.prog w = .ok (.enter 15 args) w :=
  enters_of Tryd.func15 (by kernel_rfl) rfl args w

theorem conClo_told (b : Nat) (s : RS) (w : World) (t r : List UInt8)
    (hc : Calls Tryd.prog 16 #[.pointer (some ⟨b, 0, none⟩)] w fun e w' => e = .returned (.tuple #[]) ∧ At b s r t w' ∧ Fr b w w') :
    Calls Tryd.prog 15 #[.pointer (some ⟨b, 0, none⟩)] w fun e w' => e = .returned (.tuple #[]) ∧ At b s r t w' ∧ Fr b w w' := by
  go_enter Tryd.func15, Tryd.ntmps15
  go_wp2_with fail
  refine hc.mono ?_
  rintro e w2 ⟨rfl, hr, hb⟩
  have HR := Lib.hid hr
  clear hr
  go_wp2_with fail
  go_end0
  exact ⟨rfl, HR.out, hb⟩
theorem conClo_bad (b : Nat) (w : World)
    (hc : Calls Tryd.prog 16 #[.pointer (some ⟨b, 0, none⟩)] w fun e w' => Fails b w e w') :
    Calls Tryd.prog 15 #[.pointer (some ⟨b, 0, none⟩)] w fun e w' => Fails b w e w' := by
  go_enter Tryd.func15, Tryd.ntmps15
  go_wp2_with fail
  refine hc.mono ?_
  rintro e w2 ⟨⟨m, o, rfl⟩, hb⟩
  exact ⟨rfl, ⟨m, o, rfl⟩, hb⟩

set_option maxHeartbeats 1000000 in
theorem constant_told (l : List UInt8) (w : World) (hl : l.length ≤ 140737488355000) (h66 : l.head? ≠ some 66) (hT : StrIs w) (t r : List UInt8) (hd : Dm.const l = .told t r) :
    Calls Tryd.prog 5 #[.string (bs l)] w fun e w' => e = .returned (.tuple #[.string (bs t), .string (bs r), .bool true]) ∧ Below w.heap.size w w' := by
  have hrun := zzRun_ok' l 15 #[] w (by omega) (Below w.heap.size w) enters_conClo (fun a c h k => k.trans h) t r
    (fun b w1 hb hbel hr => by
      have := const_calls b (RS.init l) w1 hr rfl rfl h66 (by rw [show (RS.init l).str = l from rfl, hd]; simp) (Based.mk' hT (by omega) hbel) (by simp [RS.init]; omega)
      rw [show (RS.init l).str = l from rfl, hd] at this
      refine (conClo_told b _ w1 t r this).mono ?_
      rintro e w2 ⟨he, ⟨_, _, m, hr2⟩, hb2⟩
      exact ⟨he, ⟨_, by simp [RS.wr, RS.init, RS.adv], rfl, hr2⟩, fun k _ hk => hb2.block k hk, hbel.trans (hb2.mono (by omega))⟩)
  have HR := Lib.hid hrun
  clear hrun hd hT
  have hz : Calls Tryd.prog 9 #[.string (bs l)] w fun e w' => e = .returned (.tuple #[.string (bs t), .string (bs r), .nilIface]) ∧ Below w.heap.size w w' := by
    go_enter Tryd.func9, Tryd.ntmps9
    go_wp2_with fail
    refine HR.out.mono ?_
    rintro e w2 ⟨rfl, hv⟩
    go_wp2_with fail
    go_ret3
    exact ⟨rfl, hv⟩
  go_enter Tryd.func5, Tryd.ntmps5
  go_wp2_with fail
  refine hz.mono ?_
  rintro e w2 ⟨rfl, hb⟩
  go_wp2_with fail
  go_ret3
  exact ⟨rfl, hb⟩

set_option maxHeartbeats 1000000 in
theorem constant_fails (l : List UInt8) (w : World) (hl : l.length ≤ 140737488355000)
    (hf : ∀ b w1, w.heap.size + 3 ≤ b → Below w.heap.size w w1 → RustAt b (RS.init l) w1 → Calls Tryd.prog 16 #[.pointer (some ⟨b, 0, none⟩)] w1 fun e w' => Fails b w1 e w') :
    Calls Tryd.prog 5 #[.string (bs l)] w fun e w' => e = .returned (.tuple #[.string ⟨#[]⟩, .string ⟨#[]⟩, .bool false]) ∧ Below w.heap.size w w' := by
  have hrun := zzRun_fails l 15 #[] w (by omega) (Below w.heap.size w) enters_conClo (fun a c h k => k.trans h)
    (fun b w1 hb hbel hr => by
      refine (conClo_bad b w1 (hf b w1 hb hbel hr)).mono ?_
      rintro e w2 ⟨he, hb2⟩
      exact ⟨he, fun k _ hk => hb2.block k hk, hbel.trans (hb2.mono (by omega))⟩)
  have HR := Lib.hid hrun
  clear hrun hf
  have hz : Calls Tryd.prog 9 #[.string (bs l)] w fun e w' => (∃ v, e = .returned (.tuple #[.string ⟨#[]⟩, .string ⟨#[]⟩, .iface 57 v])) ∧ Below w.heap.size w w' := by
    go_enter Tryd.func9, Tryd.ntmps9
    go_wp2_with fail
    refine HR.out.mono ?_
    rintro e w2 ⟨⟨v, rfl⟩, hv⟩
    go_wp2_with fail
    go_ret3
    exact ⟨⟨v, rfl⟩, hv⟩
  go_enter Tryd.func5, Tryd.ntmps5
  go_wp2_with fail
  refine hz.mono ?_
  rintro e w2 ⟨⟨v, rfl⟩, hb⟩
  go_wp2_with fail
  go_ret3
  exact ⟨rfl, hb⟩
theorem constant_bad (l : List UInt8) (w : World) (hl : l.length ≤ 140737488355000) (h66 : l.head? ≠ some 66) (hT : StrIs w) (hd : Dm.const l = .bad) :
    Calls Tryd.prog 5 #[.string (bs l)] w fun e w' => e = .returned (.tuple #[.string ⟨#[]⟩, .string ⟨#[]⟩, .bool false]) ∧ Below w.heap.size w w' :=
  constant_fails l w hl (fun b w1 hb hbel hr => by
    have := const_calls b (RS.init l) w1 hr rfl rfl h66 (by rw [show (RS.init l).str = l from rfl, hd]; simp) (Based.mk' hT (by omega) hbel) (by simp [RS.init]; omega)
    rw [show (RS.init l).str = l from rfl, hd] at this
    exact this)
end Go.Proofs.YtaegllbokgjoeaaDoor
namespace Go.Proofs.YtaegllbokgjoeaaDoor
set_option linter.unusedVariables false
set_option linter.unusedSimpArgs false
open Go.RowKit

theorem checkChar_ok (b : Nat) (s : RS) (c : UInt8) (r : List UInt8) (w : World) (h : RustAt b s w) (hs : s.str = c :: r) :
    Calls Tryd.prog 36 #[.pointer (some ⟨b, 0, none⟩), .int .u8 c.toNat] w fun e w' => e = .returned (.tuple #[]) ∧ RustAt b (s.adv r) w' ∧ Fr b w w' := by
  have h1 := h.c1
  rw [hs] at h1
  have hz := bs_size (c :: r)
  have had := advance_calls b s 1 w h (by rw [hs]; simp)
  rw [show s.str.drop 1 = r from by rw [hs]; rfl] at had
  have HA := Lib.hid had
  clear had hs h
  go_enter Tryd.func36, Tryd.ntmps36
  go_wp2_with fail
  refine HA.out.mono ?_
  rintro e w2 ⟨rfl, hr2, hb2⟩
  have H2 := Lib.hid (And.intro hr2 hb2)
  clear hr2 hb2
  go_wp2_with fail
  go_end0
  exact ⟨rfl, H2.out.1, H2.out.2⟩

theorem fr_drewN {b : Nat} {u w : World} (h : Fr b u w) : ∀ n, Fr b u (w.drewN n) := fun n => ⟨Go.Proofs.YtaegllbokgjoeaaDoorW.PrintWords.pw_below_drewN h.below n, fun k o hk h1 h2 => by rw [heap_drewN]; exact h.kept k o hk h1 h2⟩
theorem panic_end {fn : Func} {Post : Ending → World → Prop} {chain : List PanicEntry} {tmps : Array Value} {w : World} (h : Post (.panicked chain) w) : bodyPostD Tryd.prog fn Post (.panic chain) { tmps := tmps, defers := [] } w := by
  simp [bodyPostD, Leaves, settle]
  exact h
set_option maxHeartbeats 1000000 in
set_option maxRecDepth 100000 in
theorem backref_fails (b : Nat) (s : RS) (w : World) (v : Value) (h : RustAt b s w) (r : List UInt8) (hs : s.str = 66 :: r) (h0 : s.off = 0) (hk : s.skip = false) (hm : s.mx = 0) :
    Calls Tryd.prog 29 #[.pointer (some ⟨b, 0, none⟩), v] w fun e w' => Fails b w e w' := by
  have hlt := h.lt
  have h1 := h.alloc (.cells #[.pointer (some ⟨b, 0, none⟩)] 44 (0, 0))
  have hbx := heap_alloc_new w (.cells #[.pointer (some ⟨b, 0, none⟩)] 44 (0, 0))
  have cx : (w.alloc (.cells #[.pointer (some ⟨b, 0, none⟩)] 44 (0, 0))).cell? ⟨w.heap.size, 0, none⟩ = some (.pointer (some ⟨b, 0, none⟩)) := by rw [Lib.cell_of_heap hbx]; rfl
  have c2 := h1.c2
  rw [h0] at c2
  have HC := Lib.hid (checkChar_ok b s 66 r _ h1 hs)
  have HBX := Lib.hid hbx
  have HF1 : Hid (Fr b w (w.alloc (.cells #[.pointer (some ⟨b, 0, none⟩)] 44 (0, 0)))) := Lib.hid ((Fr.refl b w).alloc (Nat.le_of_lt hlt) _)
  clear h1 hbx h
  go_enter_defers Tryd.func29, Tryd.ntmps29
  go_wp2_with fail
  have hnb : ∀ (x : Value) c fz, (Obj.cells #[x] 44 (0, 0)) ≠ .cells c 5 fz := by
    intro x c fz e; injection e with _ e2 _; exact absurd e2 (by decide)
  refine HC.out.mono ?_
  rintro e w2 ⟨rfl, hr2, hf2⟩
  have hx2 := hf2.other HBX.out (by omega) (hnb _)
  have cx2 : w2.cell? ⟨w.heap.size, 0, none⟩ = some (.pointer (some ⟨b, 0, none⟩)) := by rw [Lib.cell_of_heap hx2]; rfl
  have HB := Lib.hid (base62Number_calls b (s.adv r) w2 hr2)
  have HX2 := Lib.hid hx2
  have HF2 := Lib.hid (HF1.out.trans hf2)
  have HSK : Hid ((s.adv r).skip = false) := hk
  have HMX : Hid ((s.adv r).mx = 0) := hm
  clear hr2 hf2 hx2 cx c2 hs h0 hk hm HC
  generalize s.adv r = s2 at *
  go_wp2_with fail
  refine HB.out.mono ?_
  intro e w3 hp3
  unfold B62Post at hp3
  cases hb62 : Dm.base62 s2.str with
  | none =>
    rw [hb62] at hp3
    obtain ⟨⟨m, o, rfl⟩, hf3⟩ := hp3
    have HE : Hid (Fails b w (.panicked [{ v := .iface 57 (.agg #[.string m, .int .i64 o]), recovered := false }]) w3) := Lib.hid ⟨⟨m, o, rfl⟩, HF2.out.trans hf3⟩
    clear hf3
    go_wp2_with fail
    exact panic_end HE.out
  | some p =>
    obtain ⟨n, q⟩ := p
    rw [hb62] at hp3
    obtain ⟨rfl, hr3, hf3⟩ := hp3
    have hx3 := hf3.other HX2.out (by omega) (hnb _)
    have cx3 : w3.cell? ⟨w.heap.size, 0, none⟩ = some (.pointer (some ⟨b, 0, none⟩)) := by rw [Lib.cell_of_heap hx3]; rfl
    have c5 := hr3.c5
    have c9 := hr3.c9
    rw [show (s2.adv q).skip = false from HSK.out] at c5
    rw [show (s2.adv q).mx = 0 from HMX.out] at c9
    have HR3 := Lib.hid hr3
    have HF3 := Lib.hid (HF2.out.trans hf3)
    clear hr3 hf3 hx3 cx2 hb62
    by_cases hn : n < 0
    · go_wp2_with fail
      repeat (go_quiet (fail); try go_wp2_with fail)
      refine (fail_calls b _ _ _ (HR3.out.drewN _)).mono ?_
      rintro e w4 ⟨⟨m, o, rfl⟩, hf4⟩
      have HE : Hid (Fails b w (.panicked [{ v := .iface 57 (.agg #[.string m, .int .i64 o]), recovered := false }]) w4) := Lib.hid ⟨⟨m, o, rfl⟩, (fr_drewN HF3.out _).trans hf4⟩
      clear hf4
      go_wp2_with fail
      exact panic_end HE.out
    · have hn2 : (0 : Int) ≤ n := by omega
      go_wp2_with fail
      repeat (go_quiet (fail); try go_wp2_with fail)
      refine (fail_calls b _ _ _ (HR3.out.drewN _)).mono ?_
      rintro e w4 ⟨⟨m, o, rfl⟩, hf4⟩
      have HE : Hid (Fails b w (.panicked [{ v := .iface 57 (.agg #[.string m, .int .i64 o]), recovered := false }]) w4) := Lib.hid ⟨⟨m, o, rfl⟩, (fr_drewN HF3.out _).trans hf4⟩
      clear hf4
      go_wp2_with fail
      exact panic_end HE.out

set_option maxHeartbeats 1000000 in
set_option maxRecDepth 100000 in
theorem const_back (b : Nat) (s : RS) (w : World) (h : RustAt b s w) (r : List UInt8) (hs : s.str = 66 :: r) (h0 : s.off = 0) (hk : s.skip = false) (hm : s.mx = 0) :
    Calls Tryd.prog 16 #[.pointer (some ⟨b, 0, none⟩)] w fun e w' => Fails b w e w' := by
  have hmf : ∀ (fn : Fn) (first cap : Array Value) (w : World), (Instr.makeFunc fn first cap).run Tryd.prog w = .ok (.func fn first cap) w := fun _ _ _ _ => rfl
  have c1 := h.c1
  rw [hs] at c1
  have hz := bs_size (66 :: r)
  have HB := Lib.hid (backref_fails b s w (.func (.func 16) #[.pointer (some ⟨b, 0, none⟩)] #[]) h r hs h0 hk hm)
  clear h hs h0 hk hm
  go_enter Tryd.func16, Tryd.ntmps16
  go_step3
  go_wp2_with fail
  refine HB.out.mono ?_
  rintro e w2 ⟨⟨m, o, rfl⟩, hf⟩
  exact ⟨rfl, ⟨m, o, rfl⟩, hf⟩
/-- The thin package's Constant refuses whatever the reader refuses, whatever it begins with. -/
theorem constant_refused (l : List UInt8) (w : World) (hl : l.length ≤ 140737488355000) (hT : StrIs w) (hd : Dm.const l = .bad) :
    Calls Tryd.prog 5 #[.string (bs l)] w fun e w' => e = .returned (.tuple #[.string ⟨#[]⟩, .string ⟨#[]⟩, .bool false]) ∧ Below w.heap.size w w' := by
  by_cases h66 : l.head? = some 66
  · obtain ⟨r, rfl⟩ : ∃ r, l = 66 :: r := by
      cases l with
      | nil => cases h66
      | cons c r => cases h66; exact ⟨r, rfl⟩
    exact constant_fails (66 :: r) w hl (fun b w1 hb hbel hr => const_back b (RS.init (66 :: r)) w1 hr r rfl rfl rfl rfl)
  · exact constant_bad l w hl h66 hT hd
theorem const_not66 {l t r : List UInt8} (h : Dm.const l = .told t r) : l.head? ≠ some 66 := by
  intro e
  cases l with
  | nil => cases e
  | cons c l => cases e; simp [Dm.const] at h
end Go.Proofs.YtaegllbokgjoeaaDoor
