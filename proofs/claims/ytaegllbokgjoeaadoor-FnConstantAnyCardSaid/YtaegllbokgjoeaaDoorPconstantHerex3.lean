/- Written by a program of this session (wip/tools/myprint.py) with the kit's print: contracts of the functions that one statement reaches; functions that are proved by hand are taken as printed. Conditions: none. -/
import Derived.Test.YtaegllbokgjoeaaDoorPconstantHerex0
import Derived.Test.YtaegllbokgjoeaaDoorPconstantHerex1
namespace Go.Proofs.YtaegllbokgjoeaaDoor.PconstantHere
open Go.RowKit Go.Proofs.YtaegllbokgjoeaaDoorW.PrintWords Go.Proofs.YtaegllbokgjoeaaDoorW.PrintLast Go.Proofs.YtaegllbokgjoeaaDoorW.PrintMore
attribute [local go_sem] max2_int min2_int max_two min_two max_three min_three max_four min_four   -- for this text's walks alone
set_option linter.unusedVariables false
set_option linter.unusedSimpArgs false

/-! ### spec_rustReader_base62: function 35 -/
mutual
def spec_rustReader_base62.l0 : Nat → Int → ByteArray → Int → List Int → Int → Int → Int → Bool → Bool → Int → Bool → Option (Int × ByteArray × Int × Int × Int × Int × Bool × Bool × Int × Bool)
  | 0, _, _, _, _, _, _, _, _, _, _, _ => none
  | k + 1, x3, x1000, x1001, x1002, x1003, x1004, x1005, x1006, x1007, x1008, x1009 => if x1004 = 0 then ((spec_rustReader_next.f x1000 x1001 x1002 x1003 x1004 x1005 x1006 x1007 x1008 x1009).bind fun bt265 => (if bt265.1 ≥ 48 then (spec_rustReader_base62.j1 k x3 bt265.1 (decide (bt265.1 ≤ 57)) bt265.2.1 bt265.2.2.1 x1002 bt265.2.2.2.1 bt265.2.2.2.2.1 bt265.2.2.2.2.2.1 bt265.2.2.2.2.2.2.1 bt265.2.2.2.2.2.2.2.1 bt265.2.2.2.2.2.2.2.2.1 bt265.2.2.2.2.2.2.2.2.2) else (spec_rustReader_base62.j1 k x3 bt265.1 false bt265.2.1 bt265.2.2.1 x1002 bt265.2.2.2.1 bt265.2.2.2.2.1 bt265.2.2.2.2.2.1 bt265.2.2.2.2.2.2.1 bt265.2.2.2.2.2.2.2.1 bt265.2.2.2.2.2.2.2.2.1 bt265.2.2.2.2.2.2.2.2.2))) else (some (0, x1000, x1001, x1003, x1004, x1005, x1006, x1007, x1008, x1009))
def spec_rustReader_base62.j1 : Nat → Int → Int → Bool → ByteArray → Int → List Int → Int → Int → Int → Bool → Bool → Int → Bool → Option (Int × ByteArray × Int × Int × Int × Int × Bool × Bool × Int × Bool)
  | 0, _, _, _, _, _, _, _, _, _, _, _, _, _ => none
  | k + 1, x3, x4, x17, x1000, x1001, x1002, x1003, x1004, x1005, x1006, x1007, x1008, x1009 => if x17 = true then (if x3 ≥ 74382032555280449 then ((spec_rustReader_stop.f x1000 x1001 x1002 x1003 x1004 x1005 x1006 x1007 x1008 x1009 2).bind fun bt275 => (some (0, bt275.1, bt275.2.1, bt275.2.2.1, bt275.2.2.2.1, bt275.2.2.2.2.1, bt275.2.2.2.2.2.1, bt275.2.2.2.2.2.2.1, bt275.2.2.2.2.2.2.2.1, bt275.2.2.2.2.2.2.2.2))) else (spec_rustReader_base62.l0 k (IntKind.u64.wrap ((IntKind.u64.wrap (x3 * 62)) + ((x4 - 48) % 256))) x1000 (wrap64 (x1001 + 1)) x1002 x1003 x1004 x1005 x1006 x1007 x1008 x1009)) else (if x4 ≥ 97 then (spec_rustReader_base62.j2 k x3 x4 (decide (x4 ≤ 122)) x1000 x1001 x1002 x1003 x1004 x1005 x1006 x1007 x1008 x1009) else (spec_rustReader_base62.j2 k x3 x4 false x1000 x1001 x1002 x1003 x1004 x1005 x1006 x1007 x1008 x1009))
def spec_rustReader_base62.j2 : Nat → Int → Int → Bool → ByteArray → Int → List Int → Int → Int → Int → Bool → Bool → Int → Bool → Option (Int × ByteArray × Int × Int × Int × Int × Bool × Bool × Int × Bool)
  | 0, _, _, _, _, _, _, _, _, _, _, _, _, _ => none
  | k + 1, x3, x4, x27, x1000, x1001, x1002, x1003, x1004, x1005, x1006, x1007, x1008, x1009 => if x27 = true then (if x3 ≥ 74382032555280449 then ((spec_rustReader_stop.f x1000 x1001 x1002 x1003 x1004 x1005 x1006 x1007 x1008 x1009 2).bind fun bt284 => (some (0, bt284.1, bt284.2.1, bt284.2.2.1, bt284.2.2.2.1, bt284.2.2.2.2.1, bt284.2.2.2.2.2.1, bt284.2.2.2.2.2.2.1, bt284.2.2.2.2.2.2.2.1, bt284.2.2.2.2.2.2.2.2))) else (spec_rustReader_base62.l0 k (IntKind.u64.wrap ((IntKind.u64.wrap (x3 * 62)) + (((x4 - 97) % 256) + 10))) x1000 (wrap64 (x1001 + 1)) x1002 x1003 x1004 x1005 x1006 x1007 x1008 x1009)) else (if x4 ≥ 65 then (spec_rustReader_base62.j3 k x3 x4 (decide (x4 ≤ 90)) x1000 x1001 x1002 x1003 x1004 x1005 x1006 x1007 x1008 x1009) else (spec_rustReader_base62.j3 k x3 x4 false x1000 x1001 x1002 x1003 x1004 x1005 x1006 x1007 x1008 x1009))
def spec_rustReader_base62.j3 : Nat → Int → Int → Bool → ByteArray → Int → List Int → Int → Int → Int → Bool → Bool → Int → Bool → Option (Int × ByteArray × Int × Int × Int × Int × Bool × Bool × Int × Bool)
  | 0, _, _, _, _, _, _, _, _, _, _, _, _, _ => none
  | k + 1, x3, x4, x38, x1000, x1001, x1002, x1003, x1004, x1005, x1006, x1007, x1008, x1009 => if x38 = true then (if x3 ≥ 74382032555280449 then ((spec_rustReader_stop.f x1000 x1001 x1002 x1003 x1004 x1005 x1006 x1007 x1008 x1009 2).bind fun bt293 => (some (0, bt293.1, bt293.2.1, bt293.2.2.1, bt293.2.2.2.1, bt293.2.2.2.2.1, bt293.2.2.2.2.2.1, bt293.2.2.2.2.2.2.1, bt293.2.2.2.2.2.2.2.1, bt293.2.2.2.2.2.2.2.2))) else (spec_rustReader_base62.l0 k (IntKind.u64.wrap ((IntKind.u64.wrap (x3 * 62)) + (((x4 - 65) % 256) + 36))) x1000 (wrap64 (x1001 + 1)) x1002 x1003 x1004 x1005 x1006 x1007 x1008 x1009)) else (if x4 = 95 then (some (IntKind.u64.wrap (x3 + 1), x1000, wrap64 (x1001 + 1), x1003, x1004, x1005, x1006, x1007, x1008, x1009)) else ((spec_rustReader_stop.f x1000 x1001 x1002 x1003 x1004 x1005 x1006 x1007 x1008 x1009 1).bind fun bt302 => (some (0, bt302.1, bt302.2.1, bt302.2.2.1, bt302.2.2.2.1, bt302.2.2.2.2.1, bt302.2.2.2.2.2.1, bt302.2.2.2.2.2.2.1, bt302.2.2.2.2.2.2.2.1, bt302.2.2.2.2.2.2.2.2))))
end
def spec_rustReader_base62.f (k : Nat) (s0_0 : ByteArray) (s0_1 : Int) (s0_2 : List Int) (s0_3 : Int) (s0_4 : Int) (s0_5 : Int) (s0_6 : Bool) (s0_7 : Bool) (s0_8 : Int) (s0_9 : Bool) : Option (Int × ByteArray × Int × Int × Int × Int × Bool × Bool × Int × Bool) := (spec_rustReader_take.f s0_0 s0_1 s0_2 s0_3 s0_4 s0_5 s0_6 s0_7 s0_8 s0_9 95).bind fun bt255 => (if bt255.1 = true then (some (0, bt255.2.1, bt255.2.2.1, bt255.2.2.2.1, bt255.2.2.2.2.1, bt255.2.2.2.2.2.1, bt255.2.2.2.2.2.2.1, bt255.2.2.2.2.2.2.2.1, bt255.2.2.2.2.2.2.2.2.1, bt255.2.2.2.2.2.2.2.2.2)) else (spec_rustReader_base62.l0 k 0 bt255.2.1 bt255.2.2.1 s0_2 bt255.2.2.2.1 bt255.2.2.2.2.1 bt255.2.2.2.2.2.1 bt255.2.2.2.2.2.2.1 bt255.2.2.2.2.2.2.2.1 bt255.2.2.2.2.2.2.2.2.1 bt255.2.2.2.2.2.2.2.2.2))
theorem spec_rustReader_base62.mono_l : ∀ k, (∀ y0 y1 y2 y3 y4 y5 y6 y7 y8 y9 y10, LeO (spec_rustReader_base62.l0 k y0 y1 y2 y3 y4 y5 y6 y7 y8 y9 y10) (spec_rustReader_base62.l0 (k + 1) y0 y1 y2 y3 y4 y5 y6 y7 y8 y9 y10)) ∧ (∀ y0 y1 y2 y3 y4 y5 y6 y7 y8 y9 y10 y11 y12, LeO (spec_rustReader_base62.j1 k y0 y1 y2 y3 y4 y5 y6 y7 y8 y9 y10 y11 y12) (spec_rustReader_base62.j1 (k + 1) y0 y1 y2 y3 y4 y5 y6 y7 y8 y9 y10 y11 y12)) ∧ (∀ y0 y1 y2 y3 y4 y5 y6 y7 y8 y9 y10 y11 y12, LeO (spec_rustReader_base62.j2 k y0 y1 y2 y3 y4 y5 y6 y7 y8 y9 y10 y11 y12) (spec_rustReader_base62.j2 (k + 1) y0 y1 y2 y3 y4 y5 y6 y7 y8 y9 y10 y11 y12)) ∧ (∀ y0 y1 y2 y3 y4 y5 y6 y7 y8 y9 y10 y11 y12, LeO (spec_rustReader_base62.j3 k y0 y1 y2 y3 y4 y5 y6 y7 y8 y9 y10 y11 y12) (spec_rustReader_base62.j3 (k + 1) y0 y1 y2 y3 y4 y5 y6 y7 y8 y9 y10 y11 y12))
  | 0 => ⟨fun _ _ _ _ _ _ _ _ _ _ _ r h => by simp [spec_rustReader_base62.l0] at h, fun _ _ _ _ _ _ _ _ _ _ _ _ _ r h => by simp [spec_rustReader_base62.j1] at h, fun _ _ _ _ _ _ _ _ _ _ _ _ _ r h => by simp [spec_rustReader_base62.j2] at h, fun _ _ _ _ _ _ _ _ _ _ _ _ _ r h => by simp [spec_rustReader_base62.j3] at h⟩
  | k + 1 => by
    obtain ⟨ih0, ih1, ih2, ih3⟩ := spec_rustReader_base62.mono_l k
    refine ⟨?_, ?_, ?_, ?_⟩
    · intro y0 y1 y2 y3 y4 y5 y6 y7 y8 y9 y10
      unfold spec_rustReader_base62.l0
      repeat' first
      | (with_reducible exact ih0 _ _ _ _ _ _ _ _ _ _ _)
      | (with_reducible exact ih1 _ _ _ _ _ _ _ _ _ _ _ _ _)
      | (with_reducible exact ih2 _ _ _ _ _ _ _ _ _ _ _ _ _)
      | (with_reducible exact ih3 _ _ _ _ _ _ _ _ _ _ _ _ _)
      | (with_reducible exact LeO.refl _)
      | (with_reducible exact LeO.none _)
      | (with_reducible refine LeO.ite ?_ ?_)
      | (with_reducible refine LeO.bind ?_ (fun _ => ?_))
      | exact ih0 _ _ _ _ _ _ _ _ _ _ _
      | exact ih1 _ _ _ _ _ _ _ _ _ _ _ _ _
      | exact ih2 _ _ _ _ _ _ _ _ _ _ _ _ _
      | exact ih3 _ _ _ _ _ _ _ _ _ _ _ _ _
      | exact LeO.none _
      | refine LeO.ite ?_ ?_
      | refine LeO.bind ?_ (fun _ => ?_)
    · intro y0 y1 y2 y3 y4 y5 y6 y7 y8 y9 y10 y11 y12
      unfold spec_rustReader_base62.j1
      repeat' first
      | (with_reducible exact ih0 _ _ _ _ _ _ _ _ _ _ _)
      | (with_reducible exact ih1 _ _ _ _ _ _ _ _ _ _ _ _ _)
      | (with_reducible exact ih2 _ _ _ _ _ _ _ _ _ _ _ _ _)
      | (with_reducible exact ih3 _ _ _ _ _ _ _ _ _ _ _ _ _)
      | (with_reducible exact LeO.refl _)
      | (with_reducible exact LeO.none _)
      | (with_reducible refine LeO.ite ?_ ?_)
      | (with_reducible refine LeO.bind ?_ (fun _ => ?_))
      | exact ih0 _ _ _ _ _ _ _ _ _ _ _
      | exact ih1 _ _ _ _ _ _ _ _ _ _ _ _ _
      | exact ih2 _ _ _ _ _ _ _ _ _ _ _ _ _
      | exact ih3 _ _ _ _ _ _ _ _ _ _ _ _ _
      | exact LeO.none _
      | refine LeO.ite ?_ ?_
      | refine LeO.bind ?_ (fun _ => ?_)
    · intro y0 y1 y2 y3 y4 y5 y6 y7 y8 y9 y10 y11 y12
      unfold spec_rustReader_base62.j2
      repeat' first
      | (with_reducible exact ih0 _ _ _ _ _ _ _ _ _ _ _)
      | (with_reducible exact ih1 _ _ _ _ _ _ _ _ _ _ _ _ _)
      | (with_reducible exact ih2 _ _ _ _ _ _ _ _ _ _ _ _ _)
      | (with_reducible exact ih3 _ _ _ _ _ _ _ _ _ _ _ _ _)
      | (with_reducible exact LeO.refl _)
      | (with_reducible exact LeO.none _)
      | (with_reducible refine LeO.ite ?_ ?_)
      | (with_reducible refine LeO.bind ?_ (fun _ => ?_))
      | exact ih0 _ _ _ _ _ _ _ _ _ _ _
      | exact ih1 _ _ _ _ _ _ _ _ _ _ _ _ _
      | exact ih2 _ _ _ _ _ _ _ _ _ _ _ _ _
      | exact ih3 _ _ _ _ _ _ _ _ _ _ _ _ _
      | exact LeO.none _
      | refine LeO.ite ?_ ?_
      | refine LeO.bind ?_ (fun _ => ?_)
    · intro y0 y1 y2 y3 y4 y5 y6 y7 y8 y9 y10 y11 y12
      unfold spec_rustReader_base62.j3
      repeat' first
      | (with_reducible exact ih0 _ _ _ _ _ _ _ _ _ _ _)
      | (with_reducible exact ih1 _ _ _ _ _ _ _ _ _ _ _ _ _)
      | (with_reducible exact ih2 _ _ _ _ _ _ _ _ _ _ _ _ _)
      | (with_reducible exact ih3 _ _ _ _ _ _ _ _ _ _ _ _ _)
      | (with_reducible exact LeO.refl _)
      | (with_reducible exact LeO.none _)
      | (with_reducible refine LeO.ite ?_ ?_)
      | (with_reducible refine LeO.bind ?_ (fun _ => ?_))
      | exact ih0 _ _ _ _ _ _ _ _ _ _ _
      | exact ih1 _ _ _ _ _ _ _ _ _ _ _ _ _
      | exact ih2 _ _ _ _ _ _ _ _ _ _ _ _ _
      | exact ih3 _ _ _ _ _ _ _ _ _ _ _ _ _
      | exact LeO.none _
      | refine LeO.ite ?_ ?_
      | refine LeO.bind ?_ (fun _ => ?_)
theorem spec_rustReader_base62.mono : ∀ a0 a1 a2 a3 a4 a5 a6 a7 a8 a9 k, LeO (spec_rustReader_base62.f k a0 a1 a2 a3 a4 a5 a6 a7 a8 a9) (spec_rustReader_base62.f (k + 1) a0 a1 a2 a3 a4 a5 a6 a7 a8 a9) := by
  intro a0 a1 a2 a3 a4 a5 a6 a7 a8 a9 k
  obtain ⟨ih0, ih1, ih2, ih3⟩ := spec_rustReader_base62.mono_l k
  unfold spec_rustReader_base62.f
  repeat' first
      | (with_reducible exact ih0 _ _ _ _ _ _ _ _ _ _ _)
      | (with_reducible exact ih1 _ _ _ _ _ _ _ _ _ _ _ _ _)
      | (with_reducible exact ih2 _ _ _ _ _ _ _ _ _ _ _ _ _)
      | (with_reducible exact ih3 _ _ _ _ _ _ _ _ _ _ _ _ _)
      | (with_reducible exact LeO.refl _)
      | (with_reducible exact LeO.none _)
      | (with_reducible refine LeO.ite ?_ ?_)
      | (with_reducible refine LeO.bind ?_ (fun _ => ?_))
      | exact ih0 _ _ _ _ _ _ _ _ _ _ _
      | exact ih1 _ _ _ _ _ _ _ _ _ _ _ _ _
      | exact ih2 _ _ _ _ _ _ _ _ _ _ _ _ _
      | exact ih3 _ _ _ _ _ _ _ _ _ _ _ _ _
      | exact LeO.none _
      | refine LeO.ite ?_ ?_
      | refine LeO.bind ?_ (fun _ => ?_)
set_option maxHeartbeats 8000000 in
set_option maxRecDepth 100000 in
theorem spec_rustReader_base62.calls (k : Nat) (g : Nat) (s0_0 : ByteArray) (s0_1 : Int) (s0_2 : List Int) (s0_3 : Int) (s0_4 : Int) (s0_5 : Int) (s0_6 : Bool) (s0_7 : Bool) (s0_8 : Int) (s0_9 : Bool) (r1 : Int) (r2 : ByteArray) (r3 : Int) (r4 : Int) (r5 : Int) (r6 : Int) (r7 : Bool) (r8 : Bool) (r9 : Int) (r10 : Bool) (w0 w : World) (hI : IsS34 w0 w g s0_0 s0_1 s0_2 s0_3 s0_4 s0_5 s0_6 s0_7 s0_8 s0_9) (hB : Below w0.heap.size w0 w) (h : spec_rustReader_base62.f k s0_0 s0_1 s0_2 s0_3 s0_4 s0_5 s0_6 s0_7 s0_8 s0_9 = some (r1, r2, r3, r4, r5, r6, r7, r8, r9, r10)) :
    Calls Tryd.prog 35 #[.pointer (some ⟨g, 0, none⟩)] w fun e w' => e = .returned (.int .u64 r1) ∧ IsS34 w0 w' g r2 r3 s0_2 r4 r5 r6 r7 r8 r9 r10 ∧ Below w0.heap.size w0 w' ∧ KeepBut w w' g none := by
  have HI0 := Aside0.mk hI
  have HK := Aside0.mk (KeepBut.refl w g none)
  have HL := Aside0.mk hB.size
  clear hI
  have HW0 := Aside0.mk hB.size
  have HB := Aside0.mk hB
  clear hB
  have H : ((spec_rustReader_take.f s0_0 s0_1 s0_2 s0_3 s0_4 s0_5 s0_6 s0_7 s0_8 s0_9 95).bind fun bt255 => (if bt255.1 = true then (some (0, bt255.2.1, bt255.2.2.1, bt255.2.2.2.1, bt255.2.2.2.2.1, bt255.2.2.2.2.2.1, bt255.2.2.2.2.2.2.1, bt255.2.2.2.2.2.2.2.1, bt255.2.2.2.2.2.2.2.2.1, bt255.2.2.2.2.2.2.2.2.2)) else (spec_rustReader_base62.l0 k 0 bt255.2.1 bt255.2.2.1 s0_2 bt255.2.2.2.1 bt255.2.2.2.2.1 bt255.2.2.2.2.2.1 bt255.2.2.2.2.2.2.1 bt255.2.2.2.2.2.2.2.1 bt255.2.2.2.2.2.2.2.2.1 bt255.2.2.2.2.2.2.2.2.2))) = some (r1, r2, r3, r4, r5, r6, r7, r8, r9, r10) := h
  clear h
  replace H := Option.bind_eq_some_iff.mp H
  obtain ⟨⟨t255, t256, t257, t258, t259, t260, t261, t262, t263, t264⟩, A20, H⟩ := H
  replace H : (if t255 = true then (some (0, t256, t257, t258, t259, t260, t261, t262, t263, t264)) else (spec_rustReader_base62.l0 k 0 t256 t257 s0_2 t258 t259 t260 t261 t262 t263 t264)) = some (r1, r2, r3, r4, r5, r6, r7, r8, r9, r10) := H
  have A2 := Aside0.mk A20
  clear A20
  by_cases c3 : t255 = true
  · subst c3
    have H1 : (some (0, t256, t257, t258, t259, t260, t261, t262, t263, t264)) = some (r1, r2, r3, r4, r5, r6, r7, r8, r9, r10) := by rw [if_pos rfl] at H; exact H
    clear H
    have H := H1
    clear H1
    simp only [Option.some.injEq, Prod.mk.injEq] at H
    obtain ⟨rfl, rfl, rfl, rfl, rfl, rfl, rfl, rfl, rfl, rfl⟩ := H
    go_enter Tryd.func35, Tryd.ntmps35
    go_wp2_with (first | ((with_reducible refine gate_callee (f := 19) rfl ?_); refine goesL_ (some 7) rfl rfl Tryd.func19 (by kernel_rfl) rfl #[.pointer (some ⟨g, 0, none⟩), .int .u8 95] rfl (by (try simp only [List.map_toArray, List.map_cons, List.map_nil]); first | done | rfl | (simp only [List.length_drop, List.length_take]; rfl)) ?_; (with_reducible refine (spec_rustReader_take.calls g s0_0 s0_1 s0_2 s0_3 s0_4 s0_5 s0_6 s0_7 s0_8 s0_9 95 true t256 t257 t258 t259 t260 t261 t262 t263 t264 w0 _ ?side1 ?side2 A2.out).mono ?_); (case side1 => repeat (first | (with_reducible first | exact HI0.out | apply IsS34.alloc | apply IsS34.drewN | apply IsS34.drew | apply IsS34.set_0 | apply IsS34.set_1 | apply IsS34.set_3 | apply IsS34.set_4 | apply IsS34.set_5 | apply IsS34.set_6 | apply IsS34.set_7 | apply IsS34.set_8 | apply IsS34.set_9) | exact HI0.out)); (case side2 => repeat (first | (with_reducible first | exact HB.out | apply below_alloc | apply pw_below_drewN | apply below_drew1 | refine below_set ?_ (IsS34.ge HI0.out)) | exact HB.out)); rintro e w4 ⟨rfl, hi, hb, hk⟩; refine ⟨_, rfl, ?_⟩; have n0_ := Aside0.mk (KeepBut.trans (by repeat (first | (with_reducible first | exact HK.out | apply KeepBut.set_ | apply keep_drewN | apply keep_drew | apply keep_alloc) | exact HK.out)) hk (.inl rfl)); have n1_ := Aside0.mk (hb); have n2_ := Aside0.mk (hi); clear HK; clear HB; clear HI0; have HK := n0_; have HB := n1_; have HI0 := n2_; clear n0_ n1_ n2_; (try clear hb); (try clear hb2); (try clear hk); (try clear hi)))
    go_ret
    exact ⟨by first | rfl | (simp [errW_none, errW_some] <;> rfl) | (simp [*, errW_none, errW_some] <;> rfl), by repeat (first | (with_reducible first | exact HI0.out | apply IsS34.alloc | apply IsS34.drewN | apply IsS34.drew | apply IsS34.set_0 | apply IsS34.set_1 | apply IsS34.set_3 | apply IsS34.set_4 | apply IsS34.set_5 | apply IsS34.set_6 | apply IsS34.set_7 | apply IsS34.set_8 | apply IsS34.set_9) | exact HI0.out), by repeat (first | (with_reducible first | exact HB.out | apply below_alloc | apply pw_below_drewN | apply below_drew1 | refine below_set ?_ (IsS34.ge HI0.out)) | exact HB.out), by repeat (first | (with_reducible first | exact HK.out | apply KeepBut.set_ | apply keep_drewN | apply keep_drew | apply keep_alloc) | exact HK.out)⟩
  · replace c3 := Bool.eq_false_iff.mpr c3
    subst c3
    have H1 : (spec_rustReader_base62.l0 k 0 t256 t257 s0_2 t258 t259 t260 t261 t262 t263 t264) = some (r1, r2, r3, r4, r5, r6, r7, r8, r9, r10) := by rw [if_neg (show ¬ (false = true) by decide)] at H; exact H
    clear H
    have H := H1
    clear H1
    have H' := Aside0.mk H
    clear H
    go_enter Tryd.func35, Tryd.ntmps35
    go_wp2_with (first | ((with_reducible refine gate_callee (f := 19) rfl ?_); refine goesL_ (some 7) rfl rfl Tryd.func19 (by kernel_rfl) rfl #[.pointer (some ⟨g, 0, none⟩), .int .u8 95] rfl (by (try simp only [List.map_toArray, List.map_cons, List.map_nil]); first | done | rfl | (simp only [List.length_drop, List.length_take]; rfl)) ?_; (with_reducible refine (spec_rustReader_take.calls g s0_0 s0_1 s0_2 s0_3 s0_4 s0_5 s0_6 s0_7 s0_8 s0_9 95 false t256 t257 t258 t259 t260 t261 t262 t263 t264 w0 _ ?side1 ?side2 A2.out).mono ?_); (case side1 => repeat (first | (with_reducible first | exact HI0.out | apply IsS34.alloc | apply IsS34.drewN | apply IsS34.drew | apply IsS34.set_0 | apply IsS34.set_1 | apply IsS34.set_3 | apply IsS34.set_4 | apply IsS34.set_5 | apply IsS34.set_6 | apply IsS34.set_7 | apply IsS34.set_8 | apply IsS34.set_9) | exact HI0.out)); (case side2 => repeat (first | (with_reducible first | exact HB.out | apply below_alloc | apply pw_below_drewN | apply below_drew1 | refine below_set ?_ (IsS34.ge HI0.out)) | exact HB.out)); rintro e w5 ⟨rfl, hi, hb, hk⟩; refine ⟨_, rfl, ?_⟩; have n0_ := Aside0.mk (KeepBut.trans (by repeat (first | (with_reducible first | exact HK.out | apply KeepBut.set_ | apply keep_drewN | apply keep_drew | apply keep_alloc) | exact HK.out)) hk (.inl rfl)); have n1_ := Aside0.mk (hb); have n2_ := Aside0.mk (hi); clear HK; clear HB; clear HI0; have HK := n0_; have HB := n1_; have HI0 := n2_; clear n0_ n1_ n2_; (try clear hb); (try clear hb2); (try clear hk); (try clear hi)))
    go_loopg [3] k (fun kq v3 w' => ∃ (x3_1 : Int) (x1000_1 : ByteArray) (x1001_1 : Int) (x1003_1 : Int) (x1004_1 : Int) (x1005_1 : Int) (x1006_1 : Bool) (x1007_1 : Bool) (x1008_1 : Int) (x1009_1 : Bool), v3 = .int .u64 x3_1 ∧ Aside0 (spec_rustReader_base62.l0 kq x3_1 x1000_1 x1001_1 s0_2 x1003_1 x1004_1 x1005_1 x1006_1 x1007_1 x1008_1 x1009_1 = some (r1, r2, r3, r4, r5, r6, r7, r8, r9, r10)) ∧ Aside0 (kq ≤ k) ∧ Aside0 (IsS34 w0 w' g x1000_1 x1001_1 s0_2 x1003_1 x1004_1 x1005_1 x1006_1 x1007_1 x1008_1 x1009_1) ∧ Aside0 (KeepBut w w' g none) ∧ Aside0 (Below w0.heap.size w0 w'))
    case atStart => exact ⟨(0), (t256), (t257), (t258), (t259), (t260), (t261), (t262), (t263), (t264), (by first | rfl | (simp; done) | (simp [*]; done)), H', ⟨Nat.le_refl _⟩, ⟨by repeat (first | (with_reducible first | exact HI0.out | apply IsS34.alloc | apply IsS34.drewN | apply IsS34.drew | apply IsS34.set_0 | apply IsS34.set_1 | apply IsS34.set_3 | apply IsS34.set_4 | apply IsS34.set_5 | apply IsS34.set_6 | apply IsS34.set_7 | apply IsS34.set_8 | apply IsS34.set_9) | exact HI0.out)⟩, ⟨by repeat (first | (with_reducible first | exact HK.out | apply KeepBut.set_ | apply keep_drewN | apply keep_drew | apply keep_alloc) | exact HK.out)⟩, ⟨by repeat (first | (with_reducible first | exact HB.out | apply below_alloc | apply pw_below_drewN | apply below_drew1 | refine below_set ?_ (IsS34.ge HI0.out)) | exact HB.out)⟩⟩
    case round =>
      clear H'
      try clear c1
      try clear p2
      try clear c3
      obtain ⟨x3_1, x1000_1, x1001_1, x1003_1, x1004_1, x1005_1, x1006_1, x1007_1, x1008_1, x1009_1, rfl, HA, HK1, HI0, HK, HB⟩ := hrel
      cases gk with
      | zero => exact absurd HA.out (by simp [spec_rustReader_base62.l0])
      | succ k1 =>
        have H := HA.out
        clear HA
        simp only [spec_rustReader_base62.l0] at H
        by_cases c6 : x1004_1 = 0
        · rw [if_pos c6] at H
          have c6b0 : (x1004_1 == 0) = true := beq_iff_eq.mpr c6
          have c6b1 : (x1004_1 != 0) = false := bne_eq_false_iff_eq.mpr c6
          clear c6
          replace H := Option.bind_eq_some_iff.mp H
          obtain ⟨⟨t265, t266, t267, t268, t269, t270, t271, t272, t273, t274⟩, A70, H⟩ := H
          replace H : (if t265 ≥ 48 then (spec_rustReader_base62.j1 k1 x3_1 t265 (decide (t265 ≤ 57)) t266 t267 s0_2 t268 t269 t270 t271 t272 t273 t274) else (spec_rustReader_base62.j1 k1 x3_1 t265 false t266 t267 s0_2 t268 t269 t270 t271 t272 t273 t274)) = some (r1, r2, r3, r4, r5, r6, r7, r8, r9, r10) := H
          have A7 := Aside0.mk A70
          clear A70
          have HC8 := Aside0.mk H
          clear H
          obtain ⟨ASz9_2, cSz9_2, HGz9, hgz9, HSz9_2⟩ := HI0.out
          have hcz9_0 := cellS34_0 HGz9
          have hcz9_1 := cellS34_1 HGz9
          have hcz9_2 := cellS34_2 HGz9
          have hcz9_3 := cellS34_3 HGz9
          have hcz9_4 := cellS34_4 HGz9
          have hcz9_5 := cellS34_5 HGz9
          have hcz9_6 := cellS34_6 HGz9
          have hcz9_7 := cellS34_7 HGz9
          have hcz9_8 := cellS34_8 HGz9
          have hcz9_9 := cellS34_9 HGz9
          have hfz9_0 := blk_frozen HGz9 0
          have hfz9_1 := blk_frozen HGz9 1
          have hfz9_3 := blk_frozen HGz9 3
          have hfz9_4 := blk_frozen HGz9 4
          have hfz9_5 := blk_frozen HGz9 5
          have hfz9_6 := blk_frozen HGz9 6
          have hfz9_7 := blk_frozen HGz9 7
          have hfz9_8 := blk_frozen HGz9 8
          have hfz9_9 := blk_frozen HGz9 9
          clear HGz9 hgz9
          go_upto_region 9 with (first | ((with_reducible refine gate_callee (f := 21) rfl ?_); refine goesL_ (some 14) rfl rfl Tryd.func21 (by kernel_rfl) rfl #[.pointer (some ⟨g, 0, none⟩)] rfl (by (try simp only [List.map_toArray, List.map_cons, List.map_nil]); first | done | rfl | (simp only [List.length_drop, List.length_take]; rfl)) ?_; (with_reducible refine (spec_rustReader_next.calls g x1000_1 x1001_1 s0_2 x1003_1 x1004_1 x1005_1 x1006_1 x1007_1 x1008_1 x1009_1 t265 t266 t267 t268 t269 t270 t271 t272 t273 t274 w0 _ ?side1 ?side2 A7.out).mono ?_); (case side1 => repeat (first | (with_reducible first | exact HI0.out | apply IsS34.alloc | apply IsS34.drewN | apply IsS34.drew | apply IsS34.set_0 | apply IsS34.set_1 | apply IsS34.set_3 | apply IsS34.set_4 | apply IsS34.set_5 | apply IsS34.set_6 | apply IsS34.set_7 | apply IsS34.set_8 | apply IsS34.set_9) | exact HI0.out)); (case side2 => repeat (first | (with_reducible first | exact HB.out | apply below_alloc | apply pw_below_drewN | apply below_drew1 | refine below_set ?_ (IsS34.ge HI0.out)) | exact HB.out)); rintro e w10 ⟨rfl, hi, hb, hk⟩; refine ⟨_, rfl, ?_⟩; have n0_ := Aside0.mk (KeepBut.trans (by repeat (first | (with_reducible first | exact HK.out | apply KeepBut.set_ | apply keep_drewN | apply keep_drew | apply keep_alloc) | exact HK.out)) hk (.inl rfl)); have n1_ := Aside0.mk (hb); have n2_ := Aside0.mk (hi); clear HK; clear HB; clear HI0; have HK := n0_; have HB := n1_; have HI0 := n2_; clear n0_ n1_ n2_; (try clear hb); (try clear hb2); (try clear hk); (try clear hi)))
          (try simp only [Act.put, List.setIfInBounds_toArray, List.set_cons_zero, List.set_cons_succ])
          go_cut [17] (fun v17 wc => ∃ (kq : Nat) (x17_7 : Bool), v17 = .bool x17_7 ∧ Aside0 (spec_rustReader_base62.j1 kq x3_1 t265 x17_7 t266 t267 s0_2 t268 t269 t270 t271 t272 t273 t274 = some (r1, r2, r3, r4, r5, r6, r7, r8, r9, r10)) ∧ Aside0 (kq ≤ k1) ∧ Aside0 (IsS34 w0 wc g t266 t267 s0_2 t268 t269 t270 t271 t272 t273 t274) ∧ Aside0 (KeepBut w wc g none) ∧ Aside0 (Below w0.heap.size w0 wc))
          case first =>
            have H := HC8.out
            clear HC8
            by_cases c11 : t265 ≥ 48
            · rw [if_pos c11] at H
              have c11b0 : decide (48 ≤ t265) = true := decide_eq_true c11
              clear c11
              (first | rw [c11b0] | (simp only [i64_w, i32_w]; rw [c11b0]) | rw [c11b1] | skip)
              have H' := Aside0.mk H
              clear H
              go_wp2
              go_meet
              case rel => exact ⟨_, (decide (t265 ≤ 57)), (by first | rfl | (simp; done) | (simp [*]; done)), H', ⟨by have := HK1.out; first | omega | exact Nat.le_refl _⟩, ⟨by repeat (first | (with_reducible first | exact HI0.out | apply IsS34.alloc | apply IsS34.drewN | apply IsS34.drew | apply IsS34.set_0 | apply IsS34.set_1 | apply IsS34.set_3 | apply IsS34.set_4 | apply IsS34.set_5 | apply IsS34.set_6 | apply IsS34.set_7 | apply IsS34.set_8 | apply IsS34.set_9) | exact HI0.out)⟩, ⟨by repeat (first | (with_reducible first | exact HK.out | apply KeepBut.set_ | apply keep_drewN | apply keep_drew | apply keep_alloc) | exact HK.out)⟩, ⟨by repeat (first | (with_reducible first | exact HB.out | apply below_alloc | apply pw_below_drewN | apply below_drew1 | refine below_set ?_ (IsS34.ge HI0.out)) | exact HB.out)⟩⟩
            · rw [if_neg c11] at H
              have c11b0 : decide (48 ≤ t265) = false := decide_eq_false c11
              clear c11
              (first | rw [c11b0] | (simp only [i64_w, i32_w]; rw [c11b0]) | rw [c11b1] | skip)
              have H' := Aside0.mk H
              clear H
              go_wp2
              go_meet
              case rel => exact ⟨_, (false), (by first | rfl | (simp; done) | (simp [*]; done)), H', ⟨by have := HK1.out; first | omega | exact Nat.le_refl _⟩, ⟨by repeat (first | (with_reducible first | exact HI0.out | apply IsS34.alloc | apply IsS34.drewN | apply IsS34.drew | apply IsS34.set_0 | apply IsS34.set_1 | apply IsS34.set_3 | apply IsS34.set_4 | apply IsS34.set_5 | apply IsS34.set_6 | apply IsS34.set_7 | apply IsS34.set_8 | apply IsS34.set_9) | exact HI0.out)⟩, ⟨by repeat (first | (with_reducible first | exact HK.out | apply KeepBut.set_ | apply keep_drewN | apply keep_drew | apply keep_alloc) | exact HK.out)⟩, ⟨by repeat (first | (with_reducible first | exact HB.out | apply below_alloc | apply pw_below_drewN | apply below_drew1 | refine below_set ?_ (IsS34.ge HI0.out)) | exact HB.out)⟩⟩
          case rest =>
            clear HC8
            try clear c1
            try clear c2
            try clear p2
            try clear c3
            try clear c6
            try clear c6b0
            try clear c6b1
            try clear c11
            try clear c11b0
            try clear hcz9_0
            try clear hcz9_1
            try clear hcz9_2
            try clear hcz9_3
            try clear hcz9_4
            try clear hcz9_5
            try clear hcz9_6
            try clear hcz9_7
            try clear hcz9_8
            try clear hcz9_9
            try clear hfz9_0
            try clear hfz9_1
            try clear hfz9_3
            try clear hfz9_4
            try clear hfz9_5
            try clear hfz9_6
            try clear hfz9_7
            try clear hfz9_8
            try clear hfz9_9
            try clear p2
            obtain ⟨kq, x17_7, rfl, HA, HJ7, HI0, HK, HB⟩ := hcut
            cases kq with
            | zero => exact absurd HA.out (by simp [spec_rustReader_base62.j1])
            | succ kj7 =>
              have H := HA.out
              clear HA
              simp only [spec_rustReader_base62.j1] at H
              by_cases c12 : x17_7 = true
              · subst c12
                have H1 : (if x3_1 ≥ 74382032555280449 then ((spec_rustReader_stop.f t266 t267 s0_2 t268 t269 t270 t271 t272 t273 t274 2).bind fun bt275 => (some (0, bt275.1, bt275.2.1, bt275.2.2.1, bt275.2.2.2.1, bt275.2.2.2.2.1, bt275.2.2.2.2.2.1, bt275.2.2.2.2.2.2.1, bt275.2.2.2.2.2.2.2.1, bt275.2.2.2.2.2.2.2.2))) else (spec_rustReader_base62.l0 kj7 (IntKind.u64.wrap ((IntKind.u64.wrap (x3_1 * 62)) + ((t265 - 48) % 256))) t266 (wrap64 (t267 + 1)) s0_2 t268 t269 t270 t271 t272 t273 t274)) = some (r1, r2, r3, r4, r5, r6, r7, r8, r9, r10) := by rw [if_pos rfl] at H; exact H
                clear H
                have H := H1
                clear H1
                by_cases c13 : x3_1 ≥ 74382032555280449
                · rw [if_pos c13] at H
                  have c13b0 : decide (74382032555280449 ≤ x3_1) = true := decide_eq_true c13
                  clear c13
                  replace H := Option.bind_eq_some_iff.mp H
                  obtain ⟨⟨t275, t276, t277, t278, t279, t280, t281, t282, t283⟩, A140, H⟩ := H
                  replace H : (some (0, t275, t276, t277, t278, t279, t280, t281, t282, t283)) = some (r1, r2, r3, r4, r5, r6, r7, r8, r9, r10) := H
                  have A14 := Aside0.mk A140
                  clear A140
                  simp only [Option.some.injEq, Prod.mk.injEq] at H
                  obtain ⟨rfl, rfl, rfl, rfl, rfl, rfl, rfl, rfl, rfl, rfl⟩ := H
                  go_wp2_with (first | ((with_reducible refine gate_callee (f := 18) rfl ?_); refine goesL_ (some 64) rfl rfl Tryd.func18 (by kernel_rfl) rfl #[.pointer (some ⟨g, 0, none⟩), .int .i64 2] rfl (by (try simp only [List.map_toArray, List.map_cons, List.map_nil]); first | done | rfl | (simp only [List.length_drop, List.length_take]; rfl)) ?_; (with_reducible refine (spec_rustReader_stop.calls g t266 t267 s0_2 t268 t269 t270 t271 t272 t273 t274 2 t275 t276 t277 t278 t279 t280 t281 t282 t283 w0 _ ?side1 ?side2 A14.out).mono ?_); (case side1 => repeat (first | (with_reducible first | exact HI0.out | apply IsS34.alloc | apply IsS34.drewN | apply IsS34.drew | apply IsS34.set_0 | apply IsS34.set_1 | apply IsS34.set_3 | apply IsS34.set_4 | apply IsS34.set_5 | apply IsS34.set_6 | apply IsS34.set_7 | apply IsS34.set_8 | apply IsS34.set_9) | exact HI0.out)); (case side2 => repeat (first | (with_reducible first | exact HB.out | apply below_alloc | apply pw_below_drewN | apply below_drew1 | refine below_set ?_ (IsS34.ge HI0.out)) | exact HB.out)); rintro e w15 ⟨rfl, hi, hb, hk⟩; refine ⟨_, rfl, ?_⟩; have n0_ := Aside0.mk (KeepBut.trans (by repeat (first | (with_reducible first | exact HK.out | apply KeepBut.set_ | apply keep_drewN | apply keep_drew | apply keep_alloc) | exact HK.out)) hk (.inl rfl)); have n1_ := Aside0.mk (hb); have n2_ := Aside0.mk (hi); clear HK; clear HB; clear HI0; have HK := n0_; have HB := n1_; have HI0 := n2_; clear n0_ n1_ n2_; (try clear hb); (try clear hb2); (try clear hk); (try clear hi)))
                  go_ret
                  exact ⟨by first | rfl | (simp [errW_none, errW_some] <;> rfl) | (simp [*, errW_none, errW_some] <;> rfl), by repeat (first | (with_reducible first | exact HI0.out | apply IsS34.alloc | apply IsS34.drewN | apply IsS34.drew | apply IsS34.set_0 | apply IsS34.set_1 | apply IsS34.set_3 | apply IsS34.set_4 | apply IsS34.set_5 | apply IsS34.set_6 | apply IsS34.set_7 | apply IsS34.set_8 | apply IsS34.set_9) | exact HI0.out), by repeat (first | (with_reducible first | exact HB.out | apply below_alloc | apply pw_below_drewN | apply below_drew1 | refine below_set ?_ (IsS34.ge HI0.out)) | exact HB.out), by repeat (first | (with_reducible first | exact HK.out | apply KeepBut.set_ | apply keep_drewN | apply keep_drew | apply keep_alloc) | exact HK.out)⟩
                · rw [if_neg c13] at H
                  have c13b0 : decide (74382032555280449 ≤ x3_1) = false := decide_eq_false c13
                  clear c13
                  have H' := Aside0.mk H
                  clear H
                  obtain ⟨ASz16_2, cSz16_2, HGz16, hgz16, HSz16_2⟩ := HI0.out
                  have hcz16_0 := cellS34_0 HGz16
                  have hcz16_1 := cellS34_1 HGz16
                  have hcz16_2 := cellS34_2 HGz16
                  have hcz16_3 := cellS34_3 HGz16
                  have hcz16_4 := cellS34_4 HGz16
                  have hcz16_5 := cellS34_5 HGz16
                  have hcz16_6 := cellS34_6 HGz16
                  have hcz16_7 := cellS34_7 HGz16
                  have hcz16_8 := cellS34_8 HGz16
                  have hcz16_9 := cellS34_9 HGz16
                  have hfz16_0 := blk_frozen HGz16 0
                  have hfz16_1 := blk_frozen HGz16 1
                  have hfz16_3 := blk_frozen HGz16 3
                  have hfz16_4 := blk_frozen HGz16 4
                  have hfz16_5 := blk_frozen HGz16 5
                  have hfz16_6 := blk_frozen HGz16 6
                  have hfz16_7 := blk_frozen HGz16 7
                  have hfz16_8 := blk_frozen HGz16 8
                  have hfz16_9 := blk_frozen HGz16 9
                  clear HGz16 hgz16
                  go_wp2
                  go_roundg kj7
                  case measure => have := HK1.out; have := HJ7.out; omega
                  case rel => exact ⟨(IntKind.u64.wrap ((IntKind.u64.wrap (x3_1 * 62)) + ((t265 - 48) % 256))), (t266), (wrap64 (t267 + 1)), (t268), (t269), (t270), (t271), (t272), (t273), (t274), (by first | rfl | (simp; done) | (simp [*]; done)), H', ⟨by have := HK1.out; have := HJ7.out; omega⟩, ⟨by repeat (first | (with_reducible first | exact HI0.out | apply IsS34.alloc | apply IsS34.drewN | apply IsS34.drew | apply IsS34.set_0 | apply IsS34.set_1 | apply IsS34.set_3 | apply IsS34.set_4 | apply IsS34.set_5 | apply IsS34.set_6 | apply IsS34.set_7 | apply IsS34.set_8 | apply IsS34.set_9) | exact HI0.out)⟩, ⟨by repeat (first | (with_reducible first | exact HK.out | apply KeepBut.set_ | apply keep_drewN | apply keep_drew | apply keep_alloc) | exact HK.out)⟩, ⟨by repeat (first | (with_reducible first | exact HB.out | apply below_alloc | apply pw_below_drewN | apply below_drew1 | refine below_set ?_ (IsS34.ge HI0.out)) | exact HB.out)⟩⟩
              · replace c12 := Bool.eq_false_iff.mpr c12
                subst c12
                have H1 : (if t265 ≥ 97 then (spec_rustReader_base62.j2 kj7 x3_1 t265 (decide (t265 ≤ 122)) t266 t267 s0_2 t268 t269 t270 t271 t272 t273 t274) else (spec_rustReader_base62.j2 kj7 x3_1 t265 false t266 t267 s0_2 t268 t269 t270 t271 t272 t273 t274)) = some (r1, r2, r3, r4, r5, r6, r7, r8, r9, r10) := by rw [if_neg (show ¬ (false = true) by decide)] at H; exact H
                clear H
                have H := H1
                clear H1
                have HC17 := Aside0.mk H
                clear H
                go_upto_region 11 with (fail)
                go_cut [27] (fun v27 wc => ∃ (kq : Nat) (x27_16 : Bool), v27 = .bool x27_16 ∧ Aside0 (spec_rustReader_base62.j2 kq x3_1 t265 x27_16 t266 t267 s0_2 t268 t269 t270 t271 t272 t273 t274 = some (r1, r2, r3, r4, r5, r6, r7, r8, r9, r10)) ∧ Aside0 (kq ≤ kj7) ∧ Aside0 (IsS34 w0 wc g t266 t267 s0_2 t268 t269 t270 t271 t272 t273 t274) ∧ Aside0 (KeepBut w wc g none) ∧ Aside0 (Below w0.heap.size w0 wc))
                case first =>
                  have H := HC17.out
                  clear HC17
                  by_cases c18 : t265 ≥ 97
                  · rw [if_pos c18] at H
                    have c18b0 : decide (97 ≤ t265) = true := decide_eq_true c18
                    clear c18
                    (first | rw [c18b0] | (simp only [i64_w, i32_w]; rw [c18b0]) | rw [c18b1] | skip)
                    have H' := Aside0.mk H
                    clear H
                    go_wp2
                    go_meet
                    case rel => exact ⟨_, (decide (t265 ≤ 122)), (by first | rfl | (simp; done) | (simp [*]; done)), H', ⟨by have := HK1.out; have := HJ7.out; first | omega | exact Nat.le_refl _⟩, ⟨by repeat (first | (with_reducible first | exact HI0.out | apply IsS34.alloc | apply IsS34.drewN | apply IsS34.drew | apply IsS34.set_0 | apply IsS34.set_1 | apply IsS34.set_3 | apply IsS34.set_4 | apply IsS34.set_5 | apply IsS34.set_6 | apply IsS34.set_7 | apply IsS34.set_8 | apply IsS34.set_9) | exact HI0.out)⟩, ⟨by repeat (first | (with_reducible first | exact HK.out | apply KeepBut.set_ | apply keep_drewN | apply keep_drew | apply keep_alloc) | exact HK.out)⟩, ⟨by repeat (first | (with_reducible first | exact HB.out | apply below_alloc | apply pw_below_drewN | apply below_drew1 | refine below_set ?_ (IsS34.ge HI0.out)) | exact HB.out)⟩⟩
                  · rw [if_neg c18] at H
                    have c18b0 : decide (97 ≤ t265) = false := decide_eq_false c18
                    clear c18
                    (first | rw [c18b0] | (simp only [i64_w, i32_w]; rw [c18b0]) | rw [c18b1] | skip)
                    have H' := Aside0.mk H
                    clear H
                    go_wp2
                    go_meet
                    case rel => exact ⟨_, (false), (by first | rfl | (simp; done) | (simp [*]; done)), H', ⟨by have := HK1.out; have := HJ7.out; first | omega | exact Nat.le_refl _⟩, ⟨by repeat (first | (with_reducible first | exact HI0.out | apply IsS34.alloc | apply IsS34.drewN | apply IsS34.drew | apply IsS34.set_0 | apply IsS34.set_1 | apply IsS34.set_3 | apply IsS34.set_4 | apply IsS34.set_5 | apply IsS34.set_6 | apply IsS34.set_7 | apply IsS34.set_8 | apply IsS34.set_9) | exact HI0.out)⟩, ⟨by repeat (first | (with_reducible first | exact HK.out | apply KeepBut.set_ | apply keep_drewN | apply keep_drew | apply keep_alloc) | exact HK.out)⟩, ⟨by repeat (first | (with_reducible first | exact HB.out | apply below_alloc | apply pw_below_drewN | apply below_drew1 | refine below_set ?_ (IsS34.ge HI0.out)) | exact HB.out)⟩⟩
                case rest =>
                  clear HC17
                  try clear c1
                  try clear c2
                  try clear p2
                  try clear c3
                  try clear c6
                  try clear c6b0
                  try clear c6b1
                  try clear p6
                  try clear c11
                  try clear c11b0
                  try clear c12
                  try clear c13
                  try clear c13b0
                  try clear c18
                  try clear c18b0
                  try clear hcz16_0
                  try clear hcz16_1
                  try clear hcz16_2
                  try clear hcz16_3
                  try clear hcz16_4
                  try clear hcz16_5
                  try clear hcz16_6
                  try clear hcz16_7
                  try clear hcz16_8
                  try clear hcz16_9
                  try clear hcz9_0
                  try clear hcz9_1
                  try clear hcz9_2
                  try clear hcz9_3
                  try clear hcz9_4
                  try clear hcz9_5
                  try clear hcz9_6
                  try clear hcz9_7
                  try clear hcz9_8
                  try clear hcz9_9
                  try clear hfz16_0
                  try clear hfz16_1
                  try clear hfz16_3
                  try clear hfz16_4
                  try clear hfz16_5
                  try clear hfz16_6
                  try clear hfz16_7
                  try clear hfz16_8
                  try clear hfz16_9
                  try clear hfz9_0
                  try clear hfz9_1
                  try clear hfz9_3
                  try clear hfz9_4
                  try clear hfz9_5
                  try clear hfz9_6
                  try clear hfz9_7
                  try clear hfz9_8
                  try clear hfz9_9
                  try clear p2
                  obtain ⟨kq, x27_16, rfl, HA, HJ16, HI0, HK, HB⟩ := hcut
                  cases kq with
                  | zero => exact absurd HA.out (by simp [spec_rustReader_base62.j2])
                  | succ kj16 =>
                    have H := HA.out
                    clear HA
                    simp only [spec_rustReader_base62.j2] at H
                    by_cases c19 : x27_16 = true
                    · subst c19
                      have H1 : (if x3_1 ≥ 74382032555280449 then ((spec_rustReader_stop.f t266 t267 s0_2 t268 t269 t270 t271 t272 t273 t274 2).bind fun bt284 => (some (0, bt284.1, bt284.2.1, bt284.2.2.1, bt284.2.2.2.1, bt284.2.2.2.2.1, bt284.2.2.2.2.2.1, bt284.2.2.2.2.2.2.1, bt284.2.2.2.2.2.2.2.1, bt284.2.2.2.2.2.2.2.2))) else (spec_rustReader_base62.l0 kj16 (IntKind.u64.wrap ((IntKind.u64.wrap (x3_1 * 62)) + (((t265 - 97) % 256) + 10))) t266 (wrap64 (t267 + 1)) s0_2 t268 t269 t270 t271 t272 t273 t274)) = some (r1, r2, r3, r4, r5, r6, r7, r8, r9, r10) := by rw [if_pos rfl] at H; exact H
                      clear H
                      have H := H1
                      clear H1
                      by_cases c20 : x3_1 ≥ 74382032555280449
                      · rw [if_pos c20] at H
                        have c20b0 : decide (74382032555280449 ≤ x3_1) = true := decide_eq_true c20
                        clear c20
                        replace H := Option.bind_eq_some_iff.mp H
                        obtain ⟨⟨t284, t285, t286, t287, t288, t289, t290, t291, t292⟩, A210, H⟩ := H
                        replace H : (some (0, t284, t285, t286, t287, t288, t289, t290, t291, t292)) = some (r1, r2, r3, r4, r5, r6, r7, r8, r9, r10) := H
                        have A21 := Aside0.mk A210
                        clear A210
                        simp only [Option.some.injEq, Prod.mk.injEq] at H
                        obtain ⟨rfl, rfl, rfl, rfl, rfl, rfl, rfl, rfl, rfl, rfl⟩ := H
                        go_wp2_with (first | ((with_reducible refine gate_callee (f := 18) rfl ?_); refine goesL_ (some 64) rfl rfl Tryd.func18 (by kernel_rfl) rfl #[.pointer (some ⟨g, 0, none⟩), .int .i64 2] rfl (by (try simp only [List.map_toArray, List.map_cons, List.map_nil]); first | done | rfl | (simp only [List.length_drop, List.length_take]; rfl)) ?_; (with_reducible refine (spec_rustReader_stop.calls g t266 t267 s0_2 t268 t269 t270 t271 t272 t273 t274 2 t284 t285 t286 t287 t288 t289 t290 t291 t292 w0 _ ?side1 ?side2 A21.out).mono ?_); (case side1 => repeat (first | (with_reducible first | exact HI0.out | apply IsS34.alloc | apply IsS34.drewN | apply IsS34.drew | apply IsS34.set_0 | apply IsS34.set_1 | apply IsS34.set_3 | apply IsS34.set_4 | apply IsS34.set_5 | apply IsS34.set_6 | apply IsS34.set_7 | apply IsS34.set_8 | apply IsS34.set_9) | exact HI0.out)); (case side2 => repeat (first | (with_reducible first | exact HB.out | apply below_alloc | apply pw_below_drewN | apply below_drew1 | refine below_set ?_ (IsS34.ge HI0.out)) | exact HB.out)); rintro e w22 ⟨rfl, hi, hb, hk⟩; refine ⟨_, rfl, ?_⟩; have n0_ := Aside0.mk (KeepBut.trans (by repeat (first | (with_reducible first | exact HK.out | apply KeepBut.set_ | apply keep_drewN | apply keep_drew | apply keep_alloc) | exact HK.out)) hk (.inl rfl)); have n1_ := Aside0.mk (hb); have n2_ := Aside0.mk (hi); clear HK; clear HB; clear HI0; have HK := n0_; have HB := n1_; have HI0 := n2_; clear n0_ n1_ n2_; (try clear hb); (try clear hb2); (try clear hk); (try clear hi)))
                        go_ret
                        exact ⟨by first | rfl | (simp [errW_none, errW_some] <;> rfl) | (simp [*, errW_none, errW_some] <;> rfl), by repeat (first | (with_reducible first | exact HI0.out | apply IsS34.alloc | apply IsS34.drewN | apply IsS34.drew | apply IsS34.set_0 | apply IsS34.set_1 | apply IsS34.set_3 | apply IsS34.set_4 | apply IsS34.set_5 | apply IsS34.set_6 | apply IsS34.set_7 | apply IsS34.set_8 | apply IsS34.set_9) | exact HI0.out), by repeat (first | (with_reducible first | exact HB.out | apply below_alloc | apply pw_below_drewN | apply below_drew1 | refine below_set ?_ (IsS34.ge HI0.out)) | exact HB.out), by repeat (first | (with_reducible first | exact HK.out | apply KeepBut.set_ | apply keep_drewN | apply keep_drew | apply keep_alloc) | exact HK.out)⟩
                      · rw [if_neg c20] at H
                        have c20b0 : decide (74382032555280449 ≤ x3_1) = false := decide_eq_false c20
                        clear c20
                        have H' := Aside0.mk H
                        clear H
                        obtain ⟨ASz23_2, cSz23_2, HGz23, hgz23, HSz23_2⟩ := HI0.out
                        have hcz23_0 := cellS34_0 HGz23
                        have hcz23_1 := cellS34_1 HGz23
                        have hcz23_2 := cellS34_2 HGz23
                        have hcz23_3 := cellS34_3 HGz23
                        have hcz23_4 := cellS34_4 HGz23
                        have hcz23_5 := cellS34_5 HGz23
                        have hcz23_6 := cellS34_6 HGz23
                        have hcz23_7 := cellS34_7 HGz23
                        have hcz23_8 := cellS34_8 HGz23
                        have hcz23_9 := cellS34_9 HGz23
                        have hfz23_0 := blk_frozen HGz23 0
                        have hfz23_1 := blk_frozen HGz23 1
                        have hfz23_3 := blk_frozen HGz23 3
                        have hfz23_4 := blk_frozen HGz23 4
                        have hfz23_5 := blk_frozen HGz23 5
                        have hfz23_6 := blk_frozen HGz23 6
                        have hfz23_7 := blk_frozen HGz23 7
                        have hfz23_8 := blk_frozen HGz23 8
                        have hfz23_9 := blk_frozen HGz23 9
                        clear HGz23 hgz23
                        go_wp2
                        go_roundg kj16
                        case measure => have := HK1.out; have := HJ7.out; have := HJ16.out; omega
                        case rel => exact ⟨(IntKind.u64.wrap ((IntKind.u64.wrap (x3_1 * 62)) + (((t265 - 97) % 256) + 10))), (t266), (wrap64 (t267 + 1)), (t268), (t269), (t270), (t271), (t272), (t273), (t274), (by first | rfl | (simp; done) | (simp [*]; done)), H', ⟨by have := HK1.out; have := HJ7.out; have := HJ16.out; omega⟩, ⟨by repeat (first | (with_reducible first | exact HI0.out | apply IsS34.alloc | apply IsS34.drewN | apply IsS34.drew | apply IsS34.set_0 | apply IsS34.set_1 | apply IsS34.set_3 | apply IsS34.set_4 | apply IsS34.set_5 | apply IsS34.set_6 | apply IsS34.set_7 | apply IsS34.set_8 | apply IsS34.set_9) | exact HI0.out)⟩, ⟨by repeat (first | (with_reducible first | exact HK.out | apply KeepBut.set_ | apply keep_drewN | apply keep_drew | apply keep_alloc) | exact HK.out)⟩, ⟨by repeat (first | (with_reducible first | exact HB.out | apply below_alloc | apply pw_below_drewN | apply below_drew1 | refine below_set ?_ (IsS34.ge HI0.out)) | exact HB.out)⟩⟩
                    · replace c19 := Bool.eq_false_iff.mpr c19
                      subst c19
                      have H1 : (if t265 ≥ 65 then (spec_rustReader_base62.j3 kj16 x3_1 t265 (decide (t265 ≤ 90)) t266 t267 s0_2 t268 t269 t270 t271 t272 t273 t274) else (spec_rustReader_base62.j3 kj16 x3_1 t265 false t266 t267 s0_2 t268 t269 t270 t271 t272 t273 t274)) = some (r1, r2, r3, r4, r5, r6, r7, r8, r9, r10) := by rw [if_neg (show ¬ (false = true) by decide)] at H; exact H
                      clear H
                      have H := H1
                      clear H1
                      have HC24 := Aside0.mk H
                      clear H
                      go_upto_region 13 with (fail)
                      go_cut [38] (fun v38 wc => ∃ (kq : Nat) (x38_23 : Bool), v38 = .bool x38_23 ∧ Aside0 (spec_rustReader_base62.j3 kq x3_1 t265 x38_23 t266 t267 s0_2 t268 t269 t270 t271 t272 t273 t274 = some (r1, r2, r3, r4, r5, r6, r7, r8, r9, r10)) ∧ Aside0 (kq ≤ kj16) ∧ Aside0 (IsS34 w0 wc g t266 t267 s0_2 t268 t269 t270 t271 t272 t273 t274) ∧ Aside0 (KeepBut w wc g none) ∧ Aside0 (Below w0.heap.size w0 wc))
                      case first =>
                        have H := HC24.out
                        clear HC24
                        by_cases c25 : t265 ≥ 65
                        · rw [if_pos c25] at H
                          have c25b0 : decide (65 ≤ t265) = true := decide_eq_true c25
                          clear c25
                          (first | rw [c25b0] | (simp only [i64_w, i32_w]; rw [c25b0]) | rw [c25b1] | skip)
                          have H' := Aside0.mk H
                          clear H
                          go_wp2
                          go_meet
                          case rel => exact ⟨_, (decide (t265 ≤ 90)), (by first | rfl | (simp; done) | (simp [*]; done)), H', ⟨by have := HK1.out; have := HJ7.out; have := HJ16.out; first | omega | exact Nat.le_refl _⟩, ⟨by repeat (first | (with_reducible first | exact HI0.out | apply IsS34.alloc | apply IsS34.drewN | apply IsS34.drew | apply IsS34.set_0 | apply IsS34.set_1 | apply IsS34.set_3 | apply IsS34.set_4 | apply IsS34.set_5 | apply IsS34.set_6 | apply IsS34.set_7 | apply IsS34.set_8 | apply IsS34.set_9) | exact HI0.out)⟩, ⟨by repeat (first | (with_reducible first | exact HK.out | apply KeepBut.set_ | apply keep_drewN | apply keep_drew | apply keep_alloc) | exact HK.out)⟩, ⟨by repeat (first | (with_reducible first | exact HB.out | apply below_alloc | apply pw_below_drewN | apply below_drew1 | refine below_set ?_ (IsS34.ge HI0.out)) | exact HB.out)⟩⟩
                        · rw [if_neg c25] at H
                          have c25b0 : decide (65 ≤ t265) = false := decide_eq_false c25
                          clear c25
                          (first | rw [c25b0] | (simp only [i64_w, i32_w]; rw [c25b0]) | rw [c25b1] | skip)
                          have H' := Aside0.mk H
                          clear H
                          go_wp2
                          go_meet
                          case rel => exact ⟨_, (false), (by first | rfl | (simp; done) | (simp [*]; done)), H', ⟨by have := HK1.out; have := HJ7.out; have := HJ16.out; first | omega | exact Nat.le_refl _⟩, ⟨by repeat (first | (with_reducible first | exact HI0.out | apply IsS34.alloc | apply IsS34.drewN | apply IsS34.drew | apply IsS34.set_0 | apply IsS34.set_1 | apply IsS34.set_3 | apply IsS34.set_4 | apply IsS34.set_5 | apply IsS34.set_6 | apply IsS34.set_7 | apply IsS34.set_8 | apply IsS34.set_9) | exact HI0.out)⟩, ⟨by repeat (first | (with_reducible first | exact HK.out | apply KeepBut.set_ | apply keep_drewN | apply keep_drew | apply keep_alloc) | exact HK.out)⟩, ⟨by repeat (first | (with_reducible first | exact HB.out | apply below_alloc | apply pw_below_drewN | apply below_drew1 | refine below_set ?_ (IsS34.ge HI0.out)) | exact HB.out)⟩⟩
                      case rest =>
                        clear HC24
                        try clear c1
                        try clear c2
                        try clear p2
                        try clear c3
                        try clear c6
                        try clear c6b0
                        try clear c6b1
                        try clear p6
                        try clear c11
                        try clear c11b0
                        try clear c12
                        try clear c13
                        try clear c13b0
                        try clear c18
                        try clear c18b0
                        try clear c19
                        try clear c20
                        try clear c20b0
                        try clear c21
                        try clear c25
                        try clear c25b0
                        try clear hcz16_0
                        try clear hcz16_1
                        try clear hcz16_2
                        try clear hcz16_3
                        try clear hcz16_4
                        try clear hcz16_5
                        try clear hcz16_6
                        try clear hcz16_7
                        try clear hcz16_8
                        try clear hcz16_9
                        try clear hcz23_0
                        try clear hcz23_1
                        try clear hcz23_2
                        try clear hcz23_3
                        try clear hcz23_4
                        try clear hcz23_5
                        try clear hcz23_6
                        try clear hcz23_7
                        try clear hcz23_8
                        try clear hcz23_9
                        try clear hcz9_0
                        try clear hcz9_1
                        try clear hcz9_2
                        try clear hcz9_3
                        try clear hcz9_4
                        try clear hcz9_5
                        try clear hcz9_6
                        try clear hcz9_7
                        try clear hcz9_8
                        try clear hcz9_9
                        try clear hfz16_0
                        try clear hfz16_1
                        try clear hfz16_3
                        try clear hfz16_4
                        try clear hfz16_5
                        try clear hfz16_6
                        try clear hfz16_7
                        try clear hfz16_8
                        try clear hfz16_9
                        try clear hfz23_0
                        try clear hfz23_1
                        try clear hfz23_3
                        try clear hfz23_4
                        try clear hfz23_5
                        try clear hfz23_6
                        try clear hfz23_7
                        try clear hfz23_8
                        try clear hfz23_9
                        try clear hfz9_0
                        try clear hfz9_1
                        try clear hfz9_3
                        try clear hfz9_4
                        try clear hfz9_5
                        try clear hfz9_6
                        try clear hfz9_7
                        try clear hfz9_8
                        try clear hfz9_9
                        try clear p2
                        try clear p6
                        obtain ⟨kq, x38_23, rfl, HA, HJ23, HI0, HK, HB⟩ := hcut
                        cases kq with
                        | zero => exact absurd HA.out (by simp [spec_rustReader_base62.j3])
                        | succ kj23 =>
                          have H := HA.out
                          clear HA
                          simp only [spec_rustReader_base62.j3] at H
                          by_cases c26 : x38_23 = true
                          · subst c26
                            have H1 : (if x3_1 ≥ 74382032555280449 then ((spec_rustReader_stop.f t266 t267 s0_2 t268 t269 t270 t271 t272 t273 t274 2).bind fun bt293 => (some (0, bt293.1, bt293.2.1, bt293.2.2.1, bt293.2.2.2.1, bt293.2.2.2.2.1, bt293.2.2.2.2.2.1, bt293.2.2.2.2.2.2.1, bt293.2.2.2.2.2.2.2.1, bt293.2.2.2.2.2.2.2.2))) else (spec_rustReader_base62.l0 kj23 (IntKind.u64.wrap ((IntKind.u64.wrap (x3_1 * 62)) + (((t265 - 65) % 256) + 36))) t266 (wrap64 (t267 + 1)) s0_2 t268 t269 t270 t271 t272 t273 t274)) = some (r1, r2, r3, r4, r5, r6, r7, r8, r9, r10) := by rw [if_pos rfl] at H; exact H
                            clear H
                            have H := H1
                            clear H1
                            by_cases c27 : x3_1 ≥ 74382032555280449
                            · rw [if_pos c27] at H
                              have c27b0 : decide (74382032555280449 ≤ x3_1) = true := decide_eq_true c27
                              clear c27
                              replace H := Option.bind_eq_some_iff.mp H
                              obtain ⟨⟨t293, t294, t295, t296, t297, t298, t299, t300, t301⟩, A280, H⟩ := H
                              replace H : (some (0, t293, t294, t295, t296, t297, t298, t299, t300, t301)) = some (r1, r2, r3, r4, r5, r6, r7, r8, r9, r10) := H
                              have A28 := Aside0.mk A280
                              clear A280
                              simp only [Option.some.injEq, Prod.mk.injEq] at H
                              obtain ⟨rfl, rfl, rfl, rfl, rfl, rfl, rfl, rfl, rfl, rfl⟩ := H
                              go_wp2_with (first | ((with_reducible refine gate_callee (f := 18) rfl ?_); refine goesL_ (some 64) rfl rfl Tryd.func18 (by kernel_rfl) rfl #[.pointer (some ⟨g, 0, none⟩), .int .i64 2] rfl (by (try simp only [List.map_toArray, List.map_cons, List.map_nil]); first | done | rfl | (simp only [List.length_drop, List.length_take]; rfl)) ?_; (with_reducible refine (spec_rustReader_stop.calls g t266 t267 s0_2 t268 t269 t270 t271 t272 t273 t274 2 t293 t294 t295 t296 t297 t298 t299 t300 t301 w0 _ ?side1 ?side2 A28.out).mono ?_); (case side1 => repeat (first | (with_reducible first | exact HI0.out | apply IsS34.alloc | apply IsS34.drewN | apply IsS34.drew | apply IsS34.set_0 | apply IsS34.set_1 | apply IsS34.set_3 | apply IsS34.set_4 | apply IsS34.set_5 | apply IsS34.set_6 | apply IsS34.set_7 | apply IsS34.set_8 | apply IsS34.set_9) | exact HI0.out)); (case side2 => repeat (first | (with_reducible first | exact HB.out | apply below_alloc | apply pw_below_drewN | apply below_drew1 | refine below_set ?_ (IsS34.ge HI0.out)) | exact HB.out)); rintro e w29 ⟨rfl, hi, hb, hk⟩; refine ⟨_, rfl, ?_⟩; have n0_ := Aside0.mk (KeepBut.trans (by repeat (first | (with_reducible first | exact HK.out | apply KeepBut.set_ | apply keep_drewN | apply keep_drew | apply keep_alloc) | exact HK.out)) hk (.inl rfl)); have n1_ := Aside0.mk (hb); have n2_ := Aside0.mk (hi); clear HK; clear HB; clear HI0; have HK := n0_; have HB := n1_; have HI0 := n2_; clear n0_ n1_ n2_; (try clear hb); (try clear hb2); (try clear hk); (try clear hi)))
                              go_ret
                              exact ⟨by first | rfl | (simp [errW_none, errW_some] <;> rfl) | (simp [*, errW_none, errW_some] <;> rfl), by repeat (first | (with_reducible first | exact HI0.out | apply IsS34.alloc | apply IsS34.drewN | apply IsS34.drew | apply IsS34.set_0 | apply IsS34.set_1 | apply IsS34.set_3 | apply IsS34.set_4 | apply IsS34.set_5 | apply IsS34.set_6 | apply IsS34.set_7 | apply IsS34.set_8 | apply IsS34.set_9) | exact HI0.out), by repeat (first | (with_reducible first | exact HB.out | apply below_alloc | apply pw_below_drewN | apply below_drew1 | refine below_set ?_ (IsS34.ge HI0.out)) | exact HB.out), by repeat (first | (with_reducible first | exact HK.out | apply KeepBut.set_ | apply keep_drewN | apply keep_drew | apply keep_alloc) | exact HK.out)⟩
                            · rw [if_neg c27] at H
                              have c27b0 : decide (74382032555280449 ≤ x3_1) = false := decide_eq_false c27
                              clear c27
                              have H' := Aside0.mk H
                              clear H
                              obtain ⟨ASz30_2, cSz30_2, HGz30, hgz30, HSz30_2⟩ := HI0.out
                              have hcz30_0 := cellS34_0 HGz30
                              have hcz30_1 := cellS34_1 HGz30
                              have hcz30_2 := cellS34_2 HGz30
                              have hcz30_3 := cellS34_3 HGz30
                              have hcz30_4 := cellS34_4 HGz30
                              have hcz30_5 := cellS34_5 HGz30
                              have hcz30_6 := cellS34_6 HGz30
                              have hcz30_7 := cellS34_7 HGz30
                              have hcz30_8 := cellS34_8 HGz30
                              have hcz30_9 := cellS34_9 HGz30
                              have hfz30_0 := blk_frozen HGz30 0
                              have hfz30_1 := blk_frozen HGz30 1
                              have hfz30_3 := blk_frozen HGz30 3
                              have hfz30_4 := blk_frozen HGz30 4
                              have hfz30_5 := blk_frozen HGz30 5
                              have hfz30_6 := blk_frozen HGz30 6
                              have hfz30_7 := blk_frozen HGz30 7
                              have hfz30_8 := blk_frozen HGz30 8
                              have hfz30_9 := blk_frozen HGz30 9
                              clear HGz30 hgz30
                              go_wp2
                              go_roundg kj23
                              case measure => have := HK1.out; have := HJ7.out; have := HJ16.out; have := HJ23.out; omega
                              case rel => exact ⟨(IntKind.u64.wrap ((IntKind.u64.wrap (x3_1 * 62)) + (((t265 - 65) % 256) + 36))), (t266), (wrap64 (t267 + 1)), (t268), (t269), (t270), (t271), (t272), (t273), (t274), (by first | rfl | (simp; done) | (simp [*]; done)), H', ⟨by have := HK1.out; have := HJ7.out; have := HJ16.out; have := HJ23.out; omega⟩, ⟨by repeat (first | (with_reducible first | exact HI0.out | apply IsS34.alloc | apply IsS34.drewN | apply IsS34.drew | apply IsS34.set_0 | apply IsS34.set_1 | apply IsS34.set_3 | apply IsS34.set_4 | apply IsS34.set_5 | apply IsS34.set_6 | apply IsS34.set_7 | apply IsS34.set_8 | apply IsS34.set_9) | exact HI0.out)⟩, ⟨by repeat (first | (with_reducible first | exact HK.out | apply KeepBut.set_ | apply keep_drewN | apply keep_drew | apply keep_alloc) | exact HK.out)⟩, ⟨by repeat (first | (with_reducible first | exact HB.out | apply below_alloc | apply pw_below_drewN | apply below_drew1 | refine below_set ?_ (IsS34.ge HI0.out)) | exact HB.out)⟩⟩
                          · replace c26 := Bool.eq_false_iff.mpr c26
                            subst c26
                            have H1 : (if t265 = 95 then (some (IntKind.u64.wrap (x3_1 + 1), t266, wrap64 (t267 + 1), t268, t269, t270, t271, t272, t273, t274)) else ((spec_rustReader_stop.f t266 t267 s0_2 t268 t269 t270 t271 t272 t273 t274 1).bind fun bt302 => (some (0, bt302.1, bt302.2.1, bt302.2.2.1, bt302.2.2.2.1, bt302.2.2.2.2.1, bt302.2.2.2.2.2.1, bt302.2.2.2.2.2.2.1, bt302.2.2.2.2.2.2.2.1, bt302.2.2.2.2.2.2.2.2)))) = some (r1, r2, r3, r4, r5, r6, r7, r8, r9, r10) := by rw [if_neg (show ¬ (false = true) by decide)] at H; exact H
                            clear H
                            have H := H1
                            clear H1
                            by_cases c31 : t265 = 95
                            · rw [if_pos c31] at H
                              have c31b0 : (t265 == 95) = true := beq_iff_eq.mpr c31
                              have c31b1 : (t265 != 95) = false := bne_eq_false_iff_eq.mpr c31
                              clear c31
                              simp only [Option.some.injEq, Prod.mk.injEq] at H
                              obtain ⟨rfl, rfl, rfl, rfl, rfl, rfl, rfl, rfl, rfl, rfl⟩ := H
                              obtain ⟨ASz32_2, cSz32_2, HGz32, hgz32, HSz32_2⟩ := HI0.out
                              have hcz32_0 := cellS34_0 HGz32
                              have hcz32_1 := cellS34_1 HGz32
                              have hcz32_2 := cellS34_2 HGz32
                              have hcz32_3 := cellS34_3 HGz32
                              have hcz32_4 := cellS34_4 HGz32
                              have hcz32_5 := cellS34_5 HGz32
                              have hcz32_6 := cellS34_6 HGz32
                              have hcz32_7 := cellS34_7 HGz32
                              have hcz32_8 := cellS34_8 HGz32
                              have hcz32_9 := cellS34_9 HGz32
                              have hfz32_0 := blk_frozen HGz32 0
                              have hfz32_1 := blk_frozen HGz32 1
                              have hfz32_3 := blk_frozen HGz32 3
                              have hfz32_4 := blk_frozen HGz32 4
                              have hfz32_5 := blk_frozen HGz32 5
                              have hfz32_6 := blk_frozen HGz32 6
                              have hfz32_7 := blk_frozen HGz32 7
                              have hfz32_8 := blk_frozen HGz32 8
                              have hfz32_9 := blk_frozen HGz32 9
                              clear HGz32 hgz32
                              go_wp2
                              go_ret
                              exact ⟨by first | rfl | (simp [errW_none, errW_some] <;> rfl) | (simp [*, errW_none, errW_some] <;> rfl), by repeat (first | (with_reducible first | exact HI0.out | apply IsS34.alloc | apply IsS34.drewN | apply IsS34.drew | apply IsS34.set_0 | apply IsS34.set_1 | apply IsS34.set_3 | apply IsS34.set_4 | apply IsS34.set_5 | apply IsS34.set_6 | apply IsS34.set_7 | apply IsS34.set_8 | apply IsS34.set_9) | exact HI0.out), by repeat (first | (with_reducible first | exact HB.out | apply below_alloc | apply pw_below_drewN | apply below_drew1 | refine below_set ?_ (IsS34.ge HI0.out)) | exact HB.out), by repeat (first | (with_reducible first | exact HK.out | apply KeepBut.set_ | apply keep_drewN | apply keep_drew | apply keep_alloc) | exact HK.out)⟩
                            · rw [if_neg c31] at H
                              have c31b0 : (t265 == 95) = false := beq_eq_false_iff_ne.mpr c31
                              have c31b1 : (t265 != 95) = true := bne_iff_ne.mpr c31
                              replace H := Option.bind_eq_some_iff.mp H
                              obtain ⟨⟨t302, t303, t304, t305, t306, t307, t308, t309, t310⟩, A330, H⟩ := H
                              replace H : (some (0, t302, t303, t304, t305, t306, t307, t308, t309, t310)) = some (r1, r2, r3, r4, r5, r6, r7, r8, r9, r10) := H
                              have A33 := Aside0.mk A330
                              clear A330
                              simp only [Option.some.injEq, Prod.mk.injEq] at H
                              obtain ⟨rfl, rfl, rfl, rfl, rfl, rfl, rfl, rfl, rfl, rfl⟩ := H
                              go_wp2_with (first | ((with_reducible refine gate_callee (f := 18) rfl ?_); refine goesL_ (some 16) rfl rfl Tryd.func18 (by kernel_rfl) rfl #[.pointer (some ⟨g, 0, none⟩), .int .i64 1] rfl (by (try simp only [List.map_toArray, List.map_cons, List.map_nil]); first | done | rfl | (simp only [List.length_drop, List.length_take]; rfl)) ?_; (with_reducible refine (spec_rustReader_stop.calls g t266 t267 s0_2 t268 t269 t270 t271 t272 t273 t274 1 t302 t303 t304 t305 t306 t307 t308 t309 t310 w0 _ ?side1 ?side2 A33.out).mono ?_); (case side1 => repeat (first | (with_reducible first | exact HI0.out | apply IsS34.alloc | apply IsS34.drewN | apply IsS34.drew | apply IsS34.set_0 | apply IsS34.set_1 | apply IsS34.set_3 | apply IsS34.set_4 | apply IsS34.set_5 | apply IsS34.set_6 | apply IsS34.set_7 | apply IsS34.set_8 | apply IsS34.set_9) | exact HI0.out)); (case side2 => repeat (first | (with_reducible first | exact HB.out | apply below_alloc | apply pw_below_drewN | apply below_drew1 | refine below_set ?_ (IsS34.ge HI0.out)) | exact HB.out)); rintro e w34 ⟨rfl, hi, hb, hk⟩; refine ⟨_, rfl, ?_⟩; have n0_ := Aside0.mk (KeepBut.trans (by repeat (first | (with_reducible first | exact HK.out | apply KeepBut.set_ | apply keep_drewN | apply keep_drew | apply keep_alloc) | exact HK.out)) hk (.inl rfl)); have n1_ := Aside0.mk (hb); have n2_ := Aside0.mk (hi); clear HK; clear HB; clear HI0; have HK := n0_; have HB := n1_; have HI0 := n2_; clear n0_ n1_ n2_; (try clear hb); (try clear hb2); (try clear hk); (try clear hi)))
                              go_ret
                              exact ⟨by first | rfl | (simp [errW_none, errW_some] <;> rfl) | (simp [*, errW_none, errW_some] <;> rfl), by repeat (first | (with_reducible first | exact HI0.out | apply IsS34.alloc | apply IsS34.drewN | apply IsS34.drew | apply IsS34.set_0 | apply IsS34.set_1 | apply IsS34.set_3 | apply IsS34.set_4 | apply IsS34.set_5 | apply IsS34.set_6 | apply IsS34.set_7 | apply IsS34.set_8 | apply IsS34.set_9) | exact HI0.out), by repeat (first | (with_reducible first | exact HB.out | apply below_alloc | apply pw_below_drewN | apply below_drew1 | refine below_set ?_ (IsS34.ge HI0.out)) | exact HB.out), by repeat (first | (with_reducible first | exact HK.out | apply KeepBut.set_ | apply keep_drewN | apply keep_drew | apply keep_alloc) | exact HK.out)⟩
        · rw [if_neg c6] at H
          have c6b0 : (x1004_1 == 0) = false := beq_eq_false_iff_ne.mpr c6
          have c6b1 : (x1004_1 != 0) = true := bne_iff_ne.mpr c6
          simp only [Option.some.injEq, Prod.mk.injEq] at H
          obtain ⟨rfl, rfl, rfl, rfl, rfl, rfl, rfl, rfl, rfl, rfl⟩ := H
          obtain ⟨ASz35_2, cSz35_2, HGz35, hgz35, HSz35_2⟩ := HI0.out
          have hcz35_0 := cellS34_0 HGz35
          have hcz35_1 := cellS34_1 HGz35
          have hcz35_2 := cellS34_2 HGz35
          have hcz35_3 := cellS34_3 HGz35
          have hcz35_4 := cellS34_4 HGz35
          have hcz35_5 := cellS34_5 HGz35
          have hcz35_6 := cellS34_6 HGz35
          have hcz35_7 := cellS34_7 HGz35
          have hcz35_8 := cellS34_8 HGz35
          have hcz35_9 := cellS34_9 HGz35
          have hfz35_0 := blk_frozen HGz35 0
          have hfz35_1 := blk_frozen HGz35 1
          have hfz35_3 := blk_frozen HGz35 3
          have hfz35_4 := blk_frozen HGz35 4
          have hfz35_5 := blk_frozen HGz35 5
          have hfz35_6 := blk_frozen HGz35 6
          have hfz35_7 := blk_frozen HGz35 7
          have hfz35_8 := blk_frozen HGz35 8
          have hfz35_9 := blk_frozen HGz35 9
          clear HGz35 hgz35
          go_wp2
          go_ret
          exact ⟨by first | rfl | (simp [errW_none, errW_some] <;> rfl) | (simp [*, errW_none, errW_some] <;> rfl), by repeat (first | (with_reducible first | exact HI0.out | apply IsS34.alloc | apply IsS34.drewN | apply IsS34.drew | apply IsS34.set_0 | apply IsS34.set_1 | apply IsS34.set_3 | apply IsS34.set_4 | apply IsS34.set_5 | apply IsS34.set_6 | apply IsS34.set_7 | apply IsS34.set_8 | apply IsS34.set_9) | exact HI0.out), by repeat (first | (with_reducible first | exact HB.out | apply below_alloc | apply pw_below_drewN | apply below_drew1 | refine below_set ?_ (IsS34.ge HI0.out)) | exact HB.out), by repeat (first | (with_reducible first | exact HK.out | apply KeepBut.set_ | apply keep_drewN | apply keep_drew | apply keep_alloc) | exact HK.out)⟩

/-! ### spec_RustDecimal: function 17 -/
def spec_RustDecimal.f : Nat → Int → Option (ByteArray)
  | 0, _ => none
  | k + 1, a0 => if a0 < 10 then (some (strOfNums (([(IntKind.u64.wrap (48 + a0)) % 256] : List Int)))) else ((spec_RustDecimal.f k (IntKind.u64.wrap (Int.tdiv a0 10))).bind fun t314 => ((spec_RustDecimal.f k (Int.tmod a0 10)).bind fun t315 => (if t314.size + t315.size ≤ 9223372036854775807 then (some (t314 ++ t315)) else (none))))
theorem spec_RustDecimal.mono_l : ∀ k, (∀ y0, LeO (spec_RustDecimal.f k y0) (spec_RustDecimal.f (k + 1) y0))
  | 0 => fun _ r h => by simp [spec_RustDecimal.f] at h
  | k + 1 => by
    have ih0 := spec_RustDecimal.mono_l k
    · intro y0
      unfold spec_RustDecimal.f
      repeat' first
      | (with_reducible exact ih0 _)
      | (with_reducible exact LeO.refl _)
      | (with_reducible exact LeO.none _)
      | (with_reducible refine LeO.ite ?_ ?_)
      | (with_reducible refine LeO.bind ?_ (fun _ => ?_))
      | exact ih0 _
      | exact LeO.none _
      | refine LeO.ite ?_ ?_
      | refine LeO.bind ?_ (fun _ => ?_)
theorem spec_RustDecimal.mono : ∀ a0 k, LeO (spec_RustDecimal.f k a0) (spec_RustDecimal.f (k + 1) a0) := by
  intro a0 k
  have ih0 := spec_RustDecimal.mono_l k
  exact ih0 a0
set_option maxHeartbeats 8000000 in
set_option maxRecDepth 100000 in
theorem spec_RustDecimal.calls (k : Nat) : ∀ (a0 : Int) (r : ByteArray) (w : World) (h : spec_RustDecimal.f k a0 = some r),
    Calls Tryd.prog 17 #[.int .u64 a0] w fun e w' => e = .returned (.string r) ∧ Below w.heap.size w w' := by
  induction k using Nat.strongRecOn with
  | _ k ih =>
  intro a0 r w h
  cases k with
  | zero => exact absurd h (by simp [spec_RustDecimal.f])
  | succ k =>
  simp only [spec_RustDecimal.f] at h
  have HB := Aside0.mk (Below.refl w.heap.size w)
  have H : (if a0 < 10 then (some (strOfNums (([(IntKind.u64.wrap (48 + a0)) % 256] : List Int)))) else ((spec_RustDecimal.f k (IntKind.u64.wrap (Int.tdiv a0 10))).bind fun t314 => ((spec_RustDecimal.f k (Int.tmod a0 10)).bind fun t315 => (if t314.size + t315.size ≤ 9223372036854775807 then (some (t314 ++ t315)) else (none))))) = some r := h
  clear h
  by_cases c2 : a0 < 10
  · rw [if_pos c2] at H
    have c2b0 : decide (a0 < 10) = true := decide_eq_true c2
    clear c2
    obtain ⟨y311, hy311⟩ : ∃ y_ : List Int, y_ = (([(IntKind.u64.wrap (48 + a0)) % 256] : List Int)) := ⟨_, rfl⟩
    replace H : (some (strOfNums y311)) = some r := by first | (rw [hy311]; with_reducible exact H) | (have H2_ := (Option.bind_some _ _).symm.trans H; rw [hy311]; with_reducible exact H2_) | (have H2_ := (Option.bind_some _ _).symm.trans H; with_reducible exact H2_) | with_reducible exact H | (rw [hy311]; exact H) | exact H
    have Ny311 := Aside0.mk hy311
    clear hy311
    obtain rfl := Option.some.inj H
    go_enter Tryd.func17, Tryd.ntmps17
    go_wp2_with (first | ((with_reducible refine gate_dst (N := 8) rfl ?_); refine Kd.R_lit (Kd.int .u8) _ 5 ?hg (N := 8) ?hd (xs := ([(IntKind.u64.wrap (48 + a0)) % 256] : List Int)) (inner := [.int .u8 ((IntKind.u64.wrap (48 + a0)) % 256)]) (ok := fun _ => True) (okp := fun _ => True) ?hr ?hp (fun _ hk => hk) trivial (Below.refl _ _) (Nat.le_refl _) (by simp) ?_; (case hd => rfl); (case hg => rfl); (case hr => first | (go_simp; done) | (go_simp; rfl)); (case hp => exact (Reps.one (show Kd.M (Kd.int .u8) _ _ _ ((IntKind.u64.wrap (48 + a0)) % 256) [.int .u8 ((IntKind.u64.wrap (48 + a0)) % 256)] from rfl) (Reps.none _ _))); intro v312 w3 ho4 hb hg_ hnew_; clear hg_ hnew_; (first | rw [← Ny311.out] at ho4 | (simp only [Int.reduceToNat] at ho4; rw [← Ny311.out] at ho4)); have n0_ := Aside0.mk (Kd.R_lower ho4 (below_size (by repeat (first | (with_reducible first | exact HB.out | apply below_alloc | apply pw_below_drewN | apply below_drew1) | exact HB.out)))); have n1_ := Aside0.mk (below_step (by repeat (first | (with_reducible first | exact HB.out | apply below_alloc | apply pw_below_drewN | apply below_drew1) | exact HB.out)) hb); clear HB; have HO313 := n0_; have HB := n1_; clear n0_ n1_; clear hb ho4; have hcv5 := own_string (P := Tryd.prog) Tryd.underlying46 Tryd.underlying5 Tryd.underlying9 (Kd.own_of_R HO313.out)))
    go_ret
    exact ⟨by first | rfl | (simp [errW_none, errW_some] <;> rfl) | (simp [*, errW_none, errW_some] <;> rfl), by repeat (first | (with_reducible first | exact HB.out | apply below_alloc | apply pw_below_drewN | apply below_drew1) | exact HB.out)⟩
  · rw [if_neg c2] at H
    have c2b0 : decide (a0 < 10) = false := decide_eq_false c2
    clear c2
    replace H := Option.bind_eq_some_iff.mp H
    obtain ⟨t314, A60, H⟩ := H
    replace H : ((spec_RustDecimal.f k (Int.tmod a0 10)).bind fun t315 => (if t314.size + t315.size ≤ 9223372036854775807 then (some (t314 ++ t315)) else (none))) = some r := H
    have A6 := Aside0.mk A60
    clear A60
    replace H := Option.bind_eq_some_iff.mp H
    obtain ⟨t315, A70, H⟩ := H
    replace H : (if t314.size + t315.size ≤ 9223372036854775807 then (some (t314 ++ t315)) else (none)) = some r := H
    have A7 := Aside0.mk A70
    clear A70
    by_cases c8 : t314.size + t315.size ≤ 9223372036854775807
    · rw [if_pos c8] at H
      have c8b0 := eq_true c8
      have c8b1 : decide (t314.size + t315.size ≤ 9223372036854775807) = true := decide_eq_true c8
      try have c8b2 : (9223372036854775807 < t314.size + t315.size) = False := eq_false (Nat.not_lt.2 c8)
      obtain rfl := Option.some.inj H
      go_enter Tryd.func17, Tryd.ntmps17
      go_wp2_with (first | ((with_reducible refine gate_callee (f := 17) rfl ?_); refine goesL_ (some 12) rfl rfl Tryd.func17 (by kernel_rfl) rfl #[.int .u64 (IntKind.u64.wrap (Int.tdiv a0 10))] rfl (by (try simp only [List.map_toArray, List.map_cons, List.map_nil]); first | done | rfl | (simp only [List.length_drop, List.length_take]; rfl)) ?_; (with_reducible refine (ih k (by omega) (IntKind.u64.wrap (Int.tdiv a0 10)) t314 _ A6.out).mono ?_); rintro e w9 ⟨rfl, hb⟩; refine ⟨_, rfl, ?_⟩; have n0_ := Aside0.mk (below_step (by repeat (first | (with_reducible first | exact HB.out | apply below_alloc | apply pw_below_drewN | apply below_drew1) | exact HB.out)) hb); clear HB; have HB := n0_; clear n0_; (try clear hb); (try clear hb2); (try clear hk); (try clear hi)) | ((with_reducible refine gate_callee (f := 17) rfl ?_); refine goesL_ (some 15) rfl rfl Tryd.func17 (by kernel_rfl) rfl #[.int .u64 (Int.tmod a0 10)] rfl (by (try simp only [List.map_toArray, List.map_cons, List.map_nil]); first | done | rfl | (simp only [List.length_drop, List.length_take]; rfl)) ?_; (with_reducible refine (ih k (by omega) (Int.tmod a0 10) t315 _ A7.out).mono ?_); rintro e w10 ⟨rfl, hb⟩; refine ⟨_, rfl, ?_⟩; have n0_ := Aside0.mk (below_step (by repeat (first | (with_reducible first | exact HB.out | apply below_alloc | apply pw_below_drewN | apply below_drew1) | exact HB.out)) hb); clear HB; have HB := n0_; clear n0_; (try clear hb); (try clear hb2); (try clear hk); (try clear hi)))
      go_ret
      exact ⟨by first | rfl | (simp [errW_none, errW_some] <;> rfl) | (simp [*, errW_none, errW_some] <;> rfl), by repeat (first | (with_reducible first | exact HB.out | apply below_alloc | apply pw_below_drewN | apply below_drew1) | exact HB.out)⟩
    · rw [if_neg c8] at H
      exact absurd H (by simp)

end Go.Proofs.YtaegllbokgjoeaaDoor.PconstantHere
