/- Written by a program of this session (wip/tools/myprint.py) with the kit's print: contracts of the functions that one statement reaches; functions that are proved by hand are taken as printed. Conditions: none. -/
import Derived.Test.YtkhbmkccbhkolaaGreatDoorPFnUnicodeNamesx0
import Derived.Test.YtkhbmkccbhkolaaGreatDoorPFnUnicodeNamesx1
import Derived.Test.YtkhbmkccbhkolaaGreatDoorPFnUnicodeNamesx4
namespace Go.Proofs.YtkhbmkccbhkolaaGreatDoor.PFnUnicodeNames
open Go.RowKit Go.Proofs.YtkhbmkccbhkolaaGreatDoorW.PrintWords Go.Proofs.YtkhbmkccbhkolaaGreatDoorW.PrintLast Go.Proofs.YtkhbmkccbhkolaaGreatDoorW.PrintMore
attribute [local go_sem] max2_int min2_int max_two min_two max_three min_three max_four min_four   -- for this text's walks alone
set_option linter.unusedVariables false
set_option linter.unusedSimpArgs false

/-! ### laws_FnUnicodeNames: function 3 -/
mutual
def laws_FnUnicodeNames.j0 : Nat → List Int → List (List Int) → Bool → Option (Bool)
  | 0, _, _, _ => none
  | k + 1, x0, x1, x16 => if x16 = true then (some true) else (if 0 ≤ (mn (x0.length : Int) 1000) then (if (mn (x0.length : Int) 1000) ≤ (x0.length : Int) then ((spec_AnCharacters.f k (x0.take ((mn (x0.length : Int) 1000) : Int).toNat)).bind fun t162 => ((spec_AnString.f k t162).bind fun t165 => (laws_FnUnicodeNames.l0 k t165 (([] : List (S30))) x1 (x1.length : Int) 0))) else (none)) else (none))
def laws_FnUnicodeNames.l0 : Nat → ByteArray → List (S30) → List (List Int) → Int → Int → Option (Bool)
  | 0, _, _, _, _, _ => none
  | k + 1, x5, x6, x25, x26, x27 => if x27 < x26 then (if 0 ≤ x27 then (if x27 < (x25.length : Int) then (if x27 < 100 then (if 0 ≤ (mn ((rd_L1 x25 x27).length : Int) 1000) then (if (mn ((rd_L1 x25 x27).length : Int) 1000) ≤ ((rd_L1 x25 x27).length : Int) then ((spec_AnCharacters.f k ((rd_L1 x25 x27).take ((mn ((rd_L1 x25 x27).length : Int) 1000) : Int).toNat)).bind fun t174 => ((spec_AnString.f k t174).bind fun t177 => (if x6.length < 4398046511104 then (laws_FnUnicodeNames.l0 k x5 (x6 ++ [(⟨118, t177, 0⟩ : S30)]) x25 x26 (wrap64 (x27 + 1))) else (none)))) else (none)) else (none)) else (laws_FnUnicodeNames.l0 k x5 x6 x25 x26 (wrap64 (x27 + 1)))) else (none)) else (none)) else ((spec_IdSymbol.f k x5 0 x6).bind fun t169 => (if 2 + t169.size ≤ 9223372036854775807 then ((spec_IdText.f k x5 x6).bind fun t170 => ((laws_idTold.f ((⟨#[95, 82]⟩ : ByteArray) ++ t169) t170).bind fun t171 => (some t171))) else (none)))
end
def laws_FnUnicodeNames.f (k : Nat) (l0 : List Int) (l1 : List (List Int)) : Option (Bool) := if (l0.length : Int) > 2147483647 then (laws_FnUnicodeNames.j0 k l0 l1 true) else ((laws_zzFits3.f k l1).bind fun t160 => (laws_FnUnicodeNames.j0 k l0 l1 (!t160)))
theorem laws_FnUnicodeNames.mono_l : ∀ k, (∀ y0 y1 y2, LeO (laws_FnUnicodeNames.j0 k y0 y1 y2) (laws_FnUnicodeNames.j0 (k + 1) y0 y1 y2)) ∧ (∀ y0 y1 y2 y3 y4, LeO (laws_FnUnicodeNames.l0 k y0 y1 y2 y3 y4) (laws_FnUnicodeNames.l0 (k + 1) y0 y1 y2 y3 y4))
  | 0 => ⟨fun _ _ _ r h => by simp [laws_FnUnicodeNames.j0] at h, fun _ _ _ _ _ r h => by simp [laws_FnUnicodeNames.l0] at h⟩
  | k + 1 => by
    obtain ⟨ih0, ih1⟩ := laws_FnUnicodeNames.mono_l k
    refine ⟨?_, ?_⟩
    · intro y0 y1 y2
      unfold laws_FnUnicodeNames.j0
      repeat' first
      | (with_reducible exact ih0 _ _ _)
      | (with_reducible exact ih1 _ _ _ _ _)
      | (with_reducible exact laws_zzFits3.mono _ _)
      | (with_reducible exact spec_AnCharacters.mono _ _)
      | (with_reducible exact spec_AnString.mono _ _)
      | (with_reducible exact spec_IdSymbol.mono _ _ _ _)
      | (with_reducible exact spec_IdText.mono _ _ _)
      | (with_reducible exact LeO.refl _)
      | (with_reducible exact LeO.none _)
      | (with_reducible refine LeO.ite ?_ ?_)
      | (with_reducible refine LeO.bind ?_ (fun _ => ?_))
      | exact ih0 _ _ _
      | exact ih1 _ _ _ _ _
      | exact laws_zzFits3.mono _ _
      | exact spec_AnCharacters.mono _ _
      | exact spec_AnString.mono _ _
      | exact spec_IdSymbol.mono _ _ _ _
      | exact spec_IdText.mono _ _ _
      | exact LeO.none _
      | refine LeO.ite ?_ ?_
      | refine LeO.bind ?_ (fun _ => ?_)
    · intro y0 y1 y2 y3 y4
      unfold laws_FnUnicodeNames.l0
      repeat' first
      | (with_reducible exact ih0 _ _ _)
      | (with_reducible exact ih1 _ _ _ _ _)
      | (with_reducible exact laws_zzFits3.mono _ _)
      | (with_reducible exact spec_AnCharacters.mono _ _)
      | (with_reducible exact spec_AnString.mono _ _)
      | (with_reducible exact spec_IdSymbol.mono _ _ _ _)
      | (with_reducible exact spec_IdText.mono _ _ _)
      | (with_reducible exact LeO.refl _)
      | (with_reducible exact LeO.none _)
      | (with_reducible refine LeO.ite ?_ ?_)
      | (with_reducible refine LeO.bind ?_ (fun _ => ?_))
      | exact ih0 _ _ _
      | exact ih1 _ _ _ _ _
      | exact laws_zzFits3.mono _ _
      | exact spec_AnCharacters.mono _ _
      | exact spec_AnString.mono _ _
      | exact spec_IdSymbol.mono _ _ _ _
      | exact spec_IdText.mono _ _ _
      | exact LeO.none _
      | refine LeO.ite ?_ ?_
      | refine LeO.bind ?_ (fun _ => ?_)
theorem laws_FnUnicodeNames.mono : ∀ a0 a1 k, LeO (laws_FnUnicodeNames.f k a0 a1) (laws_FnUnicodeNames.f (k + 1) a0 a1) := by
  intro a0 a1 k
  obtain ⟨ih0, ih1⟩ := laws_FnUnicodeNames.mono_l k
  unfold laws_FnUnicodeNames.f
  repeat' first
      | (with_reducible exact ih0 _ _ _)
      | (with_reducible exact ih1 _ _ _ _ _)
      | (with_reducible exact laws_zzFits3.mono _ _)
      | (with_reducible exact spec_AnCharacters.mono _ _)
      | (with_reducible exact spec_AnString.mono _ _)
      | (with_reducible exact spec_IdSymbol.mono _ _ _ _)
      | (with_reducible exact spec_IdText.mono _ _ _)
      | (with_reducible exact LeO.refl _)
      | (with_reducible exact LeO.none _)
      | (with_reducible refine LeO.ite ?_ ?_)
      | (with_reducible refine LeO.bind ?_ (fun _ => ?_))
      | exact ih0 _ _ _
      | exact ih1 _ _ _ _ _
      | exact laws_zzFits3.mono _ _
      | exact spec_AnCharacters.mono _ _
      | exact spec_AnString.mono _ _
      | exact spec_IdSymbol.mono _ _ _ _
      | exact spec_IdText.mono _ _ _
      | exact LeO.none _
      | refine LeO.ite ?_ ?_
      | refine LeO.bind ?_ (fun _ => ?_)
set_option maxHeartbeats 8000000 in
set_option maxRecDepth 100000 in
theorem laws_FnUnicodeNames.calls (k : Nat) (A0 : Option Addr) (c0 : Nat) (l0 : List Int) (A1 : Option Addr) (c1 : Nat) (l1 : List (List Int)) (r : Bool) (w : World) (hr0 : Kd.C (Kd.int .i64) w A0 l0.length l0) (hc0 : l0.length ≤ c0) (hr1 : Kd.C (Kd.slice 3 (Kd.int .i64)) w A1 l1.length l1) (hc1 : l1.length ≤ c1) (hT_ : DoorU w) (h : laws_FnUnicodeNames.f k l0 l1 = some r) :
    Calls Tryz.prog 3 #[.slice A0 l0.length c0, .slice A1 l1.length c1] w fun e w' => e = .returned (.bool r) ∧ Below w.heap.size w w' := by
  have hu30 := Tryz.underlying30
  have HR0 := Aside0.mk hr0
  have HC0 := Aside0.mk hc0
  clear hr0 hc0
  have HR1 := Aside0.mk hr1
  have HC1 := Aside0.mk hc1
  clear hr1 hc1
  have HB := Aside0.mk (Below.refl w.heap.size w)
  have H : (if (l0.length : Int) > 2147483647 then (laws_FnUnicodeNames.j0 k l0 l1 true) else ((laws_zzFits3.f k l1).bind fun t160 => (laws_FnUnicodeNames.j0 k l0 l1 (!t160)))) = some r := h
  clear h
  have HC3 := Aside0.mk H
  clear H
  go_enter Tryz.func3, Tryz.ntmps3
  go_upto_region 1 with (fail)
  go_cut [16] (fun v16 wc => ∃ (kq : Nat) (x16_2 : Bool), v16 = .bool x16_2 ∧ Aside0 (laws_FnUnicodeNames.j0 kq l0 l1 x16_2 = some r) ∧ Aside0 (kq ≤ k) ∧ Aside0 (Below w.heap.size w wc))
  case first =>
    have H := HC3.out
    clear HC3
    by_cases c4 : (l0.length : Int) > 2147483647
    · rw [if_pos c4] at H
      have c4b0 : decide (2147483647 < (l0.length : Int)) = true := decide_eq_true c4
      have c4b1 : decide (2147483647 < l0.length) = true := decide_eq_true (by omega)
      clear c4
      (first | rw [c4b0] | (simp only [i64_w, i32_w]; rw [c4b0]) | rw [c4b1] | skip)
      have H' := Aside0.mk H
      clear H
      go_wp2
      go_meet
      case rel => exact ⟨_, (true), (by first | rfl | (simp; done) | (simp [*]; done)), H', ⟨by first | omega | exact Nat.le_refl _⟩, ⟨by repeat (first | (with_reducible first | exact HB.out | apply below_alloc | apply pw_below_drewN | apply below_drew1) | exact HB.out)⟩⟩
    · rw [if_neg c4] at H
      have c4b0 : decide (2147483647 < (l0.length : Int)) = false := decide_eq_false c4
      have c4b1 : decide (2147483647 < l0.length) = false := decide_eq_false (by omega)
      clear c4
      (first | rw [c4b0] | (simp only [i64_w, i32_w]; rw [c4b0]) | rw [c4b1] | skip)
      replace H := Option.bind_eq_some_iff.mp H
      obtain ⟨t160, A50, H⟩ := H
      replace H : (laws_FnUnicodeNames.j0 k l0 l1 (!t160)) = some r := H
      have A5 := Aside0.mk A50
      clear A50
      have H' := Aside0.mk H
      clear H
      go_wp2_with (first | (go_at_call 4; (with_reducible refine (laws_zzFits3.calls k _ _ l1 t160 _ ?side1 ?side2 A5.out).mono ?_); (case side1 => repeat (first | exact (Kd.C_below HR1.out HB.out) | (with_reducible refine Kd.C_alloc ?_ _) | (with_reducible refine Kd.C_drewN ?_ _) | (with_reducible refine Kd.C_drew ?_))); (case side2 => exact HC1.out); rintro e w' ⟨rfl, ⟨nd, rfl⟩⟩))
      go_meet
      case rel => exact ⟨_, (!t160), (by first | rfl | (simp; done) | (simp [*]; done)), H', ⟨by first | omega | exact Nat.le_refl _⟩, ⟨by repeat (first | (with_reducible first | exact HB.out | apply below_alloc | apply pw_below_drewN | apply below_drew1) | exact HB.out)⟩⟩
  case rest =>
    clear HC3
    try clear c1
    try clear p2
    try clear c3
    try clear c4
    try clear c4b0
    try clear c4b1
    obtain ⟨kq, x16_2, rfl, HA, HJ2, HB⟩ := hcut
    cases kq with
    | zero => exact absurd HA.out (by simp [laws_FnUnicodeNames.j0])
    | succ kj2 =>
      have H := HA.out
      clear HA
      simp only [laws_FnUnicodeNames.j0] at H
      by_cases c6 : x16_2 = true
      · subst c6
        have H1 : (some true) = some r := by rw [if_pos rfl] at H; exact H
        clear H
        have H := H1
        clear H1
        obtain rfl := Option.some.inj H
        go_wp2
        go_ret
        exact ⟨by first | rfl | (simp [errW_none, errW_some] <;> rfl) | (simp [*, errW_none, errW_some] <;> rfl), by repeat (first | (with_reducible first | exact HB.out | apply below_alloc | apply pw_below_drewN | apply below_drew1) | exact HB.out)⟩
      · replace c6 := Bool.eq_false_iff.mpr c6
        subst c6
        have H1 : (if 0 ≤ (mn (l0.length : Int) 1000) then (if (mn (l0.length : Int) 1000) ≤ (l0.length : Int) then ((spec_AnCharacters.f kj2 (l0.take ((mn (l0.length : Int) 1000) : Int).toNat)).bind fun t162 => ((spec_AnString.f kj2 t162).bind fun t165 => (laws_FnUnicodeNames.l0 kj2 t165 (([] : List (S30))) l1 (l1.length : Int) 0))) else (none)) else (none)) = some r := by rw [if_neg (show ¬ (false = true) by decide)] at H; exact H
        clear H
        have H := H1
        clear H1
        obtain ⟨ji7, hji7⟩ : ∃ j_ : Int, (mn (l0.length : Int) 1000) = j_ := ⟨_, rfl⟩
        replace H : (if 0 ≤ (ji7) then (if (ji7) ≤ (l0.length : Int) then ((spec_AnCharacters.f kj2 (l0.take ((ji7) : Int).toNat)).bind fun t162 => ((spec_AnString.f kj2 t162).bind fun t165 => (laws_FnUnicodeNames.l0 kj2 t165 (([] : List (S30))) l1 (l1.length : Int) 0))) else (none)) else (none)) = some r := by first | (rw [hji7] at H; exact H) | (simp only [hji7] at H ⊢; exact H)
        have hji7_ : (if 1000 < (l0.length : Int) then 1000 else (l0.length : Int)) = ji7 := hji7
        by_cases c8 : 0 ≤ (ji7)
        · rw [if_pos c8] at H
          have c8b0 := eq_true c8
          have c8b1 : decide (0 ≤ (ji7)) = true := decide_eq_true c8
          clear c8
          by_cases c9 : (ji7) ≤ (l0.length : Int)
          · rw [if_pos c9] at H
            have c9b0 := eq_true c9
            have c9b1 : decide ((ji7) ≤ (l0.length : Int)) = true := decide_eq_true c9
            clear c9
            replace H := Option.bind_eq_some_iff.mp H
            obtain ⟨t162, A100, H⟩ := H
            replace H : ((spec_AnString.f kj2 t162).bind fun t165 => (laws_FnUnicodeNames.l0 kj2 t165 (([] : List (S30))) l1 (l1.length : Int) 0)) = some r := H
            have A10 := Aside0.mk A100
            clear A100
            replace H := Option.bind_eq_some_iff.mp H
            obtain ⟨t165, A110, H⟩ := H
            replace H : (laws_FnUnicodeNames.l0 kj2 t165 (([] : List (S30))) l1 (l1.length : Int) 0) = some r := H
            have A11 := Aside0.mk A110
            clear A110
            obtain ⟨y166, hy166⟩ : ∃ y_ : List (S30), y_ = (([] : List (S30))) := ⟨_, rfl⟩
            replace H : (laws_FnUnicodeNames.l0 kj2 t165 y166 l1 (l1.length : Int) 0) = some r := by first | (rw [hy166]; with_reducible exact H) | (have H2_ := (Option.bind_some _ _).symm.trans H; rw [hy166]; with_reducible exact H2_) | (have H2_ := (Option.bind_some _ _).symm.trans H; with_reducible exact H2_) | with_reducible exact H | (rw [hy166]; exact H) | exact H
            have Ny166 := Aside0.mk hy166
            clear hy166
            have H' := Aside0.mk H
            clear H
            obtain ⟨i012, hi012, _, hsz12, _⟩ := info_parts info3
            obtain ⟨hcut12, hA12, hC12⟩ := print_take_of (P := Tryz.prog) (Value.int .i64) 0 22 3 .i64 Tryz.underlying22 hi012 hsz12 A0 c0 l0 (ji7) (of_decide_eq_true (by first | (with_reducible assumption) | assumption)) (of_decide_eq_true (by first | (with_reducible assumption) | assumption)) HC0.out
            have HR161 := Aside0.mk (Kd.C_of_reads (h1 := fun _ => rfl) (hA12 _ (Kd.reads_of_C HR0.out)))
            have HC161 := Aside0.mk hC12
            clear hA12 hC12 hi012 hsz12
            go_wp2_with (first | ((with_reducible refine gate_callee (f := 6) rfl ?_); refine goesL_ (some 22) rfl rfl Tryz.func6 (by kernel_rfl) rfl #[.slice A0 (l0.take ((ji7) : Int).toNat).length c0] rfl (by (try simp only [List.map_toArray, List.map_cons, List.map_nil]); first | done | (rw [show (l0.take ((ji7) : Int).toNat).length = (ji7).toNat from (by rw [List.length_take]; have h_ : ((ji7) : Int) ≤ (l0.length : Int) := of_decide_eq_true (by first | (with_reducible assumption) | assumption); omega)] <;> rfl) | (simp only [hji7]; rfl) | rfl | (simp only [List.length_drop, List.length_take]; rfl)) ?_; (with_reducible refine (spec_AnCharacters.calls kj2 _ _ (l0.take ((ji7) : Int).toNat) t162 _ ?side1 ?side2 A10.out).mono ?_); (case side1 => repeat (first | exact (Kd.C_below HR161.out HB.out) | (with_reducible refine Kd.C_alloc ?_ _) | (with_reducible refine Kd.C_drewN ?_ _) | (with_reducible refine Kd.C_drew ?_))); (case side2 => exact HC161.out); rintro e w13 ⟨v163, rfl, ho0, hb⟩; refine ⟨_, rfl, ?_⟩; have n0_ := Aside0.mk (Kd.R_lower ho0 (below_size (by repeat (first | (with_reducible first | exact HB.out | apply below_alloc | apply pw_below_drewN | apply below_drew1) | exact HB.out)))); have n1_ := Aside0.mk (below_step (by repeat (first | (with_reducible first | exact HB.out | apply below_alloc | apply pw_below_drewN | apply below_drew1) | exact HB.out)) hb); clear HB; have HO164 := n0_; have HB := n1_; clear n0_ n1_; (try clear hb); (try clear hb2); (try clear hk); (try clear hi); (try clear ho0); obtain ⟨Ao14, co14, eo14⟩ := Kd.R_slice HO164.out; subst eo14) | ((with_reducible refine gate_callee (f := 5) rfl ?_); refine goesL_ (some 23) rfl rfl Tryz.func5 (by kernel_rfl) rfl #[.slice Ao14 t162.length co14] rfl (by (try simp only [List.map_toArray, List.map_cons, List.map_nil]); first | done | rfl | (simp only [List.length_drop, List.length_take]; rfl)) ?_; (with_reducible refine (spec_AnString.calls kj2 _ _ t162 t165 _ ?side1 ?side2 A11.out).mono ?_); (case side1 => repeat (first | exact (Kd.R_reads' HO164.out).2.2 | (with_reducible refine Kd.C_alloc ?_ _) | (with_reducible refine Kd.C_drewN ?_ _) | (with_reducible refine Kd.C_drew ?_))); (case side2 => exact (Kd.R_reads' HO164.out).2.1); rintro e w' ⟨rfl, ⟨nd, rfl⟩⟩; refine ⟨_, rfl, ?_⟩) | ((with_reducible refine gate_dst (N := 24) rfl ?_); refine Kd.R_lit k30 _ 30 ?hg (N := 24) ?hd (xs := ([] : List (S30))) (inner := []) (ok := fun _ => True) (okp := fun _ => True) ?hr ?hp (fun _ hk => hk) trivial (Below.refl _ _) (Nat.le_refl _) (by simp) ?_; (case hd => rfl); (case hg => rfl); (case hr => first | (go_simp; done) | (go_simp; rfl)); (case hp => exact (Reps.none _ _)); intro v167 w15 ho16 hb hg_ hnew_; clear hg_ hnew_; (first | rw [← Ny166.out] at ho16 | (simp only [Int.reduceToNat] at ho16; rw [← Ny166.out] at ho16)); have n0_ := Aside0.mk (Kd.R_below (by (with_reducible repeat (first | apply Kd.R_alloc | apply Kd.R_drewN | apply Kd.R_drew)); exact HO164.out) hb); have n1_ := Aside0.mk (Kd.R_lower ho16 (below_size (by repeat (first | (with_reducible first | exact HB.out | apply below_alloc | apply pw_below_drewN | apply below_drew1) | exact HB.out)))); have n2_ := Aside0.mk (below_step (by repeat (first | (with_reducible first | exact HB.out | apply below_alloc | apply pw_below_drewN | apply below_drew1) | exact HB.out)) hb); clear HO164; clear HB; have HO164 := n0_; have HO168 := n1_; have HB := n2_; clear n0_ n1_ n2_; clear hb ho16))
            go_loopg [6, 27] kj2 (fun kq v6 v27 w' => ∃ (x6_2 : List (S30)) (x27_2 : Int), v27 = .int .i64 x27_2 ∧ Aside0 (laws_FnUnicodeNames.l0 kq t165 x6_2 l1 (l1.length : Int) x27_2 = some r) ∧ Aside0 (kq ≤ kj2) ∧ Aside0 (Kd.R k30 30 w' w.heap.size (fun _ => True) v6 x6_2) ∧ Aside0 (Below w.heap.size w w'))
            case atStart => exact ⟨(y166), (0), (by first | rfl | (simp; done) | (simp [*]; done)), H', ⟨Nat.le_refl _⟩, ⟨by (with_reducible repeat (first | apply Kd.R_alloc | apply Kd.R_drewN | apply Kd.R_drew)); exact HO168.out⟩, ⟨by repeat (first | (with_reducible first | exact HB.out | apply below_alloc | apply pw_below_drewN | apply below_drew1) | exact HB.out)⟩⟩
            case round =>
              clear H'
              try clear c1
              try clear p2
              try clear c3
              try clear c4
              try clear c4b0
              try clear c4b1
              try clear c5
              try clear c6
              try clear c8
              try clear c8b0
              try clear c8b1
              try clear c9
              try clear c9b0
              try clear c9b1
              try clear p2
              obtain ⟨x6_2, x27_2, rfl, HA, HK2, HO_6, HB⟩ := hrel
              cases gk with
              | zero => exact absurd HA.out (by simp [laws_FnUnicodeNames.l0])
              | succ k2 =>
                have H := HA.out
                clear HA
                simp only [laws_FnUnicodeNames.l0] at H
                by_cases c17 : x27_2 < (l1.length : Int)
                · rw [if_pos c17] at H
                  have c17b0 : decide (x27_2 < (l1.length : Int)) = true := decide_eq_true c17
                  clear c17
                  by_cases c18 : 0 ≤ x27_2
                  · rw [if_pos c18] at H
                    have c18b0 : decide (0 ≤ x27_2) = true := decide_eq_true c18
                    clear c18
                    by_cases c19 : x27_2 < (l1.length : Int)
                    · rw [if_pos c19] at H
                      have c19b0 : decide (x27_2 < (l1.length : Int)) = true := decide_eq_true c19
                      clear c19
                      by_cases c20 : x27_2 < 100
                      · rw [if_pos c20] at H
                        have c20b0 : decide (x27_2 < 100) = true := decide_eq_true c20
                        clear c20
                        obtain ⟨ji21, hji21⟩ : ∃ j_ : Int, (mn ((rd_L1 l1 x27_2).length : Int) 1000) = j_ := ⟨_, rfl⟩
                        replace H : (if 0 ≤ (ji21) then (if (ji21) ≤ ((rd_L1 l1 x27_2).length : Int) then ((spec_AnCharacters.f k2 ((rd_L1 l1 x27_2).take ((ji21) : Int).toNat)).bind fun t174 => ((spec_AnString.f k2 t174).bind fun t177 => (if x6_2.length < 4398046511104 then (laws_FnUnicodeNames.l0 k2 t165 (x6_2 ++ [(⟨118, t177, 0⟩ : S30)]) l1 (l1.length : Int) (wrap64 (x27_2 + 1))) else (none)))) else (none)) else (none)) = some r := by first | (rw [hji21] at H; exact H) | (simp only [hji21] at H ⊢; exact H)
                        have hji21_ : (if 1000 < ((rd_L1 l1 x27_2).length : Int) then 1000 else ((rd_L1 l1 x27_2).length : Int)) = ji21 := hji21
                        by_cases c22 : 0 ≤ (ji21)
                        · rw [if_pos c22] at H
                          have c22b0 := eq_true c22
                          have c22b1 : decide (0 ≤ (ji21)) = true := decide_eq_true c22
                          clear c22
                          by_cases c23 : (ji21) ≤ ((rd_L1 l1 x27_2).length : Int)
                          · rw [if_pos c23] at H
                            have c23b0 := eq_true c23
                            have c23b1 : decide ((ji21) ≤ ((rd_L1 l1 x27_2).length : Int)) = true := decide_eq_true c23
                            clear c23
                            replace H := Option.bind_eq_some_iff.mp H
                            obtain ⟨t174, A240, H⟩ := H
                            replace H : ((spec_AnString.f k2 t174).bind fun t177 => (if x6_2.length < 4398046511104 then (laws_FnUnicodeNames.l0 k2 t165 (x6_2 ++ [(⟨118, t177, 0⟩ : S30)]) l1 (l1.length : Int) (wrap64 (x27_2 + 1))) else (none))) = some r := H
                            have A24 := Aside0.mk A240
                            clear A240
                            replace H := Option.bind_eq_some_iff.mp H
                            obtain ⟨t177, A250, H⟩ := H
                            replace H : (if x6_2.length < 4398046511104 then (laws_FnUnicodeNames.l0 k2 t165 (x6_2 ++ [(⟨118, t177, 0⟩ : S30)]) l1 (l1.length : Int) (wrap64 (x27_2 + 1))) else (none)) = some r := H
                            have A25 := Aside0.mk A250
                            clear A250
                            by_cases c26 : x6_2.length < 4398046511104
                            · rw [if_pos c26] at H
                              have LMc26 := Aside0.mk c26
                              clear c26
                              obtain ⟨y178, hy178⟩ : ∃ y_ : List (S30), y_ = (x6_2 ++ [(⟨118, t177, 0⟩ : S30)]) := ⟨_, rfl⟩
                              replace H : (laws_FnUnicodeNames.l0 k2 t165 y178 l1 (l1.length : Int) (wrap64 (x27_2 + 1))) = some r := by first | (rw [hy178]; with_reducible exact H) | (have H2_ := (Option.bind_some _ _).symm.trans H; rw [hy178]; with_reducible exact H2_) | (have H2_ := (Option.bind_some _ _).symm.trans H; with_reducible exact H2_) | with_reducible exact H | (rw [hy178]; exact H) | exact H
                              have Ny178 := Aside0.mk hy178
                              clear hy178
                              have H' := Aside0.mk H
                              clear H
                              have p172 : 0 ≤ (x27_2 : Int) := of_decide_eq_true (by first | (with_reducible assumption) | assumption)
                              have q172 : x27_2 < (l1.length : Int) := of_decide_eq_true (by first | (with_reducible assumption) | assumption)
                              obtain ⟨ad172, A172_0, c172_0, e172, hx172_0, hl172_0, hi172_0⟩ := at_L1 HR1.out x27_2 p172 q172
                              cases e172
                              replace hx172_0 := (HB.out.cell (World.block_lt_of_cell? w _ hx172_0)).trans hx172_0
                              have HR172_0 := Aside0.mk hi172_0
                              have HC172_0 := Aside0.mk hl172_0
                              clear hi172_0 hl172_0
                              replace p172 := eq_true p172
                              replace q172 := eq_true q172
                              obtain ⟨i027, hi027, _, hsz27, _⟩ := info_parts info3
                              obtain ⟨hcut27, hA27, hC27⟩ := print_take_of (P := Tryz.prog) (Value.int .i64) 0 22 3 .i64 Tryz.underlying22 hi027 hsz27 A172_0 c172_0 (rd_L1 l1 x27_2) (ji21) (of_decide_eq_true (by first | (with_reducible assumption) | assumption)) (of_decide_eq_true (by first | (with_reducible assumption) | assumption)) HC172_0.out
                              have HR173 := Aside0.mk (Kd.C_of_reads (h1 := fun _ => rfl) (hA27 _ (Kd.reads_of_C HR172_0.out)))
                              have HC173 := Aside0.mk hC27
                              clear hA27 hC27 hi027 hsz27
                              go_wp2_with (first | ((with_reducible refine gate_callee (f := 6) rfl ?_); refine goesL_ (some 40) rfl rfl Tryz.func6 (by kernel_rfl) rfl #[.slice A172_0 ((rd_L1 l1 x27_2).take ((ji21) : Int).toNat).length c172_0] rfl (by (try simp only [List.map_toArray, List.map_cons, List.map_nil]); first | done | (rw [show ((rd_L1 l1 x27_2).take ((ji21) : Int).toNat).length = (ji21).toNat from (by rw [List.length_take]; have h_ : ((ji21) : Int) ≤ ((rd_L1 l1 x27_2).length : Int) := of_decide_eq_true (by first | (with_reducible assumption) | assumption); omega)] <;> rfl) | (simp only [hji21]; rfl) | rfl | (simp only [List.length_drop, List.length_take]; rfl)) ?_; (with_reducible refine (spec_AnCharacters.calls k2 _ _ ((rd_L1 l1 x27_2).take ((ji21) : Int).toNat) t174 _ ?side1 ?side2 A24.out).mono ?_); (case side1 => repeat (first | exact (Kd.C_below HR173.out HB.out) | (with_reducible refine Kd.C_alloc ?_ _) | (with_reducible refine Kd.C_drewN ?_ _) | (with_reducible refine Kd.C_drew ?_))); (case side2 => exact HC173.out); rintro e w28 ⟨v175, rfl, ho0, hb⟩; refine ⟨_, rfl, ?_⟩; have n0_ := Aside0.mk (Kd.R_below (by (with_reducible repeat (first | apply Kd.R_alloc | apply Kd.R_drewN | apply Kd.R_drew)); exact HO_6.out) hb); have n1_ := Aside0.mk (Kd.R_lower ho0 (below_size (by repeat (first | (with_reducible first | exact HB.out | apply below_alloc | apply pw_below_drewN | apply below_drew1) | exact HB.out)))); have n2_ := Aside0.mk (below_step (by repeat (first | (with_reducible first | exact HB.out | apply below_alloc | apply pw_below_drewN | apply below_drew1) | exact HB.out)) hb); clear HO_6; clear HB; have HO_6 := n0_; have HO176 := n1_; have HB := n2_; clear n0_ n1_ n2_; (try clear hb); (try clear hb2); (try clear hk); (try clear hi); (try clear ho0); obtain ⟨Ao29, co29, eo29⟩ := Kd.R_slice HO176.out; subst eo29) | ((with_reducible refine gate_callee (f := 5) rfl ?_); refine goesL_ (some 41) rfl rfl Tryz.func5 (by kernel_rfl) rfl #[.slice Ao29 t174.length co29] rfl (by (try simp only [List.map_toArray, List.map_cons, List.map_nil]); first | done | rfl | (simp only [List.length_drop, List.length_take]; rfl)) ?_; (with_reducible refine (spec_AnString.calls k2 _ _ t174 t177 _ ?side1 ?side2 A25.out).mono ?_); (case side1 => repeat (first | exact (Kd.R_reads' HO176.out).2.2 | (with_reducible refine Kd.C_alloc ?_ _) | (with_reducible refine Kd.C_drewN ?_ _) | (with_reducible refine Kd.C_drew ?_))); (case side2 => exact (Kd.R_reads' HO176.out).2.1); rintro e w' ⟨rfl, ⟨nd, rfl⟩⟩; refine ⟨_, rfl, ?_⟩) | ((with_reducible refine gate_builtin (b := .append) (xs := #[.tmp 34, .tmp 43]) rfl ?_); at_builtin; refine Kd.R_append k30 (w0 := w) w.heap.size rfl (.tmp 34) (.tmp 43) 27 30 (.agg #[(.int .u8 0), (.string ⟨#[]⟩), (.int .u64 0)]) 32 rfl Tryz.underlying27 info30 rfl (by decide) (by omega) u6 x6_2 (⟨118, t177, 0⟩ : S30) [.int .u8 118, .string t177, .int .u64 0] (fun _ => True) (fun _ => False) rfl rfl ?aP (fun _ hk => hk.elim) ?aF ?aO ?aB ?aS ?aL ?_; (case aP => exact k30_mkM _ _ _ (⟨118, t177, 0⟩ : S30)); (case aB => exact (by repeat (first | (with_reducible first | exact HB.out | apply below_alloc | apply pw_below_drewN | apply below_drew1) | exact HB.out))); (case aF => exact (fun _ _ => trivial)); (case aO => exact (by (with_reducible repeat (first | apply Kd.R_alloc | apply Kd.R_drewN | apply Kd.R_drew)); exact HO_6.out)); (case aS => exact (below_size (by repeat (first | (with_reducible first | exact HB.out | apply below_alloc | apply pw_below_drewN | apply below_drew1) | exact HB.out)))); (case aL => have := LMc26.out; omega); intro v179 w30 ho hb hg hat; rw [← Ny178.out] at ho; have n0_ := Aside0.mk (Kd.R_over' (by (with_reducible repeat (first | apply Kd.R_alloc | apply Kd.R_drewN | apply Kd.R_drew)); exact HO176.out) (Kd.R_typed (by (with_reducible repeat (first | apply Kd.R_alloc | apply Kd.R_drewN | apply Kd.R_drew)); exact HO_6.out)) (by decide) hg); have n1_ := Aside0.mk (hb); have n2_ := Aside0.mk (ho); clear HO176; clear HB; clear HO_6; have HO176 := n0_; have HB := n1_; have HO180 := n2_; clear n0_ n1_ n2_; clear ho hb hg hat))
                              go_roundg k2
                              case measure => have := HJ2.out; have := HK2.out; omega
                              case rel => exact ⟨(y178), (wrap64 (x27_2 + 1)), (by first | rfl | (simp; done) | (simp [*]; done)), H', ⟨by have := HJ2.out; have := HK2.out; omega⟩, ⟨by (with_reducible repeat (first | apply Kd.R_alloc | apply Kd.R_drewN | apply Kd.R_drew)); exact HO180.out⟩, ⟨by repeat (first | (with_reducible first | exact HB.out | apply below_alloc | apply pw_below_drewN | apply below_drew1) | exact HB.out)⟩⟩
                            · rw [if_neg c26] at H
                              exact absurd H (by simp)
                          · rw [if_neg c23] at H
                            exact absurd H (by simp)
                        · rw [if_neg c22] at H
                          exact absurd H (by simp)
                      · rw [if_neg c20] at H
                        have c20b0 : decide (x27_2 < 100) = false := decide_eq_false c20
                        clear c20
                        have H' := Aside0.mk H
                        clear H
                        have p172 : 0 ≤ (x27_2 : Int) := of_decide_eq_true (by first | (with_reducible assumption) | assumption)
                        have q172 : x27_2 < (l1.length : Int) := of_decide_eq_true (by first | (with_reducible assumption) | assumption)
                        obtain ⟨ad172, A172_0, c172_0, e172, hx172_0, hl172_0, hi172_0⟩ := at_L1 HR1.out x27_2 p172 q172
                        cases e172
                        replace hx172_0 := (HB.out.cell (World.block_lt_of_cell? w _ hx172_0)).trans hx172_0
                        have HR172_0 := Aside0.mk hi172_0
                        have HC172_0 := Aside0.mk hl172_0
                        clear hi172_0 hl172_0
                        replace p172 := eq_true p172
                        replace q172 := eq_true q172
                        go_wp2
                        go_roundg k2
                        case measure => have := HJ2.out; have := HK2.out; omega
                        case rel => exact ⟨(x6_2), (wrap64 (x27_2 + 1)), (by first | rfl | (simp; done) | (simp [*]; done)), H', ⟨by have := HJ2.out; have := HK2.out; omega⟩, ⟨by (with_reducible repeat (first | apply Kd.R_alloc | apply Kd.R_drewN | apply Kd.R_drew)); exact HO_6.out⟩, ⟨by repeat (first | (with_reducible first | exact HB.out | apply below_alloc | apply pw_below_drewN | apply below_drew1) | exact HB.out)⟩⟩
                    · rw [if_neg c19] at H
                      exact absurd H (by simp)
                  · rw [if_neg c18] at H
                    exact absurd H (by simp)
                · rw [if_neg c17] at H
                  have c17b0 : decide (x27_2 < (l1.length : Int)) = false := decide_eq_false c17
                  clear c17
                  replace H := Option.bind_eq_some_iff.mp H
                  obtain ⟨t169, A310, H⟩ := H
                  replace H : (if 2 + t169.size ≤ 9223372036854775807 then ((spec_IdText.f k2 t165 x6_2).bind fun t170 => ((laws_idTold.f ((⟨#[95, 82]⟩ : ByteArray) ++ t169) t170).bind fun t171 => (some t171))) else (none)) = some r := H
                  have A31 := Aside0.mk A310
                  clear A310
                  by_cases c32 : 2 + t169.size ≤ 9223372036854775807
                  · rw [if_pos c32] at H
                    have c32b0 := eq_true c32
                    have c32b1 : decide (2 + t169.size ≤ 9223372036854775807) = true := decide_eq_true c32
                    try have c32b2 : (9223372036854775807 < 2 + t169.size) = False := eq_false (Nat.not_lt.2 c32)
                    replace H := Option.bind_eq_some_iff.mp H
                    obtain ⟨t170, A330, H⟩ := H
                    replace H : ((laws_idTold.f ((⟨#[95, 82]⟩ : ByteArray) ++ t169) t170).bind fun t171 => (some t171)) = some r := H
                    have A33 := Aside0.mk A330
                    clear A330
                    replace H := Option.bind_eq_some_iff.mp H
                    obtain ⟨t171, A340, H⟩ := H
                    replace H : (some t171) = some r := H
                    have A34 := Aside0.mk A340
                    clear A340
                    obtain rfl := Option.some.inj H
                    obtain ⟨Ao35, co35, eo35⟩ := Kd.R_slice HO_6.out
                    subst eo35
                    go_wp2_with (first | ((with_reducible refine gate_callee (f := 8) rfl ?_); refine goesL_ (some 48) rfl rfl Tryz.func8 (by kernel_rfl) rfl #[.string t165, .int .u64 0, .slice Ao35 x6_2.length co35] rfl (by (try simp only [List.map_toArray, List.map_cons, List.map_nil]); first | done | rfl | (simp only [List.length_drop, List.length_take]; rfl)) ?_; (with_reducible refine (spec_IdSymbol.calls k2 t165 0 _ _ x6_2 t169 _ ?side1 ?side2 (show DoorU _ from ?side3) A31.out).mono ?_); (case side1 => repeat (first | exact (Kd.R_reads' HO_6.out).2.2 | (with_reducible refine Kd.C_alloc ?_ _) | (with_reducible refine Kd.C_drewN ?_ _) | (with_reducible refine Kd.C_drew ?_))); (case side2 => exact (Kd.R_reads' HO_6.out).2.1); (case side3 => exact Stays.below hT_ (by first | (repeat (first | (with_reducible first | exact HB.out | apply below_alloc | apply pw_below_drewN | apply below_drew1) | exact HB.out)) | (repeat (first | exact Below.refl _ _ | apply below_drew1 | apply pw_below_drewN)))); rintro e w36 ⟨rfl, hb⟩; refine ⟨_, rfl, ?_⟩; have n0_ := Aside0.mk (Kd.R_below (by (with_reducible repeat (first | apply Kd.R_alloc | apply Kd.R_drewN | apply Kd.R_drew)); exact HO_6.out) hb); have n1_ := Aside0.mk (below_step (by repeat (first | (with_reducible first | exact HB.out | apply below_alloc | apply pw_below_drewN | apply below_drew1) | exact HB.out)) hb); clear HO_6; clear HB; have HO_6 := n0_; have HB := n1_; clear n0_ n1_; (try clear hb); (try clear hb2); (try clear hk); (try clear hi)) | ((with_reducible refine gate_callee (f := 9) rfl ?_); refine goesL_ (some 52) rfl rfl Tryz.func9 (by kernel_rfl) rfl #[.string t165, .slice Ao35 x6_2.length co35] rfl (by (try simp only [List.map_toArray, List.map_cons, List.map_nil]); first | done | rfl | (simp only [List.length_drop, List.length_take]; rfl)) ?_; (with_reducible refine (spec_IdText.calls k2 t165 _ _ x6_2 t170 _ ?side1 ?side2 (show DoorU _ from ?side3) A33.out).mono ?_); (case side1 => repeat (first | exact (Kd.R_reads' HO_6.out).2.2 | (with_reducible refine Kd.C_alloc ?_ _) | (with_reducible refine Kd.C_drewN ?_ _) | (with_reducible refine Kd.C_drew ?_))); (case side2 => exact (Kd.R_reads' HO_6.out).2.1); (case side3 => exact Stays.below hT_ (by first | (repeat (first | (with_reducible first | exact HB.out | apply below_alloc | apply pw_below_drewN | apply below_drew1) | exact HB.out)) | (repeat (first | exact Below.refl _ _ | apply below_drew1 | apply pw_below_drewN)))); rintro e w37 ⟨rfl, hb⟩; refine ⟨_, rfl, ?_⟩; have n0_ := Aside0.mk (Kd.R_below (by (with_reducible repeat (first | apply Kd.R_alloc | apply Kd.R_drewN | apply Kd.R_drew)); exact HO_6.out) hb); have n1_ := Aside0.mk (below_step (by repeat (first | (with_reducible first | exact HB.out | apply below_alloc | apply pw_below_drewN | apply below_drew1) | exact HB.out)) hb); clear HO_6; clear HB; have HO_6 := n0_; have HB := n1_; clear n0_ n1_; (try clear hb); (try clear hb2); (try clear hk); (try clear hi)) | ((with_reducible refine gate_callee (f := 7) rfl ?_); refine goesL_ (some 53) rfl rfl Tryz.func7 (by kernel_rfl) rfl #[.string ((⟨#[95, 82]⟩ : ByteArray) ++ t169), .string t170] rfl (by (try simp only [List.map_toArray, List.map_cons, List.map_nil]); first | done | rfl | (simp only [List.length_drop, List.length_take]; rfl)) ?_; (with_reducible refine (laws_idTold.calls ((⟨#[95, 82]⟩ : ByteArray) ++ t169) t170 t171 _ (show DoorU _ from ?side1) A34.out).mono ?_); (case side1 => exact Stays.below hT_ (by first | (repeat (first | (with_reducible first | exact HB.out | apply below_alloc | apply pw_below_drewN | apply below_drew1) | exact HB.out)) | (repeat (first | exact Below.refl _ _ | apply below_drew1 | apply pw_below_drewN)))); rintro e w38 ⟨rfl, hb⟩; refine ⟨_, rfl, ?_⟩; have n0_ := Aside0.mk (Kd.R_below (by (with_reducible repeat (first | apply Kd.R_alloc | apply Kd.R_drewN | apply Kd.R_drew)); exact HO_6.out) hb); have n1_ := Aside0.mk (below_step (by repeat (first | (with_reducible first | exact HB.out | apply below_alloc | apply pw_below_drewN | apply below_drew1) | exact HB.out)) hb); clear HO_6; clear HB; have HO_6 := n0_; have HB := n1_; clear n0_ n1_; (try clear hb); (try clear hb2); (try clear hk); (try clear hi)))
                    go_ret
                    exact ⟨by first | rfl | (simp [errW_none, errW_some] <;> rfl) | (simp only [← hji7]; first | rfl | (simp [errW_none, errW_some] <;> rfl)) | (simp [*, errW_none, errW_some] <;> rfl), by repeat (first | (with_reducible first | exact HB.out | apply below_alloc | apply pw_below_drewN | apply below_drew1) | exact HB.out)⟩
                  · rw [if_neg c32] at H
                    exact absurd H (by simp)
          · rw [if_neg c9] at H
            exact absurd H (by simp)
        · rw [if_neg c8] at H
          exact absurd H (by simp)

/-- THE ONE PURE STATEMENT of laws_FnUnicodeNames: yours. -/
def laws_FnUnicodeNames.Pure : Prop := ∀ (l0 : List Int) (l1 : List (List Int)), l0.length ≤ maxLen → l0.length * 8 ≤ 140737488351232 → (∀ x ∈ l0, (Lit.int .i64 x).wf = true) → l1.length ≤ maxLen → (∀ r ∈ l1, r.length ≤ maxLen ∧ ∀ x ∈ r, (Lit.int .i64 x).wf = true) → ∃ k, laws_FnUnicodeNames.f k l0 l1 = some true
theorem laws_FnUnicodeNames.walk (P : laws_FnUnicodeNames.Pure) (a0 : Option Addr) (len0 cap0 : Nat) (z0 : List Int) (a1 : Option Addr) (cap1 : Nat) (l1 : List (List Int)) (w : World) (hT_ : DoorU w) (w0 : (a0 = none ∧ len0 = 0 ∧ cap0 = 0 ∧ z0 = []) ∨ ∃ x, a0 = some x ∧ len0 ≤ cap0 ∧ cap0 ≤ maxLen ∧ z0.length = cap0 ∧ (∀ i, i < z0.length → w.cell? (x.add i) = some (.int .i64 (z0.getD i 0))) ∧ ∀ n ∈ z0, (Lit.int .i64 n).wf = true) (y0 : len0 * 8 ≤ 140737488351232) (w1 : (Kd.slice 3 (Kd.int .i64)).C w a1 l1.length l1) (x1 : l1.length ≤ maxLen) (y1 : ∀ r ∈ l1, r.length ≤ maxLen ∧ ∀ x ∈ r, (Lit.int .i64 x).wf = true) (c1 : l1.length ≤ cap1) :
    Calls Tryz.prog 3 #[.slice a0 len0 cap0, .slice a1 l1.length cap1] w fun e w' => e = .returned (.bool true) ∧ Below w.heap.size w w' := by
  obtain ⟨l0, rfl, hr0, hm0, hw0, hc0⟩ := ReadsInt.ofRowC w0
  obtain ⟨k, h⟩ := P l0 l1 hm0 y0 hw0 x1 y1
  refine (laws_FnUnicodeNames.calls k _ _ l0 _ _ l1 true w (Kd.C_of_reads (d := (0 : Int)) (h1 := fun _ => rfl) hr0) hc0 w1 c1 hT_ h).mono ?_
  rintro e w' ⟨rfl, hd⟩
  exact ⟨rfl, hd⟩

end Go.Proofs.YtkhbmkccbhkolaaGreatDoor.PFnUnicodeNames
