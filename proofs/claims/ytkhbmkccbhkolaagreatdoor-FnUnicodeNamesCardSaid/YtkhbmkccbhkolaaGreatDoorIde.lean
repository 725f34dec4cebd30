/- The reader's identifiers. -/
import Derived.Test.YtkhbmkccbhkolaaGreatDoorM2
import Derived.Test.YtkhbmkccbhkolaaGreatDoorExp2
import Derived.Test.YtkhbmkccbhkolaaGreatDoorM1
namespace Go.Proofs.YtkhbmkccbhkolaaGreatDoor
set_option linter.unusedVariables false
set_option linter.unusedSimpArgs false
open Go.RowKit

theorem toNat_eq' {c : UInt8} {n : Nat} (hn : n < 256) : (c.toNat : Int) = n ↔ c = UInt8.ofNat n := by
  constructor
  · intro h
    apply UInt8.toNat.inj
    simp
    omega
  · rintro rfl
    simp
    omega

def DisPost (b : Nat) (s : RS) (w : World) (e : Ending) (w' : World) : Prop :=
  match Dm.disamb s.str with
  | some (n, r) => e = .returned (.int .i64 n) ∧ RustAt b (s.adv r) w' ∧ Fr b w w'
  | none => Fails b w e w'

set_option maxHeartbeats 1000000 in
theorem disambiguator_calls (b : Nat) (s : RS) (w : World) (h : RustAt b s w) :
    Calls Tryz.prog 76 #[.pointer (some ⟨b, 0, none⟩)] w fun e w' => DisPost b s w e w' := by
  have h1 := h.c1
  have H := Lib.hid h
  have hz := bs_size s.str
  cases hs : s.str with
  | nil =>
    have hp : ∀ e w', DisPost b s w e w' = (e = .returned (.int .i64 0) ∧ RustAt b (s.adv []) w' ∧ Fr b w w') := by intro e w'; unfold DisPost; rw [hs]; rfl
    have ha : s.adv [] = s := by rw [← hs, RS.adv_self]
    rw [hs] at h1 hz
    simp only [hp, ha]
    clear h hp
    go_enter Tryz.func76, Tryz.ntmps76
    go_wp2_with fail
    go_ret
    exact ⟨rfl, H.out, Fr.refl _ _⟩
  | cons c r =>
    have hc := UInt8.toNat_lt c
    rw [hs] at h1 hz
    by_cases h115 : c = 115
    · subst h115
      have hadv := advance_calls b s 1 w h (by rw [hs]; simp)
      rw [hs] at hadv
      have HA := Lib.hid hadv
      clear h hadv
      cases hd : Dm.base62 r with
      | none =>
        have hp : ∀ e w', DisPost b s w e w' = Fails b w e w' := by intro e w'; unfold DisPost Dm.disamb; rw [hs]; simp only [if_true, hd]
        simp only [hp]
        clear hp
        go_enter Tryz.func76, Tryz.ntmps76
        go_wp2_with fail
        refine HA.out.mono ?_
        rintro e w2 ⟨rfl, hr2, hb2⟩
        have hbn := base62Number_calls b _ w2 hr2
        unfold B62Post at hbn
        rw [show (s.adv ((115 :: r).drop 1)).str = r from rfl, hd] at hbn
        have HB := Lib.hid hbn
        clear hbn hr2
        go_wp2_with fail
        refine HB.out.mono ?_
        rintro e w3 ⟨⟨m, o, rfl⟩, hb3⟩
        exact ⟨rfl, ⟨m, o, rfl⟩, hb2.trans hb3⟩
      | some q =>
        obtain ⟨n, t⟩ := q
        have hp : ∀ e w', DisPost b s w e w' = (e = .returned (.int .i64 (wrap64 (n + 1))) ∧ RustAt b (s.adv t) w' ∧ Fr b w w') := by intro e w'; unfold DisPost Dm.disamb; rw [hs]; simp only [if_true, hd]
        simp only [hp]
        clear hp
        go_enter Tryz.func76, Tryz.ntmps76
        go_wp2_with fail
        refine HA.out.mono ?_
        rintro e w2 ⟨rfl, hr2, hb2⟩
        have hbn := base62Number_calls b _ w2 hr2
        unfold B62Post at hbn
        rw [show (s.adv ((115 :: r).drop 1)).str = r from rfl, hd] at hbn
        have HB := Lib.hid hbn
        clear hbn hr2
        go_wp2_with fail
        refine HB.out.mono ?_
        rintro e w3 ⟨rfl, hr3, hb3⟩
        rw [RS.adv_adv] at hr3
        go_wp2_with fail
        go_ret
        exact ⟨rfl, hr3, hb2.trans hb3⟩
    · have hne : ((c.toNat : Int) == 115) = false := by
        rw [beq_eq_false_iff_ne]; intro e; exact h115 ((toNat_eq' (n := 115) (by omega)).1 (by rw [e]; rfl))
      have hne2 : ((c.toNat : Int) != 115) = true := by rw [bne_iff_ne]; intro e; rw [e] at hne; simp at hne
      have hp : ∀ e w', DisPost b s w e w' = (e = .returned (.int .i64 0) ∧ RustAt b (s.adv (c :: r)) w' ∧ Fr b w w') := by intro e w'; unfold DisPost Dm.disamb; rw [hs]; simp only [if_neg h115]
      have ha : s.adv (c :: r) = s := by rw [← hs, RS.adv_self]
      simp only [hp, ha]
      clear hp h
      go_enter Tryz.func76, Tryz.ntmps76
      go_wp2_with fail
      go_ret
      exact ⟨rfl, H.out, Fr.refl _ _⟩

/-! ### names -/
def UndPost (b : Nat) (l : List UInt8) (s : RS) (w : World) (e : Ending) (w' : World) : Prop :=
  match Dm.undis l with
  | some (id, r) => (∃ p, e = .returned (.tuple #[.string (bs id), .bool p])) ∧ RustAt b (s.adv r) w' ∧ Fr b w w'
  | none => Fails b w e w'
theorem und_fails {b : Nat} {l : List UInt8} {s : RS} {w w' : World} {e : Ending} (h : Dm.undis l = none) (h1 : Fails b w e w') : UndPost b l s w e w' := by unfold UndPost; rw [h]; exact h1
theorem und_post {b : Nat} {l : List UInt8} {s : RS} {w w' : World} {id r : List UInt8} {p : Bool} (h : Dm.undis l = some (id, r)) (h1 : RustAt b (s.adv r) w') (h2 : Fr b w w') :
    UndPost b l s w (.returned (.tuple #[.string (bs id), .bool p])) w' := by unfold UndPost; rw [h]; exact ⟨⟨p, rfl⟩, h1, h2⟩
theorem undis_none_dec {l : List UInt8} (h : Dm.decimal (Dm.pu l).2 = none) : Dm.undis l = none := by unfold Dm.undis; rw [h]
theorem undis_of {l r : List UInt8} {n : Int} (h : Dm.decimal (Dm.pu l).2 = some (n, r)) : Dm.undis l = Dm.named (Dm.pu l).1 n (Dm.us r) := by unfold Dm.undis; rw [h]
theorem dec_ge (v : Int) (l : List UInt8) : ∀ {n : Int} {r : List UInt8}, 0 ≤ v → v ≤ 2147483647 → Dm.dec v l = some (n, r) → 0 ≤ n ∧ n ≤ 2147483647 ∧ r.length ≤ l.length := by
  induction l generalizing v with
  | nil => intro n r h0 h1 h; unfold Dm.dec at h; injection h with h; injection h with h2 h3; subst h2 h3; exact ⟨h0, h1, Nat.le_refl _⟩
  | cons c l ih =>
    intro n r h0 h1 h
    unfold Dm.dec at h
    have hc := UInt8.toNat_lt c
    by_cases hd : Dm.isDig c = true
    · rw [if_pos hd] at h
      simp only [Dm.isDig, Bool.and_eq_true, decide_eq_true_eq] at hd
      by_cases hv : v ≥ 214748364 - ((c.toNat : Int) - 48)
      · rw [if_pos hv] at h; cases h
      · rw [if_neg hv] at h
        obtain ⟨a, b, e⟩ := ih _ (by omega) (by omega) h
        exact ⟨a, b, by rw [List.length_cons]; omega⟩
    · rw [if_neg hd] at h; injection h with h; injection h with h2 h3; subst h2 h3; exact ⟨h0, h1, Nat.le_refl _⟩
theorem decimal_ge {l r : List UInt8} {n : Int} (h : Dm.decimal l = some (n, r)) : 0 ≤ n ∧ n ≤ 2147483647 ∧ r.length ≤ l.length := by
  unfold Dm.decimal at h
  split at h
  · cases h
  · exact dec_ge 0 l (by omega) (by omega) h
theorem bs_slice (l : List UInt8) (n : Nat) : (bs l).extract 0 n = bs (l.take n) := bs_take l n
theorem bs_get (l : List UInt8) (i : Nat) (h : i < l.length) : ∀ h2 : i < (bs l).size, (bs l)[i]'h2 = l[i]'h := fun h2 => by
  have e : (bs l).data[i]? = some l[i] := by show l.toArray[i]? = some l[i]; rw [List.getElem?_toArray]; exact List.getElem?_eq_getElem h
  exact (Array.getElem?_eq_some_iff.1 e).2
theorem all_snoc {l : List UInt8} {i : Nat} (h : i < l.length) (h1 : (l.take i).all Dm.isPlain = true) (h2 : Dm.isPlain l[i] = true) : (l.take (i + 1)).all Dm.isPlain = true := by
  rw [(List.take_append_getElem h).symm, List.all_append, h1]
  simpa using h2
theorem all_not {l : List UInt8} {i : Nat} (h : i < l.length) (h2 : Dm.isPlain l[i] = false) : l.all Dm.isPlain = false := by
  rw [List.all_eq_false]
  exact ⟨l[i], List.getElem_mem h, by rw [h2]; simp⟩

set_option maxHeartbeats 4000000 in
set_option maxRecDepth 100000 in
theorem undis_calls (b : Nat) (s : RS) (w : World) (h : RustAt b s w) :
    Calls Tryz.prog 77 #[.pointer (some ⟨b, 0, none⟩)] w fun e w' => UndPost b s.str s w e w' := by
  have h1 := h.c1
  have hz := bs_size s.str
  obtain ⟨o0, o1⟩ := h.1
  go_enter Tryz.func77, Tryz.ntmps77
  go_upto_region 2 with (fail)
  go_cut [20] from 7 to 19 (fun v20 wc => v20 = .bool (Dm.pu s.str).1 ∧ w = wc)
  case first =>
    --{A
    cases hs : s.str with
    | nil =>
      rw [hs] at h1 hz
      go_wp2_with fail
      go_meet
      case rel => exact ⟨by rw [hs]; rfl, rfl⟩
    | cons c r =>
      have hc := UInt8.toNat_lt c
      rw [hs] at h1 hz
      by_cases h117 : c = 117
      · subst h117
        go_wp2_with fail
        go_meet
        case rel => exact ⟨by rw [hs]; rfl, rfl⟩
      · have hne : ((c.toNat : Int) == 117) = false := by
          rw [beq_eq_false_iff_ne]; intro e; exact h117 ((toNat_eq' (n := 117) (by omega)).1 (by rw [e]; rfl))
        have hp : Hid (Dm.pu (c :: r) = (false, c :: r)) := Lib.hid (by simp only [Dm.pu, if_neg h117])
        go_wp2_with fail
        go_meet
        case rel => exact ⟨by rw [hs, hp.out], rfl⟩
    --}A
  case rest =>
  obtain ⟨rfl, rfl⟩ := hcut
  go_upto_if 20 with (fail)
  go_cut [3] from 20 to 22 (fun v3 wc => v3 = .bool (Dm.pu s.str).1 ∧ RustAt b (s.adv (Dm.pu s.str).2) wc ∧ Fr b w wc)
  case first =>
    --{A2
    have hcs : (Dm.pu s.str = (false, s.str)) ∨ (∃ r, s.str = 117 :: r ∧ Dm.pu s.str = (true, r)) := by
      cases hs : s.str with
      | nil => exact .inl rfl
      | cons c r =>
        by_cases h117 : c = 117
        · subst h117; exact .inr ⟨r, rfl, rfl⟩
        · exact .inl (by simp only [Dm.pu, if_neg h117])
    rcases hcs with hp | ⟨r, hs, hp⟩
    · have H := Lib.hid h
      have HP := Lib.hid hp
      have h94 : (Dm.pu s.str).1 = false := by rw [hp]
      rw [h94]
      clear h hp h94
      go_wp2_with fail
      go_meet
      case rel => exact ⟨by rw [HP.out], by rw [HP.out]; show RustAt b (s.adv s.str) w; rw [RS.adv_self]; exact H.out, Fr.refl _ _⟩
    · have hadv := advance_calls b s 1 w h (by rw [hs]; simp)
      rw [show s.str.drop 1 = r from by rw [hs]; rfl] at hadv
      have HA := Lib.hid hadv
      have HP := Lib.hid hp
      have h94 : (Dm.pu s.str).1 = true := by rw [hp]
      rw [h94]
      clear h hadv hp hs h94
      go_wp2_with fail
      refine HA.out.mono ?_
      rintro e w2 ⟨rfl, hr2, hb2⟩
      go_wp2_with fail
      go_meet
      case rel => exact ⟨by rw [HP.out], by rw [HP.out]; exact hr2, hb2⟩
    --}A2
  case rest =>
    obtain ⟨rfl, hr1, hb1⟩ := hcut
    clear h1 hz h
    generalize hpu : (Dm.pu s.str) = pl at *
    obtain ⟨puny, l1⟩ := pl
    simp only at hr1 ⊢
    have hdc := decimalNumber_calls b _ _ hr1
    unfold DecPost at hdc
    rw [RS.adv_str] at hdc
    cases hd : Dm.decimal l1 with
    | none =>
      rw [hd] at hdc
      simp only at hdc
      have HU := Lib.hid (undis_none_dec (l := s.str) (by rw [hpu]; exact hd))
      have HC := Lib.hid hdc
      clear hdc hd hpu
      go_wp2_with fail
      refine HC.out.mono ?_
      rintro e w2 ⟨⟨m, o, rfl⟩, hb2⟩
      exact ⟨rfl, und_fails HU.out ⟨⟨m, o, rfl⟩, hb1.trans hb2⟩⟩
    | some q =>
      obtain ⟨n, r⟩ := q
      obtain ⟨n0, n1, hrl⟩ := decimal_ge hd
      rw [hd] at hdc
      simp only at hdc
      have HU := Lib.hid (show Dm.undis s.str = Dm.named puny n (Dm.us r) by rw [undis_of (l := s.str) (by rw [hpu]; exact hd), hpu])
      have HC := Lib.hid hdc
      clear hdc hd hpu
      go_upto_region 6 with (go_at_call 89; refine HC.out.mono ?_; rintro e w2 ⟨rfl, hr2, hb2⟩; rw [RS.adv_adv] at hr2)
      have hb := hb1.trans hb2
      go_cut [38] from 25 to 37 (fun v38 wc => v38 = .bool (decide (r.head? = some 95)) ∧ w2 = wc)
      case first =>
        --{B
        have h1 := hr2.c1
        rw [RS.adv_str] at h1
        have hz := bs_size r
        cases r with
        | nil =>
          go_wp2_with fail
          go_meet
          case rel => exact ⟨rfl, rfl⟩
        | cons c t =>
          have hc := UInt8.toNat_lt c
          by_cases h95 : c = 95
          · subst h95
            go_wp2_with fail
            go_meet
            case rel => exact ⟨rfl, rfl⟩
          · have hne : ((c.toNat : Int) == 95) = false := by
              rw [beq_eq_false_iff_ne]; intro e; exact h95 ((toNat_eq' (n := 95) (by omega)).1 (by rw [e]; rfl))
            have hp : Hid (decide ((c :: t).head? = some 95) = false) := Lib.hid (by simpa using h95)
            go_wp2_with fail
            go_meet
            case rel => exact ⟨by rw [hp.out], rfl⟩
        --}B
      case rest =>
      obtain ⟨rfl, rfl⟩ := hcut
      go_upto_if 38 with (fail)
      go_cut [] from 38 to 40 (fun wc => RustAt b (s.adv (Dm.us r)) wc ∧ Fr b w wc)
      case first =>
        --{B2
        have hcs : (decide (r.head? = some 95) = false ∧ Dm.us r = r) ∨ (∃ t, r = 95 :: t) := by
          cases r with
          | nil => exact .inl ⟨rfl, rfl⟩
          | cons c t =>
            by_cases h95 : c = 95
            · subst h95; exact .inr ⟨t, rfl⟩
            · exact .inl ⟨by simpa using h95, by simp only [Dm.us, if_neg h95]⟩
        rcases hcs with ⟨hd, hp⟩ | ⟨t, rfl⟩
        · have H := Lib.hid hr2
          have HP := Lib.hid hp
          rw [hd]
          clear hr2 hd hp
          go_wp2_with fail
          go_meet
          case rel => exact ⟨by rw [HP.out]; exact H.out, hb⟩
        · have hadv := advance_calls b _ 1 _ hr2 (by simp [RS.adv_str])
          rw [RS.adv_adv, RS.adv_str] at hadv
          have HA := Lib.hid hadv
          have hd : decide ((95 :: t : List UInt8).head? = some 95) = true := rfl
          rw [hd]
          clear hr2 hadv hd
          go_wp2_with fail
          refine HA.out.mono ?_
          rintro e w3 ⟨rfl, hr3, hb3⟩
          go_wp2_with fail
          go_meet
          case rel => exact ⟨hr3, hb.trans hb3⟩
        --}B2
      case rest =>
        obtain ⟨hr3, hb3⟩ := hcut
        clear hr2 hb2 hr1 hb1 HC
        generalize Dm.us r = l3 at *
        obtain ⟨m, rfl⟩ := Int.eq_ofNat_of_zero_le n0
        have h1 := hr3.c1
        rw [RS.adv_str] at h1
        have hz := bs_size l3
        by_cases hlt : l3.length < m
        · have HF : Hid (Dm.undis s.str = none) := Lib.hid (by rw [HU.out]; unfold Dm.named; rw [if_pos (by omega)])
          have hlt' : (l3.length : Int) < (m : Int) := by omega
          go_wp2_with (go_at_call 37; refine (fail_calls b _ _ _ hr3).mono ?_; rintro e w4 ⟨⟨mm, o, rfl⟩, hb4⟩)
          exact ⟨rfl, und_fails HF.out ⟨⟨mm, o, rfl⟩, hb3.trans hb4⟩⟩
        · have hlt' : ¬ (l3.length : Int) < (m : Int) := by omega
          have hle : (m : Int) ≤ (l3.length : Int) := by omega
          have hadv := advance_calls b _ m _ hr3 (by rw [RS.adv_str]; omega)
          rw [RS.adv_adv, RS.adv_str] at hadv
          have HN := Lib.hid (show Dm.undis s.str = if (l3.take m).all Dm.isPlain = false then none
            else if puny then (match Dm.expand (l3.take m) with | some out => some ((runesBytes out).data.toList, l3.drop m) | none => none) else some (l3.take m, l3.drop m) by
              rw [HU.out]; unfold Dm.named; rw [if_neg (by omega), Int.toNat_natCast]; rfl)
          have HA := Lib.hid hadv
          have hid0 : (l3.take m).length = m := by rw [List.length_take]; omega
          clear hadv hr3 HU
          go_wp2_with fail
          refine HA.out.mono ?_
          rintro e w4 ⟨rfl, hr4, hb4⟩
          rw [bs_slice]
          have hb := hb3.trans hb4
          generalize l3.take m = id at *
          have hzi := bs_size id
          clear h1 hz HA hb3 hb4
          go_wp2_with fail
          go_loop [5] (fun v => ∃ i : Nat, v = .int .i64 i ∧ i ≤ id.length ∧ Hid ((id.take i).all Dm.isPlain = true)) (fun v => id.length - (intOf v).toNat)
          case atStart => exact ⟨0, rfl, Nat.zero_le _, Lib.hid (by simp)⟩
          case round =>
            obtain ⟨i, rfl, hi, HP⟩ := hrel
            by_cases hlt2 : i < id.length
            · have hget := bs_get id i hlt2
              have hlt3 : (i : Int) < (id.length : Int) := by omega
              have hw : IntKind.i64.wrap ((i : Int) + 1) = (i : Int) + 1 := IntWalk.i64_in _ (by omega)
              by_cases hpl : Dm.isPlain id[i] = true
              · have HQ := Lib.hid (all_snoc hlt2 HP.out hpl)
                obtain ⟨c, hcd⟩ : ∃ c, id[i] = c := ⟨_, rfl⟩
                rw [hcd] at hpl hget
                have hc := UInt8.toNat_lt c
                have hcs : (48 ≤ (c.toNat : Int) ∧ (c.toNat : Int) ≤ 57) ∨ (65 ≤ (c.toNat : Int) ∧ (c.toNat : Int) ≤ 90) ∨ (97 ≤ (c.toNat : Int) ∧ (c.toNat : Int) ≤ 122) ∨ (c.toNat : Int) = 95 := by
                  unfold Dm.isPlain at hpl
                  simp only [Bool.or_eq_true, Bool.and_eq_true, decide_eq_true_eq] at hpl
                  omega
                clear hpl
                rcases hcs with ⟨a1, a2⟩ | ⟨a1, a2⟩ | ⟨a1, a2⟩ | a1
                · go_wp2_with fail
                  go_round
                  case rel => exact ⟨i + 1, by simp, by omega, HQ⟩
                  case measure => simp [intOf]; omega
                · go_wp2_with fail
                  go_round
                  case rel => exact ⟨i + 1, by simp, by omega, HQ⟩
                  case measure => simp [intOf]; omega
                · go_wp2_with fail
                  go_round
                  case rel => exact ⟨i + 1, by simp, by omega, HQ⟩
                  case measure => simp [intOf]; omega
                · go_wp2_with fail
                  go_round
                  case rel => exact ⟨i + 1, by simp, by omega, HQ⟩
                  case measure => simp [intOf]; omega
              · have HF : Hid (Dm.undis s.str = none) := Lib.hid (by rw [HN.out, if_pos (all_not hlt2 (by simpa using hpl))])
                obtain ⟨c, hcd⟩ : ∃ c, id[i] = c := ⟨_, rfl⟩
                rw [hcd] at hpl hget
                have hc := UInt8.toNat_lt c
                have hcs : ((c.toNat : Int) < 48 ∨ 57 < (c.toNat : Int)) ∧ ((c.toNat : Int) < 65 ∨ 90 < (c.toNat : Int)) ∧ ((c.toNat : Int) < 97 ∨ 122 < (c.toNat : Int)) ∧ ((c.toNat : Int) == 95) = false := by
                  unfold Dm.isPlain at hpl
                  simp only [Bool.or_eq_true, Bool.and_eq_true, decide_eq_true_eq] at hpl
                  rw [beq_eq_false_iff_ne]
                  omega
                obtain ⟨a1, a2, a3, a4⟩ := hcs
                clear hpl
                go_wp2_with (go_at_call 37; refine (fail_calls b _ _ _ hr4).mono ?_; rintro e w5 ⟨⟨mm, o, rfl⟩, hb5⟩)
                all_goals exact ⟨rfl, und_fails HF.out ⟨⟨mm, o, rfl⟩, hb.trans hb5⟩⟩
            · have hie : i = id.length := by omega
              have hall : id.all Dm.isPlain = true := by have := HP.out; rw [hie, List.take_of_length_le (Nat.le_refl _)] at this; exact this
              have hnl : ¬ (i : Int) < (id.length : Int) := by omega
              rw [hall, if_neg (by simp)] at HN
              cases puny with
              | false =>
                rw [if_neg (by simp)] at HN
                have H4 := Lib.hid hr4
                clear hr4 hall
                go_wp2_with fail
                go_ret2
                exact und_post HN.out H4.out hb
              | true =>
                rw [if_pos rfl] at HN
                have hx := expand_calls b _ id w4 hr4 (by omega) (fun c hc => Dm.isPlain_low (List.all_eq_true.1 hall c (List.mem_of_mem_take hc)))
                unfold ExpPost at hx
                have H4 := Lib.hid hr4
                have hlt4 := hr4.lt
                cases he : Dm.expand id with
                | none =>
                  rw [he] at hx HN
                  have HX := Lib.hid hx
                  clear hr4 hall hx he
                  go_wp2_with (go_at_call 90; refine HX.out.mono ?_; rintro e w5 ⟨hb5, mm, o, rfl⟩)
                  exact ⟨rfl, und_fails HN.out ⟨⟨mm, o, rfl⟩, hb.trans (Fr.of_below hb5 (by omega))⟩⟩
                | some out =>
                  rw [he] at hx HN
                  have HX := Lib.hid hx
                  clear hr4 hall hx he
                  go_wp2_with (go_at_call 90; refine HX.out.mono ?_; rintro e w5 ⟨hb5, rfl⟩)
                  go_ret2
                  have eb : runesBytes out = bs (runesBytes out).data.toList := by apply ByteArray.ext; show _ = (runesBytes out).data.toList.toArray; simp
                  rw [eb]
                  exact und_post HN.out (H4.out.below hb5) (hb.trans (Fr.of_below hb5 (by omega)))
/-! ### identifier -/
def IdePost (b : Nat) (s : RS) (w : World) (e : Ending) (w' : World) : Prop :=
  match Dm.ident s.str with
  | some (d, id, r) => e = .returned (.tuple #[.int .i64 d, .string (bs id)]) ∧ RustAt b (s.adv r) w' ∧ Fr b w w'
  | none => Fails b w e w'

theorem identifier_calls (b : Nat) (s : RS) (w : World) (h : RustAt b s w) :
    Calls Tryz.prog 66 #[.pointer (some ⟨b, 0, none⟩)] w fun e w' => IdePost b s w e w' := by
  have hdis := disambiguator_calls b s w h
  unfold DisPost at hdis
  cases hd : Dm.disamb s.str with
  | none =>
    have hp : ∀ e w', IdePost b s w e w' = Fails b w e w' := by intro e w'; unfold IdePost Dm.ident; rw [hd]
    rw [hd] at hdis
    simp only [hp] at hdis ⊢
    have HC := Lib.hid hdis
    clear hdis hd hp h
    go_enter Tryz.func66, Tryz.ntmps66
    go_wp2_with fail
    refine HC.out.mono ?_
    rintro e w2 ⟨⟨m, o, rfl⟩, hb2⟩
    exact ⟨rfl, ⟨m, o, rfl⟩, hb2⟩
  | some q =>
    obtain ⟨d, r⟩ := q
    rw [hd] at hdis
    simp only at hdis
    have HC := Lib.hid hdis
    have hun := fun w2 (hr : RustAt b (s.adv r) w2) => undis_calls b (s.adv r) w2 hr
    simp only [RS.adv_str] at hun
    unfold UndPost at hun
    cases hu : Dm.undis r with
    | none =>
      have hp : ∀ e w', IdePost b s w e w' = Fails b w e w' := by intro e w'; unfold IdePost Dm.ident; rw [hd]; simp only [hu]
      simp only [hu] at hun
      simp only [hp]
      have HU := Lib.hid hun
      clear hdis hd hp h hun hu
      go_enter Tryz.func66, Tryz.ntmps66
      go_wp2_with fail
      refine HC.out.mono ?_
      rintro e w2 ⟨rfl, hr2, hb2⟩
      have HR := Lib.hid hr2
      clear hr2
      go_wp2_with fail
      refine (HU.out _ HR.out).mono ?_
      rintro e w3 ⟨⟨m, o, rfl⟩, hb3⟩
      exact ⟨rfl, ⟨m, o, rfl⟩, hb2.trans hb3⟩
    | some q2 =>
      obtain ⟨t, q⟩ := q2
      have hp : ∀ e w', IdePost b s w e w' = (e = .returned (.tuple #[.int .i64 d, .string (bs t)]) ∧ RustAt b (s.adv q) w' ∧ Fr b w w') := by intro e w'; unfold IdePost Dm.ident; rw [hd]; simp only [hu]
      simp only [hu] at hun
      simp only [hp]
      have HU := Lib.hid hun
      clear hdis hd hp h hun hu
      go_enter Tryz.func66, Tryz.ntmps66
      go_wp2_with fail
      refine HC.out.mono ?_
      rintro e w2 ⟨rfl, hr2, hb2⟩
      have HR := Lib.hid hr2
      clear hr2
      go_wp2_with fail
      refine (HU.out _ HR.out).mono ?_
      rintro e w3 ⟨⟨p, rfl⟩, hr3, hb3⟩
      rw [RS.adv_adv] at hr3
      go_wp2_with fail
      go_ret2
      exact ⟨rfl, hr3, hb2.trans hb3⟩
end Go.Proofs.YtkhbmkccbhkolaaGreatDoor
