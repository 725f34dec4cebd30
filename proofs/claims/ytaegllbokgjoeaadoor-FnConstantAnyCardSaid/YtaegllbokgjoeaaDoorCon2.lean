/- The reader's constants: a number of any type. -/
import Derived.Test.YtaegllbokgjoeaaDoorCon
namespace Go.Proofs.YtaegllbokgjoeaaDoor
set_option linter.unusedVariables false
set_option linter.unusedSimpArgs false
open Go.RowKit

theorem At.drew {b : Nat} {s : RS} {r t : List UInt8} {w : World} (h : At b s r t w) : At b s r t w.drew := h
theorem con_told {b : Nat} {c : Dm.CR} {s : RS} {w w' : World} {t r : List UInt8} (h : c = .told t r) (h1 : At b s r t w') (h2 : Fr b w w') : ConPost b c s w (.returned (.tuple #[])) w' := by subst h; exact ⟨rfl, h1, h2⟩
theorem con_bad {b : Nat} {c : Dm.CR} {s : RS} {w w' : World} {e : Ending} (h : c = .bad) (h1 : Fails b w e w') : ConPost b c s w e w' := by subst h; exact h1
theorem fails_on {b : Nat} {w w1 w2 : World} {e : Ending} (h : Fr b w w1) (h2 : Fails b w1 e w2) : Fails b w e w2 := ⟨h2.1, h.trans h2.2⟩

theorem const_zero {c : UInt8} {r : List UInt8} (h66 : c ≠ 66) (h112 : c ≠ 112) (h : Dm.ckind c = 0) : Dm.const (c :: r) = .bad := by
  simp only [Dm.const]; rw [if_neg h66, if_neg h112, if_pos h]
/-- A sign, written. -/
def sgT (b : Bool) : List UInt8 := if b then [45] else []
/-- The rest behind the sign. -/
def conOn (sg : Bool) : Dm.CR → Dm.CR
  | .told t q => .told (sgT sg ++ t) q
  | .bad => .bad
  | .unsaid => .unsaid
theorem const_on {c : UInt8} {r : List UInt8} (h66 : c ≠ 66) (h112 : c ≠ 112) (h : Dm.ckind c ≠ 0) : Dm.const (c :: r) = conOn (Dm.sgn (Dm.ckind c) r).1 (Dm.digits (Dm.ckind c) (Dm.sgn (Dm.ckind c) r).2) := by
  simp only [Dm.const]; rw [if_neg h66, if_neg h112, if_neg h]
  cases Dm.digits (Dm.ckind c) (Dm.sgn (Dm.ckind c) r).2 <;> rfl
theorem sgn_cases (k : Nat) (r : List UInt8) : (Dm.sgn k r = (false, r) ∧ (r = [] ∨ k ≠ 1 ∨ ∃ c t, r = c :: t ∧ c ≠ 110)) ∨ (k = 1 ∧ ∃ t, r = 110 :: t ∧ Dm.sgn k r = (true, t)) := by
  cases r with
  | nil => exact .inl ⟨rfl, .inl rfl⟩
  | cons c t =>
    by_cases hk : k = 1
    · by_cases hc : c = 110
      · subst hk hc; exact .inr ⟨rfl, t, rfl, rfl⟩
      · exact .inl ⟨by simp only [Dm.sgn]; rw [if_neg (fun z => hc z.2)], .inr (.inr ⟨c, t, rfl, hc⟩)⟩
    · exact .inl ⟨by simp only [Dm.sgn]; rw [if_neg (fun z => hk z.1)], .inr (.inl hk)⟩

/-- The loop over the digits, behind k of them. -/
def HexRel (b : Nat) (s : RS) (l t : List UInt8) (w : World) (vk vv : Value) (wr : World) : Prop :=
  ∃ (k : Nat) (v : Int) (r : List UInt8), vk = .int .i64 k ∧ vv = .int .u64 v ∧ Hid (Dm.hexl v k r = Dm.hexl 0 0 l) ∧ At b s r t wr ∧ Fr b w wr ∧ Hid (k + r.length ≤ l.length ∧ 0 ≤ v ∧ v < 18446744073709551616)
def HexEnd (b : Nat) (s : RS) (l t : List UInt8) (w : World) (vk vv : Value) (wr : World) : Prop :=
  ∃ (k : Nat) (v : Int) (r : List UInt8), vk = .int .i64 k ∧ vv = .int .u64 v ∧ Hid (Dm.hexl 0 0 l = some (v, k, r)) ∧ At b s r t wr ∧ Fr b w wr

theorem hexd_cases (c : UInt8) : (∃ d, Dm.hexd c = some d ∧ 48 ≤ (c.toNat : Int) ∧ (c.toNat : Int) ≤ 57 ∧ d = (c.toNat : Int) - 48) ∨ (∃ d, Dm.hexd c = some d ∧ 97 ≤ (c.toNat : Int) ∧ (c.toNat : Int) ≤ 102 ∧ d = (c.toNat : Int) - 97 + 10) ∨
    (Dm.hexd c = none ∧ ((c.toNat : Int) < 48 ∨ 57 < (c.toNat : Int)) ∧ ((c.toNat : Int) < 97 ∨ 102 < (c.toNat : Int))) := by
  unfold Dm.hexd
  by_cases a1 : 48 ≤ (c.toNat : Int) ∧ (c.toNat : Int) ≤ 57
  · rw [if_pos a1]; exact .inl ⟨_, rfl, a1.1, a1.2, rfl⟩
  · rw [if_neg a1]
    by_cases a2 : 97 ≤ (c.toNat : Int) ∧ (c.toNat : Int) ≤ 102
    · rw [if_pos a2]; exact .inr (.inl ⟨_, rfl, a2.1, a2.2, rfl⟩)
    · rw [if_neg a2]; exact .inr (.inr ⟨rfl, by omega, by omega⟩)
theorem hexl_bad {v d : Int} {k : Nat} {c : UInt8} {r : List UInt8} (hd : Dm.hexd c = some d) (h : v = 0 ∧ d = 0 ∧ r.head? ≠ some 95) : Dm.hexl v k (c :: r) = none := by
  rw [Dm.hexl, hd]; simp only; rw [if_pos h]
theorem hexl_next {v d : Int} {k : Nat} {c : UInt8} {r : List UInt8} (hd : Dm.hexd c = some d) (h : ¬ (v = 0 ∧ d = 0 ∧ r.head? ≠ some 95)) : Dm.hexl v k (c :: r) = Dm.hexl (IntKind.u64.wrap (IntKind.u64.wrap (v * 16) + d)) (k + 1) r := by
  rw [Dm.hexl, hd]; simp only; rw [if_neg h]
theorem hexl_end {v : Int} {k : Nat} {r : List UInt8} : Dm.hexl v k (95 :: r) = some (v, k, r) := by
  rw [Dm.hexl, show Dm.hexd 95 = none from rfl]; simp
theorem hexl_other {v : Int} {k : Nat} {c : UInt8} {r : List UInt8} (hd : Dm.hexd c = none) (h : c ≠ 95) : Dm.hexl v k (c :: r) = none := by
  rw [Dm.hexl, hd]; simp only; rw [if_neg h]
theorem wrapU_lt (x : Int) : 0 ≤ IntKind.u64.wrap x ∧ IntKind.u64.wrap x < 18446744073709551616 := by rw [IntKind.wrap_u64]; omega
theorem digits_none {k : Nat} {l : List UInt8} (h : Dm.hexl 0 0 l = none) : Dm.digits k l = .bad := by unfold Dm.digits; rw [h]
theorem digits_no {k : Nat} {l q : List UInt8} {v : Int} (h : Dm.hexl 0 0 l = some (v, 0, q)) : Dm.digits k l = .bad := by unfold Dm.digits; rw [h]; simp
theorem digits_some {k m : Nat} {l q : List UInt8} {v : Int} (h : Dm.hexl 0 0 l = some (v, m, q)) (hm : m ≠ 0) : Dm.digits k l = match Dm.ctext k l v m with | .told t _ => .told t q | .bad => .bad | .unsaid => .unsaid := by
  unfold Dm.digits; rw [h]; simp only; rw [if_neg hm]
  cases Dm.ctext k l v m <;> rfl

theorem ck_of {c : UInt8} (n k : Nat) (hn : n < 256) (hk : Dm.ckind (UInt8.ofNat n) = k) (h : ((c.toNat : Int) == (n : Int)) = true) : Hid (Dm.ckind c = k) := by
  rw [(toNat_eq hn).1 h]; exact hk
theorem ck_no {c : UInt8} (a1 : ((c.toNat : Int) == 97) = false) (a2 : ((c.toNat : Int) == 115) = false) (a3 : ((c.toNat : Int) == 108) = false) (a4 : ((c.toNat : Int) == 120) = false) (a5 : ((c.toNat : Int) == 110) = false) (a6 : ((c.toNat : Int) == 105) = false)
    (b1 : ((c.toNat : Int) == 104) = false) (b2 : ((c.toNat : Int) == 116) = false) (b3 : ((c.toNat : Int) == 109) = false) (b4 : ((c.toNat : Int) == 121) = false) (b5 : ((c.toNat : Int) == 111) = false) (b6 : ((c.toNat : Int) == 106) = false)
    (b7 : ((c.toNat : Int) == 98) = false) (b8 : ((c.toNat : Int) == 99) = false) : Dm.ckind c = 0 := by
  have ne : ∀ n : Nat, n < 256 → ((c.toNat : Int) == (n : Int)) = false → c ≠ UInt8.ofNat n := fun n hn h e => by rw [(toNat_eq hn).2 e] at h; cases h
  have := ne 97 (by omega) a1; have := ne 115 (by omega) a2; have := ne 108 (by omega) a3; have := ne 120 (by omega) a4; have := ne 110 (by omega) a5; have := ne 105 (by omega) a6
  have := ne 104 (by omega) b1; have := ne 116 (by omega) b2; have := ne 109 (by omega) b3; have := ne 121 (by omega) b4; have := ne 111 (by omega) b5; have := ne 106 (by omega) b6
  have := ne 98 (by omega) b7; have := ne 99 (by omega) b8
  unfold Dm.ckind
  rw [if_neg (by simp_all), if_neg (by simp_all), if_neg (by assumption), if_neg (by assumption)]

set_option maxHeartbeats 8000000 in
set_option maxRecDepth 100000 in
theorem const_num (b : Nat) (s : RS) (w : World) (h : RustAt b s w) (hk : s.skip = false) (hm : s.mx = 0) (c : UInt8) (r : List UInt8) (hs : s.str = c :: r) (h66 : c ≠ 66) (h112 : c ≠ 112)
    (hU : Dm.const s.str ≠ .unsaid) (hT : Based StrIs b w) (hlen : s.out.length + s.str.length + 40 ≤ 140737488355328) :
    Calls Tryd.prog 16 #[.pointer (some ⟨b, 0, none⟩)] w fun e w' => ConPost b (Dm.const s.str) s w e w' := by
  have ha := At.init hk hm h
  rw [hs] at ha
  have h1 := ha.c1
  have hz := bs_size (c :: r)
  have hc := UInt8.toNat_lt c
  have n66 : ((c.toNat : Int) == 66) = false := ne_byte (n := 66) (by omega) h66
  have n112 : ((c.toNat : Int) == 112) = false := ne_byte (n := 112) (by omega) h112
  have HA := Lib.hid ha
  have HU := Lib.hid hU
  have HT := Lib.hid hT
  have HL : Hid (s.out.length + (c :: r).length + 40 ≤ 140737488355328) := Lib.hid (by rw [hs] at hlen; exact hlen)
  have HS := Lib.hid hs
  clear hs h hk hm ha hU hT hlen
  go_enter Tryd.func16, Tryd.ntmps16
  go_step3
  go_upto_block 0 with (fail)
  go_cut [3] from 43 to 62 (fun v3 wc => ∃ k : Nat, v3 = .int .i64 k ∧ Hid (Dm.ckind c = k) ∧ w = wc ∧ Hid (k = 1 ∨ k = 2 ∨ k = 3 ∨ k = 4))
  case first =>
    --{A
    go_wp2_with (go_at_call 28; refine (at_fail HA.out _).mono ?_; rintro e w4 ⟨⟨mm, o, rfl⟩, hb4⟩)
    all_goals first
      | (have HQ := ck_of (c := c) 97 1 (by decide) rfl (by assumption); go_meet; case rel => exact ⟨1, rfl, HQ, rfl, .inl rfl⟩)
      | (have HQ := ck_of (c := c) 115 1 (by decide) rfl (by assumption); go_meet; case rel => exact ⟨1, rfl, HQ, rfl, .inl rfl⟩)
      | (have HQ := ck_of (c := c) 108 1 (by decide) rfl (by assumption); go_meet; case rel => exact ⟨1, rfl, HQ, rfl, .inl rfl⟩)
      | (have HQ := ck_of (c := c) 120 1 (by decide) rfl (by assumption); go_meet; case rel => exact ⟨1, rfl, HQ, rfl, .inl rfl⟩)
      | (have HQ := ck_of (c := c) 110 1 (by decide) rfl (by assumption); go_meet; case rel => exact ⟨1, rfl, HQ, rfl, .inl rfl⟩)
      | (have HQ := ck_of (c := c) 105 1 (by decide) rfl (by assumption); go_meet; case rel => exact ⟨1, rfl, HQ, rfl, .inl rfl⟩)
      | (have HQ := ck_of (c := c) 104 2 (by decide) rfl (by assumption); go_meet; case rel => exact ⟨2, rfl, HQ, rfl, .inr (.inl rfl)⟩)
      | (have HQ := ck_of (c := c) 116 2 (by decide) rfl (by assumption); go_meet; case rel => exact ⟨2, rfl, HQ, rfl, .inr (.inl rfl)⟩)
      | (have HQ := ck_of (c := c) 109 2 (by decide) rfl (by assumption); go_meet; case rel => exact ⟨2, rfl, HQ, rfl, .inr (.inl rfl)⟩)
      | (have HQ := ck_of (c := c) 121 2 (by decide) rfl (by assumption); go_meet; case rel => exact ⟨2, rfl, HQ, rfl, .inr (.inl rfl)⟩)
      | (have HQ := ck_of (c := c) 111 2 (by decide) rfl (by assumption); go_meet; case rel => exact ⟨2, rfl, HQ, rfl, .inr (.inl rfl)⟩)
      | (have HQ := ck_of (c := c) 106 2 (by decide) rfl (by assumption); go_meet; case rel => exact ⟨2, rfl, HQ, rfl, .inr (.inl rfl)⟩)
      | (have HQ := ck_of (c := c) 98 3 (by decide) rfl (by assumption); go_meet; case rel => exact ⟨3, rfl, HQ, rfl, .inr (.inr (.inl rfl))⟩)
      | (have HQ := ck_of (c := c) 99 4 (by decide) rfl (by assumption); go_meet; case rel => exact ⟨4, rfl, HQ, rfl, .inr (.inr (.inr rfl))⟩)
      | exact ⟨rfl, con_bad (by rw [HS.out]; exact const_zero h66 h112 (ck_no (by assumption) (by assumption) (by assumption) (by assumption) (by assumption) (by assumption) (by assumption) (by assumption) (by assumption) (by assumption) (by assumption) (by assumption) (by assumption) (by assumption))) ⟨⟨mm, o, rfl⟩, hb4⟩⟩
    --}A
  case rest =>
  obtain ⟨k, rfl, HK, rfl, HK4⟩ := hcut
  have HC : Hid (Dm.const s.str = conOn (Dm.sgn k r).1 (Dm.digits k (Dm.sgn k r).2)) := Lib.hid (by
    rw [HS.out]; have := const_on (r := r) h66 h112 (by rw [HK.out]; rcases HK4.out with h | h | h | h <;> omega); rw [HK.out] at this; exact this)
  have HAD := Lib.hid (at_adv HA.out)
  clear h1 hz n66 n112 h66 h112
  go_upto_region 30 with (go_at_call 30; refine HAD.out.mono ?_; rintro e w1 ⟨rfl, hr1, hb1⟩)
  go_cut [82] from 65 to 81 (fun v82 wc => v82 = .bool (Dm.sgn k r).1 ∧ w1 = wc)
  case first =>
    --{B
    have h1 := hr1.c1
    have hz := bs_size r
    have HR := Lib.hid hr1
    clear hr1
    rcases sgn_cases k r with ⟨hsg, h⟩ | ⟨hk, t, rfl, hsg⟩
    · have HSG := Lib.hid hsg
      clear hsg
      by_cases hk : k = 1
      · subst hk
        rcases h with rfl | h | ⟨d, t, rfl, hd⟩
        · go_wp2_with fail
          go_meet
          case rel => exact ⟨by rw [HSG.out], rfl⟩
        · exact absurd rfl h
        · have n110 : ((d.toNat : Int) == 110) = false := ne_byte (n := 110) (by omega) hd
          clear hd
          go_wp2_with fail
          go_meet
          case rel => exact ⟨by rw [HSG.out], rfl⟩
      · have n1 : ((k : Int) == 1) = false := by rw [beq_eq_false_iff_ne]; omega
        clear h hk
        go_wp2_with fail
        go_meet
        case rel => exact ⟨by rw [HSG.out], rfl⟩
    · have HSG := Lib.hid hsg
      clear hsg
      subst hk
      go_wp2_with fail
      go_meet
      case rel => exact ⟨by rw [HSG.out], rfl⟩
    --}B
  case rest =>
  obtain ⟨rfl, rfl⟩ := hcut
  go_upto_if 82 with (fail)
  go_cut [] from 82 to 86 (fun wc => At b s (Dm.sgn k r).2 (sgT (Dm.sgn k r).1) wc ∧ Fr b w wc)
  case first =>
    --{C
    rcases sgn_cases k r with ⟨hsg, h⟩ | ⟨hk, t, rfl, hsg⟩
    · have HR := Lib.hid hr1
      have HSG := Lib.hid hsg
      have h94 : (Dm.sgn k r).1 = false := by rw [hsg]
      rw [h94]
      clear hr1 hsg h h94
      go_wp2_with fail
      go_meet
      case rel => exact ⟨by rw [HSG.out]; exact HR.out, hb1⟩
    · have HB := Lib.hid (at_adv hr1)
      have HSG := Lib.hid hsg
      have h94 : (Dm.sgn k (110 :: t)).1 = true := by rw [hsg]
      rw [h94]
      clear hr1 hsg hk h94
      go_wp2_with fail
      refine HB.out.mono ?_
      rintro e w2 ⟨rfl, hr2, hb2⟩
      have HB2 := Lib.hid (at_byte hr2 45 (by have := HL.out; rw [List.length_nil]; omega))
      clear hr2
      go_wp2_with fail
      refine HB2.out.mono ?_
      rintro e w3 ⟨rfl, hr3, hb3⟩
      go_wp2_with fail
      go_meet
      case rel => exact ⟨by rw [HSG.out]; exact hr3, (hb1.trans hb2).trans hb3⟩
    --}C
  case rest =>
  obtain ⟨hr2, hb2⟩ := hcut
  have HLL : Hid ((Dm.sgn k r).2.length ≤ r.length) := Lib.hid (by
    rcases sgn_cases k r with ⟨hsg, _⟩ | ⟨_, t, rfl, hsg⟩
    · rw [hsg]; exact Nat.le_refl _
    · rw [hsg]; simp)
  generalize (Dm.sgn k r).2 = l at *
  generalize hsg : (sgT (Dm.sgn k r).1) = sg at *
  have HSG : Hid (Dm.const s.str = conOn (Dm.sgn k r).1 (Dm.digits k l)) := HC
  have HGL : Hid (sg.length ≤ 1) := Lib.hid (by rw [← hsg]; unfold sgT; split <;> simp)
  have HCO : Hid (∀ t q, Dm.digits k l = .told t q → Dm.const s.str = .told (sg ++ t) q) := Lib.hid (fun t q e => by rw [HSG.out, e]; unfold conOn; rw [← hsg])
  have HCB : Hid (Dm.digits k l = .bad → Dm.const s.str = .bad) := Lib.hid (fun e => by rw [HSG.out, e]; rfl)
  have HCU : Hid (Dm.digits k l ≠ .unsaid) := Lib.hid (fun e => HU.out (by rw [HSG.out, e]; rfl))
  clear hsg HSG HC hr1 hb1 HAD
  have h1 := hr2.c1
  go_wp2_with fail
  go_step3
  go_upto_block 1 with (fail)
  clear h1
  go_cut [5, 6, 7, 8] from 91 to 162 (fun v5 v6 _ _ wc => HexEnd b s l sg w v5 v6 wc)
  case first =>
    --{D
    go_wp2_with fail
    go_loopw [5, 6] (fun v5 v6 wr => HexRel b s l sg w v5 v6 wr) (fun _ _ wr => strLen b wr)
    case atStart => exact ⟨0, 0, l, rfl, rfl, rfl, hr2, hb2, by simp, by omega, by omega⟩
    case round =>
      clear hr2 hb2
      obtain ⟨m, v, q, rfl, rfl, HX, hr, hb, HV⟩ := hrel
      have h1 := hr.c1
      have hz := bs_size q
      have HM := Lib.hid hr.strLen
      cases q with
      | nil =>
        have HY : Hid (Dm.hexl 0 0 l = some (v, m, [])) := Lib.hid (by rw [← HX.out]; rfl)
        go_wp2_with fail
        go_meet
        case rel => exact ⟨m, v, [], rfl, rfl, HY, hr, hb⟩
      | cons d q =>
        have hd := UInt8.toNat_lt d
        have HAD := Lib.hid (at_adv hr)
        have hcs : (∃ x, Dm.hexd d = some x) ∨ (Dm.hexd d = none ∧ ((d.toNat : Int) < 48 ∨ 57 < (d.toNat : Int)) ∧ ((d.toNat : Int) < 97 ∨ 102 < (d.toNat : Int))) := by
          rcases hexd_cases d with ⟨x, hx, _⟩ | ⟨x, hx, _⟩ | h
          · exact .inl ⟨x, hx⟩
          · exact .inl ⟨x, hx⟩
          · exact .inr h
        rcases hcs with ⟨x, hx⟩ | ⟨hx, a1, a2⟩
        · --{E
          have HXX := Lib.hid hx
          obtain ⟨x0, x1⟩ := Dm.hexd_le hx
          have hcd := hexd_cases d
          rw [hx] at hcd
          clear hx
          go_upto_block 3 with (fail)
          go_cut [8] from 102 to 129 (fun v8 wc => v8 = .int .u64 x ∧ wr = wc)
          case first =>
            rcases hcd with ⟨y, hy, a1, a2, a3⟩ | ⟨y, hy, a1, a2, a3⟩ | ⟨hy, _⟩
            · obtain rfl := Option.some.inj hy
              have H3 := Lib.hid a3
              clear hy a3
              go_wp2_with fail
              go_meet
              case rel => exact ⟨by rw [H3.out], rfl⟩
            · obtain rfl := Option.some.inj hy
              have H3 := Lib.hid a3
              clear hy a3
              go_wp2_with fail
              go_meet
              case rel => exact ⟨by rw [H3.out], rfl⟩
            · cases hy
          case rest =>
            obtain ⟨rfl, rfl⟩ := hcut
            clear hcd hd hr h1 hz
            have HMU := Lib.hid (wrapU_lt (v * 16))
            have HMA := Lib.hid (wrapU_lt (IntKind.u64.wrap (v * 16) + x))
            have HVV := HV.out
            go_upto_region 47 with (go_at_call 30; refine HAD.out.mono ?_; rintro e w3 ⟨rfl, hr3, hb3⟩)
            have h1 := hr3.c1
            have hz := bs_size q
            go_cut [153] from 132 to 152 (fun v153 wc => v153 = .bool (decide (v = 0 ∧ x = 0 ∧ q.head? ≠ some 95)) ∧ w3 = wc)
            case first =>
              --{F
              clear HVV
              by_cases hv : v = 0
              · by_cases hx0 : x = 0
                · subst hv hx0
                  cases q with
                  | nil =>
                    go_wp2_with fail
                    go_meet
                    case rel => exact ⟨by simp, rfl⟩
                  | cons y q =>
                    have hy := UInt8.toNat_lt y
                    by_cases h95 : y = 95
                    · subst h95
                      go_wp2_with fail
                      go_meet
                      case rel => exact ⟨by simp; omega, rfl⟩
                    · have n95 : ((y.toNat : Int) == 95) = false := ne_byte (n := 95) (by omega) h95
                      have m95 : ((y.toNat : Int) != 95) = true := by rw [bne_iff_ne]; intro e; rw [e] at n95; simp at n95
                      have HD : Hid (decide ((0 : Int) = 0 ∧ (0 : Int) = 0 ∧ (y :: q).head? ≠ some 95) = true) := Lib.hid (by simpa using h95)
                      clear h95
                      go_wp2_with fail
                      go_meet
                      case rel => exact ⟨by rw [HD.out], rfl⟩
                · have n0 : (x == 0) = false := by rw [beq_eq_false_iff_ne]; exact hx0
                  have HD : Hid (decide (v = 0 ∧ x = 0 ∧ q.head? ≠ some 95) = false) := Lib.hid (decide_eq_false (fun z => hx0 z.2.1))
                  subst hv
                  clear hx0
                  go_wp2_with fail
                  go_meet
                  case rel => exact ⟨by rw [HD.out], rfl⟩
              · have n0 : (v == 0) = false := by rw [beq_eq_false_iff_ne]; exact hv
                have HD : Hid (decide (v = 0 ∧ x = 0 ∧ q.head? ≠ some 95) = false) := Lib.hid (decide_eq_false (fun z => hv z.1))
                clear hv
                go_wp2_with fail
                go_meet
                case rel => exact ⟨by rw [HD.out], rfl⟩
              --}F
            case rest =>
              obtain ⟨rfl, rfl⟩ := hcut
              clear h1 hz
              by_cases hbad : v = 0 ∧ x = 0 ∧ q.head? ≠ some 95
              · have HY : Hid (Dm.const s.str = .bad) := Lib.hid (HCB.out (digits_none (by rw [← HX.out]; exact hexl_bad HXX.out hbad)))
                have hd : decide (v = 0 ∧ x = 0 ∧ q.head? ≠ some 95) = true := decide_eq_true hbad
                rw [hd]
                clear hd hbad
                go_wp2_with (go_at_call 28; refine (at_fail hr3 _).mono ?_; rintro e w4 ⟨⟨mm, o, rfl⟩, hb4⟩)
                exact ⟨rfl, con_bad HY.out ⟨⟨mm, o, rfl⟩, (hb.trans hb3).trans hb4⟩⟩
              · have HY : Hid (Dm.hexl (IntKind.u64.wrap (IntKind.u64.wrap (v * 16) + x)) (m + 1) q = Dm.hexl 0 0 l) := Lib.hid (by rw [← HX.out]; exact (hexl_next HXX.out hbad).symm)
                have hd : decide (v = 0 ∧ x = 0 ∧ q.head? ≠ some 95) = false := decide_eq_false hbad
                rw [hd]
                clear hd hbad
                have hmk : IntKind.i64.wrap ((m : Int) + 1) = (m : Int) + 1 := by
                  have h1 := HV.out.1
                  have h2 := HLL.out
                  have h3 := HL.out
                  simp only [List.length_cons] at h1 h2 h3
                  exact IntWalk.i64_in _ (by omega)
                have HQ := Lib.hid hr3.strLen
                clear HVV
                go_wp2_with fail
                go_roundw
                case rel => exact ⟨m + 1, _, q, by go_num, rfl, HY, hr3, hb.trans hb3, by have := HV.out.1; rw [List.length_cons] at this; omega, HMA.out.1, HMA.out.2⟩
                case measure => rw [HQ.out, HM.out]; simp
          --}E
        · --{G
          by_cases h95 : d = 95
          · subst h95
            have HY : Hid (Dm.hexl 0 0 l = some (v, m, q)) := Lib.hid (by rw [← HX.out]; exact hexl_end)
            clear hx a1 a2 hd hr
            go_wp2_with (go_at_call 30; refine HAD.out.mono ?_; rintro e w3 ⟨rfl, hr3, hb3⟩)
            go_meet
            case rel => exact ⟨m, v, q, rfl, rfl, HY, hr3, hb.trans hb3⟩
          · have HY : Hid (Dm.const s.str = .bad) := Lib.hid (HCB.out (digits_none (by rw [← HX.out]; exact hexl_other hx h95)))
            have n95 : ((d.toNat : Int) == 95) = false := ne_byte (n := 95) (by omega) h95
            clear hx h95
            go_wp2_with (go_at_call 28; refine (at_fail hr _).mono ?_; rintro e w3 ⟨⟨mm, o, rfl⟩, hb3⟩)
            all_goals exact ⟨rfl, con_bad HY.out ⟨⟨mm, o, rfl⟩, hb.trans hb3⟩⟩
          --}G
    --}D
  case rest =>
    clear hr2 hb2
    obtain ⟨m, v, q, rfl, rfl, HX, hr, hb⟩ := hcut
    have hlq := Dm.hexl_len l 0 0 (by omega) (by omega) HX.out
    have HM : Hid (m + q.length ≤ l.length ∧ 0 ≤ v ∧ v < 18446744073709551616) := Lib.hid (by simpa using hlq)
    clear hlq
    by_cases hm0 : m = 0
    · subst hm0
      have HY : Hid (Dm.const s.str = .bad) := Lib.hid (HCB.out (digits_no HX.out))
      go_wp2_with (go_at_call 28; refine (at_fail hr _).mono ?_; rintro e w3 ⟨⟨mm, o, rfl⟩, hb3⟩)
      exact ⟨rfl, con_bad HY.out ⟨⟨mm, o, rfl⟩, hb.trans hb3⟩⟩
    · have hne : ((m : Int) == 0) = false := by rw [beq_eq_false_iff_ne]; omega
      have HDG := Lib.hid (digits_some (k := k) HX.out hm0)
      have HCT : Hid (Dm.ctext k l v m ≠ .unsaid) := Lib.hid (fun e => HCU.out (by rw [HDG.out, e]))
      have HTO : Hid (∀ t u, Dm.ctext k l v m = .told t u → Dm.const s.str = .told (sg ++ t) q) := Lib.hid (fun t u e => HCO.out t q (by rw [HDG.out, e]))
      have HBA : Hid (Dm.ctext k l v m = .bad → Dm.const s.str = .bad) := Lib.hid (fun e => HCB.out (by rw [HDG.out, e]))
      clear hm0
      have hlm : (m : Int) ≤ (l.length : Int) := by have := HM.out.1; omega
      have HLN : Hid (s.out.length + sg.length + m + 30 ≤ 140737488355328) := Lib.hid (by
        have h1 := HL.out; have h2 := HLL.out; have h3 := HGL.out; have h4 := HM.out.1; rw [List.length_cons] at h1; omega)
      have hk3 : (k = 1 ∨ k = 2) ∨ k = 3 ∨ k = 4 := by have := HK4.out; omega
      have HAR := Lib.hid hr
      go_upto_if 169 with (fail)
      go_cut [169] from 170 to 171 (fun v169 wd => v169 = .bool (decide (k = 1 ∨ k = 2)) ∧ wc = wd)
      case first =>
        --{I
        rcases HK4.out with hk | hk | hk | hk
        all_goals
          have HD : Hid (k = k) := Lib.hid rfl
          clear hk3
          subst hk
          go_wp2_with fail
          go_meet
          case rel => exact ⟨by simp, rfl⟩
        --}I
      case rest =>
      obtain ⟨rfl, rfl⟩ := hcut
      rcases hk3 with hk | hk | hk
      --{H
      · have hdk : decide (k = 1 ∨ k = 2) = true := decide_eq_true hk
        have HC1 : Hid (Dm.ctext k l v m = if 16 < m then .told ([48, 120] ++ l.take m) [] else .told (Lib.decDigits v.toNat) []) := Lib.hid (by unfold Dm.ctext; rw [if_pos hk])
        by_cases h16 : 16 < m
        · have HTT : Hid (Dm.const s.str = .told (sg ++ ([48, 120] ++ l.take m)) q) := Lib.hid (HTO.out _ _ (by rw [HC1.out, if_pos h16]))
          have h16' : (16 : Int) < (m : Int) := by omega
          have HB2 := Lib.hid (at_str hr [48, 120] (by have := HLN.out; simp; omega))
          have hz := bs_size l
          clear hr h16
          rw [hdk]
          clear hk hdk
          go_wp2_with fail
          refine HB2.out.mono ?_
          rintro e w3 ⟨rfl, hr3, hb3⟩
          have HB3 := Lib.hid (at_str hr3 (l.take m) (by have := HLN.out; rw [List.length_append, List.length_take]; simp; omega))
          clear hr3
          go_wp2_with fail
          rw [bs_take]
          refine HB3.out.mono ?_
          rintro e w4 ⟨rfl, hr4, hb4⟩
          rw [List.append_assoc] at hr4
          have HR4 := Lib.hid hr4
          clear hr4
          go_wp2_with fail
          go_end0
          exact con_told HTT.out HR4.out ((hb.trans hb3).trans hb4)
        · have HTT : Hid (Dm.const s.str = .told (sg ++ Lib.decDigits v.toNat) q) := Lib.hid (HTO.out _ _ (by rw [HC1.out, if_neg h16]))
          have h16' : ¬ (16 : Int) < (m : Int) := by omega
          obtain ⟨u, hu⟩ : ∃ u : Nat, v = u := Int.eq_ofNat_of_zero_le HM.out.2.1
          subst hu
          rw [Int.toNat_natCast] at HTT
          have HU64 : Hid (u < 18446744073709551616) := Lib.hid (by have := HM.out.2.2; omega)
          have HT5 := Lib.hid ((HT.out.on hb.below).out)
          have HUL : Hid (s.out.length + sg.length + (Lib.decDigits u).length ≤ 140737488355328) := Lib.hid (by have := Dm.dec_len20 u HU64.out; have := HLN.out; omega)
          have h5 := hr.c5
          have HLT := Lib.hid hr.lt
          clear hr h16
          rw [hdk]
          clear hk hdk
          go_upto_region 62 with (fail)
          go_cut [] from 186 to 191 (fun wc => At b s q (sg ++ Lib.decDigits u) wc ∧ Fr b w wc)
          case first =>
            go_region_with (first | (go_at_call 34; refine (fmtU_calls u HU64.out _ (show StrIs (World.drew _) from HT5.out)).mono ?_; rintro e w6 ⟨rfl, hb6⟩) | (go_at_call 33; refine (at_bld ((HAR.out.drew).below hb6) (Lib.decDigits u) HUL.out).mono ?_; rintro e w7 ⟨⟨nn, rfl⟩, hr7, hb7⟩))
            all_goals
              go_wp2_with fail
              go_meet
              case rel => exact ⟨hr7, (hb.drew.trans (Fr.of_below hb6 (Nat.le_of_lt HLT.out))).trans hb7⟩
          case rest =>
            obtain ⟨hr7, hb7⟩ := hcut
            obtain ⟨l7, c7⟩ := hr7.c7
            have f7 := hr7.frozen 7
            have HR7 := Lib.hid hr7
            clear hr7 h5
            go_wp2_with fail
            go_end0
            exact con_told HTT.out (HR7.out.last 48) (hb7.setCell (p := ⟨b, 7, none⟩) rfl _)
      · have hdk : decide (k = 1 ∨ k = 2) = false := decide_eq_false (by omega)
        rw [hdk]
        clear hdk
        subst hk
        have HC1 : Hid (Dm.ctext 3 l v m = if 1 < m then .bad else if v = 0 then .told [102, 97, 108, 115, 101] [] else if v = 1 then .told [116, 114, 117, 101] [] else .bad) := Lib.hid (by unfold Dm.ctext; rw [if_neg (by omega), if_pos rfl])
        by_cases h1 : 1 < m
        · have HY : Hid (Dm.const s.str = .bad) := Lib.hid (HBA.out (by rw [HC1.out, if_pos h1]))
          have h1' : (1 : Int) < (m : Int) := by omega
          clear h1
          go_wp2_with (go_at_call 28; refine (at_fail hr _).mono ?_; rintro e w3 ⟨⟨mm, o, rfl⟩, hb3⟩)
          exact ⟨rfl, con_bad HY.out ⟨⟨mm, o, rfl⟩, hb.trans hb3⟩⟩
        · have h1' : ¬ (1 : Int) < (m : Int) := by omega
          by_cases hv0 : v = 0
          · have HTT := Lib.hid (HTO.out _ _ (by rw [HC1.out, if_neg h1, if_pos hv0]))
            subst hv0
            have HB2 := Lib.hid (at_str hr [102, 97, 108, 115, 101] (by have := HLN.out; simp; omega))
            clear hr h1
            go_wp2_with fail
            refine HB2.out.mono ?_
            rintro e w3 ⟨rfl, hr3, hb3⟩
            have HR3 := Lib.hid hr3
            clear hr3
            go_wp2_with fail
            go_end0
            exact con_told HTT.out HR3.out (hb.trans hb3)
          · have n0 : (v == 0) = false := by rw [beq_eq_false_iff_ne]; exact hv0
            by_cases hv1 : v = 1
            · have HTT := Lib.hid (HTO.out _ _ (by rw [HC1.out, if_neg h1, if_neg hv0, if_pos hv1]))
              subst hv1
              have HB2 := Lib.hid (at_str hr [116, 114, 117, 101] (by have := HLN.out; simp; omega))
              clear hr h1 n0 hv0
              go_wp2_with fail
              refine HB2.out.mono ?_
              rintro e w3 ⟨rfl, hr3, hb3⟩
              have HR3 := Lib.hid hr3
              clear hr3
              go_wp2_with fail
              go_end0
              exact con_told HTT.out HR3.out (hb.trans hb3)
            · have HY : Hid (Dm.const s.str = .bad) := Lib.hid (HBA.out (by rw [HC1.out, if_neg h1, if_neg hv0, if_neg hv1]))
              have n1 : (v == 1) = false := by rw [beq_eq_false_iff_ne]; exact hv1
              clear h1 hv0 hv1
              go_wp2_with (go_at_call 28; refine (at_fail hr _).mono ?_; rintro e w3 ⟨⟨mm, o, rfl⟩, hb3⟩)
              exact ⟨rfl, con_bad HY.out ⟨⟨mm, o, rfl⟩, hb.trans hb3⟩⟩
      · have hdk : decide (k = 1 ∨ k = 2) = false := decide_eq_false (by omega)
        rw [hdk]
        clear hdk
        subst hk
        have HC1 : Hid (Dm.ctext 4 l v m = if 6 < m then .bad else if 32 ≤ v ∧ v ≤ 126 ∧ v ≠ 39 ∧ v ≠ 92 then .told [39, UInt8.ofNat v.toNat, 39] [] else .unsaid) := Lib.hid (by unfold Dm.ctext; rw [if_neg (by omega), if_neg (by omega)])
        by_cases h6 : 6 < m
        · have HY : Hid (Dm.const s.str = .bad) := Lib.hid (HBA.out (by rw [HC1.out, if_pos h6]))
          have h6' : (6 : Int) < (m : Int) := by omega
          clear h6
          go_wp2_with (go_at_call 28; refine (at_fail hr _).mono ?_; rintro e w3 ⟨⟨mm, o, rfl⟩, hb3⟩)
          exact ⟨rfl, con_bad HY.out ⟨⟨mm, o, rfl⟩, hb.trans hb3⟩⟩
        · have h6' : ¬ (6 : Int) < (m : Int) := by omega
          by_cases hv : 32 ≤ v ∧ v ≤ 126 ∧ v ≠ 39 ∧ v ≠ 92
          · have HTT := Lib.hid (HTO.out _ _ (by rw [HC1.out, if_neg h6, if_pos hv]))
            obtain ⟨v0, v1, v2, v3⟩ := hv
            have n9 : (v == 9) = false := by rw [beq_eq_false_iff_ne]; omega
            have n13 : (v == 13) = false := by rw [beq_eq_false_iff_ne]; omega
            have n10 : (v == 10) = false := by rw [beq_eq_false_iff_ne]; omega
            have n92 : (v == 92) = false := by rw [beq_eq_false_iff_ne]; exact v3
            have n39 : (v == 39) = false := by rw [beq_eq_false_iff_ne]; exact v2
            have HEV : Hid (((UInt8.ofNat v.toNat).toNat : Int) = v) := Lib.hid (by simp; omega)
            have hw : IntKind.u8.wrap v = v := by rw [IntKind.wrap_u8]; omega
            have HB2 := Lib.hid (at_byte hr 39 (by have := HLN.out; omega))
            clear hr h6 v2 v3
            go_wp2_with fail
            refine HB2.out.mono ?_
            rintro e w3 ⟨rfl, hr3, hb3⟩
            have hb4' := at_byte hr3 (UInt8.ofNat v.toNat) (by have := HLN.out; rw [List.length_append, List.length_singleton]; omega)
            rw [HEV.out] at hb4'
            have HB3 := Lib.hid hb4'
            clear hr3 hb4'
            go_wp2_with fail
            refine HB3.out.mono ?_
            rintro e w4 ⟨rfl, hr4, hb4⟩
            have HB4 := Lib.hid (at_byte hr4 39 (by have := HLN.out; simp only [List.length_append, List.length_singleton]; omega))
            clear hr4
            go_wp2_with fail
            refine HB4.out.mono ?_
            rintro e w5 ⟨rfl, hr5, hb5⟩
            have HR5 := Lib.hid hr5
            clear hr5
            go_wp2_with fail
            go_end0
            exact con_told HTT.out (by simpa using HR5.out) (((hb.trans hb3).trans hb4).trans hb5)
          · exact absurd (by rw [HC1.out, if_neg h6, if_neg hv]) HCT.out
      --}H
end Go.Proofs.YtaegllbokgjoeaaDoor
