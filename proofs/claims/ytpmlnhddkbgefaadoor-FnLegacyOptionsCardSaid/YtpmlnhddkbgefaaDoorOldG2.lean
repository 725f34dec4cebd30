/- oldRustToString's loop over the names: a round that reads a number. Printed by tools/gold5.py. -/
import Derived.Test.YtpmlnhddkbgefaaDoorN5
namespace Go.Proofs.YtpmlnhddkbgefaaDoor
set_option linter.unusedVariables false
set_option linter.unusedSimpArgs false
open Go.RowKit
section
variable {b : Nat} {w0 : World} {mx : Int} {X : Dm.LR} {A1 A2 A3 A4 A5 A7 A8 B0 B1 B2 B3 C8 C9 D0 D1 D2 D3 D4 D5 D6 D7 D8 D9 E0 E1 E2 E3 E4 E5 E6 E7 E8 E9 F0 F1 F2 F3 F4 F5 F6 F7 F8 F9 G0 G1 G2 G3 G4 G5 G6 G7 G8 G9 H0 H1 H2 H3 x5 x6 x7 x8 x9 z0 z1 z2 z3 z4 z5 z6 z7 : Value}

set_option maxHeartbeats 8000000 in
set_option maxRecDepth 1000000 in
theorem main_short2 (c : UInt8) (r out q : List UInt8) (v : Int) (wr : World) (B5 B6 B7 B8 B9 C0 C1 C2 C3 C4 C5 C6 C7 H4 H5 H6 H7 H8 H9 I0 I1 I2 I3 I4 I5 I6 I7 I8 I9 J0 J1 J2 J3 J4 J5 J6 J7 J8 J9 K0 K1 K2 K3 K4 K5 K6 K7 K8 K9 L0 L1 L2 L3 L4 L5 L6 L7 L8 L9 M0 M1 M2 M3 M4 M5 M6 M7 M8 M9 N0 N1 N2 N3 N4 N5 N6 N7 N8 N9 O0 O1 O2 O3 O4 O5 O6 O7 O8 O9 P0 P1 P2 P3 P4 P5 P6 P7 P8 P9 R0 R1 R2 R3 R4 R5 R6 R7 R8 R9 S0 S1 S2 S3 S4 S5 S6 S7 S8 S9 T0 T1 T2 T3 T4 T5 T6 T7 T8 T9 U0 U1 U2 U3 U4 U5 U6 U7 U8 U9 V0 V1 V2 V3 V4 V5 V6 V7 V8 V9 W0 W1 W2 W3 W4 W5 W6 W7 W8 W9 X0 X1 X2 X3 X4 X5 X6 X7 X8 X9 Y0 Y1 Y2 Y3 Y4 Y5 Y6 Y7 Y8 Y9 Z0 Z1 Z2 Z3 Z4 Z5 Z6 Z7 Z8 Z9 x0 x1 x2 x3 x4 : Value) (Q0 : Exit → Act → World → Prop) (h : MainR b w0 mx X (c :: r) out wr) (hm : mx ≤ 0 ∨ (0 < mx ∧ ¬ mx < (out.length : Int))) (hd : Dm.isDig c = true) (hx : Dm.dec 0 (c :: r) = some (v, q)) (l2 : List UInt8) (v2 : Int) (hl2 : Dm.usl q = l2) (hve : v - 1 = v2) (hq : q.head? = some 95) (hs : (l2.length : Int) < v2) (hret : ∀ a' w'', MainB b w0 mx X A1 A2 A3 A4 A5 A7 A8 B0 B1 B2 B3 C8 C9 D0 D1 D2 D3 D4 D5 D6 D7 D8 D9 E0 E1 E2 E3 E4 E5 E6 E7 E8 E9 F0 F1 F2 F3 F4 F5 F6 F7 F8 F9 G0 G1 G2 G3 G4 G5 G6 G7 G8 G9 H0 H1 H2 H3 x5 x6 x7 x8 x9 z0 z1 z2 z3 z4 z5 z6 z7 a' w'' → Q0 .ret a' w'') (NX : Act → World → Prop) :
    Code.wp Tryd.prog mainBody (Exit.then NX Q0) ⟨#[.string (bs (c :: r)), A1, A2, A3, A4, A5, .int .i64 mx, A7, A8, HF, B0, B1, B2, B3, .pointer (some ⟨b, 0, none⟩), B5, B6, B7, B8, B9, C0, C1, C2, C3, C4, C5, C6, C7, C8, C9, D0, D1, D2, D3, D4, D5, D6, D7, D8, D9, E0, E1, E2, E3, E4, E5, E6, E7, E8, E9, F0, F1, F2, F3, F4, F5, F6, F7, F8, F9, G0, G1, G2, G3, G4, G5, G6, G7, G8, G9, H0, H1, H2, H3, H4, H5, H6, H7, H8, H9, I0, I1, I2, I3, I4, I5, I6, I7, I8, I9, J0, J1, J2, J3, J4, J5, J6, J7, J8, J9, K0, K1, K2, K3, K4, K5, K6, K7, K8, K9, L0, L1, L2, L3, L4, L5, L6, L7, L8, L9, M0, M1, M2, M3, M4, M5, M6, M7, M8, M9, N0, N1, N2, N3, N4, N5, N6, N7, N8, N9, O0, O1, O2, O3, O4, O5, O6, O7, O8, O9, P0, P1, P2, P3, P4, P5, P6, P7, P8, P9, R0, R1, R2, R3, R4, R5, R6, R7, R8, R9, S0, S1, S2, S3, S4, S5, S6, S7, S8, S9, T0, T1, T2, T3, T4, T5, T6, T7, T8, T9, U0, U1, U2, U3, U4, U5, U6, U7, U8, U9, V0, V1, V2, V3, V4, V5, V6, V7, V8, V9, W0, W1, W2, W3, W4, W5, W6, W7, W8, W9, X0, X1, X2, X3, X4, X5, X6, X7, X8, X9, Y0, Y1, Y2, Y3, Y4, Y5, Y6, Y7, Y8, Y9, Z0, Z1, Z2, Z3, Z4, Z5, Z6, Z7, Z8, Z9, x0, x1, x2, x3, x4, x5, x6, x7, x8, x9, z0, z1, z2, z3, z4, z5, z6, z7], []⟩ wr := by
  obtain ⟨hlb, hb, ⟨k, hk, hkl⟩, hl⟩ := h
  obtain ⟨hql, hv0, hv1⟩ := Dm.dec_first hd hx
  have hv2 : (if q.head? = some 95 then v - 1 else v) = v2 := by rw [hq, if_pos rfl]; exact hve
  have hq0 : 0 < (bs q).size := by rw [bs_size]; cases q with | nil => cases hq | cons y q => simp
  have iq0 : (bs q)[0]'hq0 = 95 := by cases q with | nil => cases hq | cons y q => exact Option.some.inj hq
  have lqz : (0 : Int) < ((bs q).size : Int) := by omega
  have lq : (0 : Int) < (q.length : Int) := by rw [← bs_size]; omega
  have lq1 : 1 ≤ q.length := by omega
  have lq1i : (1 : Int) ≤ (q.length : Int) := by omega
  have hxq : (bs q).extract 1 q.length = bs l2 := by cases q with | nil => cases hq | cons y q => (injection hq with hq; subst hq; rw [← hl2]; have := bs_extract (95 :: q) 1; rw [this]; rfl)
  have hwv : IntKind.i64.wrap (v - 1) = v2 := by rw [IntWalk.i64_in _ (by omega)]; exact hve
  obtain ⟨k, rfl⟩ : ∃ m, k = m + 1 := ⟨k - 1, by simp at hkl; omega⟩
  rw [lg_step hm hd hx, hv2, hl2] at hk
  have HLN := Lib.hid (show (c :: r).length ≤ 4611686018427387904 by omega)
  have HDEC := Lib.hid hx
  have hzq := bs_size q
  have hzq2 := bs_size l2
  have hz := bs_size (c :: r)
  have i0 : (bs (c :: r))[0]'(by rw [hz]; simp) = c := rfl
  have lz0 : (0 : Int) < ((bs (c :: r)).size : Int) := by rw [hz]; simp <;> omega
  have ly0 : (0 : Int) < (r.length : Int) + 1 := by omega
  have HLEN := Lib.hid (lbLen_calls b out wr hlb)
  have HDC : Hid (∀ w, Calls Tryd.prog 92 #[.int .u8 c.toNat] w fun e w' => e = .returned (.bool true) ∧ w = w') := Lib.hid (fun w => by have h_ := isDigit_calls (c.toNat : Int) w; rw [show (decide (48 ≤ (c.toNat : Int)) && decide ((c.toNat : Int) ≤ 57)) = true from hd] at h_; exact h_)
  have hmc : (¬ 0 < mx) ∨ (0 < mx ∧ ¬ mx < (out.length : Int)) := by omega
  have HB := Lib.hid hb
  rw [if_neg (by omega), if_pos hs] at hk
  have HX := Lib.hid hk.symm
  clear hlb hb hk hkl hl hd hx hm hql hv2 hq hl2 hve
  rcases hmc with hm3 | ⟨hm3, hm4⟩
  all_goals conv => arg 2; whnf
  all_goals
    go_wp2_with fail
    go_step3
    go_wp2_with (first | (go_at_call 91; refine HLEN.out.mono ?_; rintro e wx ⟨rfl, rfl⟩) | (go_at_call 92; refine (HDC.out _).mono ?_; rintro e wx ⟨rfl, rfl⟩))
    refine dig_loop (c :: r) 0 _ _ _ _ _ _ _ _ _ _ _ _ _ _ _ _ _ _ _ _ _ _ _ _ _ HDEC.out (by decide) (by decide) HLN.out ?_ (fun a' w'' hX => (digB_some hX).elim)
    intro a' w'' hX
    unfold DigX at hX
    iterate 24 (obtain ⟨_, hX⟩ := hX)
    obtain ⟨lx, vx, ⟨rfl, hXe⟩, rfl⟩ := hX
    simp only [Option.some.injEq, Prod.mk.injEq] at hXe
    obtain ⟨rfl, rfl⟩ := hXe
    go_wp2_with fail
    first
      | refine (hret _ _ ?_ : Q0 Exit.ret _ _)
      | skip
    unfold MainB
    exact ⟨_, _, _, _, _, _, _, _, _, _, _, _, _, _, _, _, _, _, _, _, _, _, _, _, _, _, _, _, _, _, _, _, _, _, _, _, _, _, _, _, _, _, _, _, _, _, _, _, _, _, _, _, _, _, _, _, _, _, _, _, _, _, _, _, _, _, _, _, _, _, _, _, _, _, _, _, _, _, _, _, _, _, _, _, _, _, _, _, _, _, _, _, _, _, _, _, _, _, _, _, _, _, _, _, _, _, _, _, _, _, _, _, _, _, _, _, _, _, _, _, _, _, _, _, _, _, _, _, _, _, _, _, _, _, _, _, _, _, _, _, _, _, _, _, _, _, _, _, _, _, _, _, _, _, _, _, _, _, _, _, _, _, _, _, _, _, _, _, _, _, _, _, _, _, _, _, _, _, _, _, _, _, _, _, _, _, _, _, _, _, _, _, _, _, _, ⟨HB.out, HX.out⟩, rfl⟩
set_option maxHeartbeats 8000000 in
set_option maxRecDepth 1000000 in
theorem main_go2 (c : UInt8) (r out q : List UInt8) (v : Int) (wr : World) (B5 B6 B7 B8 B9 C0 C1 C2 C3 C4 C5 C6 C7 H4 H5 H6 H7 H8 H9 I0 I1 I2 I3 I4 I5 I6 I7 I8 I9 J0 J1 J2 J3 J4 J5 J6 J7 J8 J9 K0 K1 K2 K3 K4 K5 K6 K7 K8 K9 L0 L1 L2 L3 L4 L5 L6 L7 L8 L9 M0 M1 M2 M3 M4 M5 M6 M7 M8 M9 N0 N1 N2 N3 N4 N5 N6 N7 N8 N9 O0 O1 O2 O3 O4 O5 O6 O7 O8 O9 P0 P1 P2 P3 P4 P5 P6 P7 P8 P9 R0 R1 R2 R3 R4 R5 R6 R7 R8 R9 S0 S1 S2 S3 S4 S5 S6 S7 S8 S9 T0 T1 T2 T3 T4 T5 T6 T7 T8 T9 U0 U1 U2 U3 U4 U5 U6 U7 U8 U9 V0 V1 V2 V3 V4 V5 V6 V7 V8 V9 W0 W1 W2 W3 W4 W5 W6 W7 W8 W9 X0 X1 X2 X3 X4 X5 X6 X7 X8 X9 Y0 Y1 Y2 Y3 Y4 Y5 Y6 Y7 Y8 Y9 Z0 Z1 Z2 Z3 Z4 Z5 Z6 Z7 Z8 Z9 x0 x1 x2 x3 x4 : Value) (Q0 : Exit → Act → World → Prop) (h : MainR b w0 mx X (c :: r) out wr) (hm : mx ≤ 0 ∨ (0 < mx ∧ ¬ mx < (out.length : Int))) (hd : Dm.isDig c = true) (hx : Dm.dec 0 (c :: r) = some (v, q)) (l2 : List UInt8) (v2 : Int) (hl2 : Dm.usl q = l2) (hve : v - 1 = v2) (hq : q.head? = some 95) (hs : ¬ (l2.length : Int) < v2) (hv3 : 0 ≤ v2) :
    Code.wp Tryd.prog mainBody (Exit.then (fun a' w'' => MainI b w0 mx X A1 A2 A3 A4 A5 A7 A8 B0 B1 B2 B3 C8 C9 D0 D1 D2 D3 D4 D5 D6 D7 D8 D9 E0 E1 E2 E3 E4 E5 E6 E7 E8 E9 F0 F1 F2 F3 F4 F5 F6 F7 F8 F9 G0 G1 G2 G3 G4 G5 G6 G7 G8 G9 H0 H1 H2 H3 x5 x6 x7 x8 x9 z0 z1 z2 z3 z4 z5 z6 z7 a' w'' ∧ mainMu a' < mainMu ⟨#[.string (bs (c :: r)), A1, A2, A3, A4, A5, .int .i64 mx, A7, A8, HF, B0, B1, B2, B3, .pointer (some ⟨b, 0, none⟩), B5, B6, B7, B8, B9, C0, C1, C2, C3, C4, C5, C6, C7, C8, C9, D0, D1, D2, D3, D4, D5, D6, D7, D8, D9, E0, E1, E2, E3, E4, E5, E6, E7, E8, E9, F0, F1, F2, F3, F4, F5, F6, F7, F8, F9, G0, G1, G2, G3, G4, G5, G6, G7, G8, G9, H0, H1, H2, H3, H4, H5, H6, H7, H8, H9, I0, I1, I2, I3, I4, I5, I6, I7, I8, I9, J0, J1, J2, J3, J4, J5, J6, J7, J8, J9, K0, K1, K2, K3, K4, K5, K6, K7, K8, K9, L0, L1, L2, L3, L4, L5, L6, L7, L8, L9, M0, M1, M2, M3, M4, M5, M6, M7, M8, M9, N0, N1, N2, N3, N4, N5, N6, N7, N8, N9, O0, O1, O2, O3, O4, O5, O6, O7, O8, O9, P0, P1, P2, P3, P4, P5, P6, P7, P8, P9, R0, R1, R2, R3, R4, R5, R6, R7, R8, R9, S0, S1, S2, S3, S4, S5, S6, S7, S8, S9, T0, T1, T2, T3, T4, T5, T6, T7, T8, T9, U0, U1, U2, U3, U4, U5, U6, U7, U8, U9, V0, V1, V2, V3, V4, V5, V6, V7, V8, V9, W0, W1, W2, W3, W4, W5, W6, W7, W8, W9, X0, X1, X2, X3, X4, X5, X6, X7, X8, X9, Y0, Y1, Y2, Y3, Y4, Y5, Y6, Y7, Y8, Y9, Z0, Z1, Z2, Z3, Z4, Z5, Z6, Z7, Z8, Z9, x0, x1, x2, x3, x4, x5, x6, x7, x8, x9, z0, z1, z2, z3, z4, z5, z6, z7], []⟩) Q0) ⟨#[.string (bs (c :: r)), A1, A2, A3, A4, A5, .int .i64 mx, A7, A8, HF, B0, B1, B2, B3, .pointer (some ⟨b, 0, none⟩), B5, B6, B7, B8, B9, C0, C1, C2, C3, C4, C5, C6, C7, C8, C9, D0, D1, D2, D3, D4, D5, D6, D7, D8, D9, E0, E1, E2, E3, E4, E5, E6, E7, E8, E9, F0, F1, F2, F3, F4, F5, F6, F7, F8, F9, G0, G1, G2, G3, G4, G5, G6, G7, G8, G9, H0, H1, H2, H3, H4, H5, H6, H7, H8, H9, I0, I1, I2, I3, I4, I5, I6, I7, I8, I9, J0, J1, J2, J3, J4, J5, J6, J7, J8, J9, K0, K1, K2, K3, K4, K5, K6, K7, K8, K9, L0, L1, L2, L3, L4, L5, L6, L7, L8, L9, M0, M1, M2, M3, M4, M5, M6, M7, M8, M9, N0, N1, N2, N3, N4, N5, N6, N7, N8, N9, O0, O1, O2, O3, O4, O5, O6, O7, O8, O9, P0, P1, P2, P3, P4, P5, P6, P7, P8, P9, R0, R1, R2, R3, R4, R5, R6, R7, R8, R9, S0, S1, S2, S3, S4, S5, S6, S7, S8, S9, T0, T1, T2, T3, T4, T5, T6, T7, T8, T9, U0, U1, U2, U3, U4, U5, U6, U7, U8, U9, V0, V1, V2, V3, V4, V5, V6, V7, V8, V9, W0, W1, W2, W3, W4, W5, W6, W7, W8, W9, X0, X1, X2, X3, X4, X5, X6, X7, X8, X9, Y0, Y1, Y2, Y3, Y4, Y5, Y6, Y7, Y8, Y9, Z0, Z1, Z2, Z3, Z4, Z5, Z6, Z7, Z8, Z9, x0, x1, x2, x3, x4, x5, x6, x7, x8, x9, z0, z1, z2, z3, z4, z5, z6, z7], []⟩ wr := by
  obtain ⟨hlb, hb, ⟨k, hk, hkl⟩, hl⟩ := h
  obtain ⟨hql, hv0, hv1⟩ := Dm.dec_first hd hx
  have hv2 : (if q.head? = some 95 then v - 1 else v) = v2 := by rw [hq, if_pos rfl]; exact hve
  have hq0 : 0 < (bs q).size := by rw [bs_size]; cases q with | nil => cases hq | cons y q => simp
  have iq0 : (bs q)[0]'hq0 = 95 := by cases q with | nil => cases hq | cons y q => exact Option.some.inj hq
  have lqz : (0 : Int) < ((bs q).size : Int) := by omega
  have lq : (0 : Int) < (q.length : Int) := by rw [← bs_size]; omega
  have lq1 : 1 ≤ q.length := by omega
  have lq1i : (1 : Int) ≤ (q.length : Int) := by omega
  have hxq : (bs q).extract 1 q.length = bs l2 := by cases q with | nil => cases hq | cons y q => (injection hq with hq; subst hq; rw [← hl2]; have := bs_extract (95 :: q) 1; rw [this]; rfl)
  have hwv : IntKind.i64.wrap (v - 1) = v2 := by rw [IntWalk.i64_in _ (by omega)]; exact hve
  obtain ⟨k, rfl⟩ : ∃ m, k = m + 1 := ⟨k - 1, by simp at hkl; omega⟩
  rw [lg_step hm hd hx, hv2, hl2] at hk
  have HLN := Lib.hid (show (c :: r).length ≤ 4611686018427387904 by omega)
  have HDEC := Lib.hid hx
  have hzq := bs_size q
  have hzq2 := bs_size l2
  have hz := bs_size (c :: r)
  have i0 : (bs (c :: r))[0]'(by rw [hz]; simp) = c := rfl
  have lz0 : (0 : Int) < ((bs (c :: r)).size : Int) := by rw [hz]; simp <;> omega
  have ly0 : (0 : Int) < (r.length : Int) + 1 := by omega
  have HLEN := Lib.hid (lbLen_calls b out wr hlb)
  have HDC : Hid (∀ w, Calls Tryd.prog 92 #[.int .u8 c.toNat] w fun e w' => e = .returned (.bool true) ∧ w = w') := Lib.hid (fun w => by have h_ := isDigit_calls (c.toNat : Int) w; rw [show (decide (48 ≤ (c.toNat : Int)) && decide ((c.toNat : Int) ≤ 57)) = true from hd] at h_; exact h_)
  have hmc : (¬ 0 < mx) ∨ (0 < mx ∧ ¬ mx < (out.length : Int)) := by omega
  have HB := Lib.hid hb
  rw [if_neg (by omega), if_neg hs] at hk
  have hle : v2 ≤ (l2.length : Int) := by omega
  have hxa : (bs l2).extract 0 v2.toNat = bs (l2.take v2.toNat) := by rw [bs_extract_to]; simp
  have hxb : (bs l2).extract v2.toNat l2.length = bs (l2.drop v2.toNat) := by have := bs_extract l2 v2.toNat; exact this
  have hlu : l2.length ≤ q.length := by rw [← hl2]; cases q with | nil => cases hq | cons y q => (show (if y = 95 then q else y :: q).length ≤ _; split <;> simp)
  have hlt : (l2.take v2.toNat).length + (l2.drop v2.toNat).length = l2.length := by rw [← List.length_append, List.take_append_drop]
  generalize l2.take v2.toNat = id at *
  generalize l2.drop v2.toNat = nm at *
  have hzi := bs_size id
  have hul := Dm.unbar_len id
  have htl := Dm.tl_len (Dm.unbar id)
  obtain ⟨o2, ho2⟩ : ∃ o2, (if out = [] then [] else out ++ [58, 58]) = o2 := ⟨_, rfl⟩
  rw [ho2] at hk
  have hol : o2.length ≤ out.length + 2 := by rw [← ho2]; split <;> simp
  have hlc : out.length + 2 * (r.length + 1) ≤ 70368744177664 := by simpa using hl
  have HK : Hid (∃ k, Dm.lgMain k mx (o2 ++ Dm.tl (Dm.unbar id)) nm = X ∧ nm.length ≤ k) := Lib.hid ⟨k, hk, by simp at hkl; omega⟩
  have HNL : Hid ((o2 ++ Dm.tl (Dm.unbar id)).length + 2 * nm.length ≤ 70368744177664) := Lib.hid (by rw [List.length_append]; omega)
  have HEL : Hid ((o2 ++ Dm.tl (Dm.unbar id)).length + (Dm.unbar id).length ≤ 140737488355328) := Lib.hid (by rw [List.length_append]; omega)
  have HMU : Hid (nm.length < r.length + 1) := Lib.hid (by omega)
  have HPP := Lib.hid (fun w => pre2_calls 95 36 id w)
  have HWS : Hid (Calls Tryd.prog 73 #[.pointer (some ⟨b, 0, none⟩), .string ⟨#[58, 58]⟩] wr fun e w' => (∃ n, e = .returned (.tuple #[.int .i64 n, .nilIface])) ∧ LB b (out ++ [58, 58]) w' ∧ Below b wr w') :=
    Lib.hid (lbString_calls b out [58, 58] wr hlb (by simp at hlc ⊢; omega))
  have hpc : (isPre2 95 36 id = false ∧ Dm.unbar id = id) ∨ (isPre2 95 36 id = true ∧ bs (Dm.unbar id) = (bs id).extract 1 id.length ∧ 1 ≤ id.length) := pre_cases id
  have hoc : (¬ (0 : Int) < (out.length : Int) ∧ o2 = out) ∨ ((0 : Int) < (out.length : Int) ∧ o2 = out ++ [58, 58]) := by
    rw [← ho2]
    cases out with
    | nil => exact .inl ⟨by simp, rfl⟩
    | cons x y => exact .inr ⟨by simp <;> omega, rfl⟩
  have HLB := Lib.hid hlb
  clear hlb hb hk hkl hl hd hx hm hql hv2 hq hs hlu hlt hul htl hol hlc ho2 hl2 hve
  rcases hmc with hm3 | ⟨hm3, hm4⟩
  all_goals rcases hoc with ⟨ho1, rfl⟩ | ⟨ho1, rfl⟩
  all_goals rcases hpc with ⟨hp1, hp2⟩ | ⟨hp1, hp2, hp3⟩
  all_goals conv => arg 2; whnf
  all_goals rw [hp1] at HPP

  all_goals try have hp3i : (1 : Int) ≤ (id.length : Int) := by omega
  all_goals
    go_wp2_with fail
    go_step3
    go_wp2_with (first | (go_at_call 91; refine HLEN.out.mono ?_; rintro e wx ⟨rfl, rfl⟩) | (go_at_call 92; refine (HDC.out _).mono ?_; rintro e wx ⟨rfl, rfl⟩))
    refine dig_loop (c :: r) 0 _ _ _ _ _ _ _ _ _ _ _ _ _ _ _ _ _ _ _ _ _ _ _ _ _ HDEC.out (by decide) (by decide) HLN.out ?_ (fun a' w'' hX => (digB_some hX).elim)
    intro a' w'' hX
    unfold DigX at hX
    iterate 24 (obtain ⟨_, hX⟩ := hX)
    obtain ⟨lx, vx, ⟨rfl, hXe⟩, rfl⟩ := hX
    simp only [Option.some.injEq, Prod.mk.injEq] at hXe
    obtain ⟨rfl, rfl⟩ := hXe
    go_wp2_with (first | (go_at_call 91; refine HLEN.out.mono ?_; rintro e wx ⟨rfl, rfl⟩) | (go_at_call 93; refine (HPP.out _).mono ?_; rintro e wx ⟨rfl, rfl⟩) | (go_at_call 73; refine HWS.out.mono ?_; rintro e w1 ⟨⟨nn, rfl⟩, hlb1, hb1⟩))
    all_goals try rw [← hp2]
    go_step3
    go_wp2_with fail
    refine esc_loop (Dm.unbar id) _ _ _ _ _ _ _ _ _ _ _ _ _ _ _ _ _ _ _ _ _ _ _ _ _ _ _ _ _ _ _ _ _ _ _ _ _ _ _ _ _ _ _ _ _ _ _ _ _ _ _ _ _ _ _ _ _ _ _ _ _ _ _ _ _ _ _ _ _ _ _ _ _ _ _ _ _ _ _ _ _ _ _ _ _ _ _ _ _ _ _ _ _ _ _ _ _ _ _ _ _ _ _ _ _ _ _ _ _ _ _ _ _ _ _ _ _ _ _ _ _ _ _ _ _ _ _ _ (by first | exact hlb1 | exact HLB.out) (by first | exact HB.out.trans hb1 | exact HB.out) rfl (by exact HEL.out) ?_
    intro a2 w2 hX
    unfold EscX at hX
    iterate 126 (obtain ⟨_, hX⟩ := hX)
    obtain ⟨⟨hlb2, hb2⟩, rfl⟩ := hX
    go_wp2_with fail
    refine ⟨?_, ?_⟩
    · unfold MainI
      exact ⟨_, _, _, _, _, _, _, _, _, _, _, _, _, _, _, _, _, _, _, _, _, _, _, _, _, _, _, _, _, _, _, _, _, _, _, _, _, _, _, _, _, _, _, _, _, _, _, _, _, _, _, _, _, _, _, _, _, _, _, _, _, _, _, _, _, _, _, _, _, _, _, _, _, _, _, _, _, _, _, _, _, _, _, _, _, _, _, _, _, _, _, _, _, _, _, _, _, _, _, _, _, _, _, _, _, _, _, _, _, _, _, _, _, _, _, _, _, _, _, _, _, _, _, _, _, _, _, _, _, _, _, _, _, _, _, _, _, _, _, _, _, _, _, _, _, _, _, _, _, _, _, _, _, _, _, _, _, _, _, _, _, _, _, _, _, _, _, _, _, _, _, _, _, _, _, _, _, _, _, _, _, _, _, _, _, _, _, _, _, _, _, _, _, _, nm, _, ⟨hlb2, hb2, HK.out, HNL.out⟩, rfl⟩
    · show (bs nm).size < (bs (c :: r)).size
      rw [bs_size, bs_size]
      exact HMU.out
end
end Go.Proofs.YtpmlnhddkbgefaaDoor
