/- oldRustToString's loop over the escapes of a name: some of its cases. Printed by tools/gold.py. oldRustToString's loop over the escapes of a name: some of its cases. Printed by tools/gold.py. oldRustToString's loop over the escapes of a name: some of its cases. Printed by tools/gold.py. oldRustToString's loop over the escapes of a name: some of its cases. Printed by tools/gold.py. oldRustToString's loop over the escapes of a name: some of its cases. Printed by tools/gold.py. -/
import Derived.Test.YtpmlnhddkbgefaaDoorN2
namespace Go.Proofs.YtpmlnhddkbgefaaDoor
set_option linter.unusedVariables false
set_option linter.unusedSimpArgs false
open Go.RowKit
section
variable {b : Nat} {w0 : World} {OUT : List UInt8} {A0 A1 A2 A3 A4 A5 A6 A7 A8 B0 B1 B2 B3 B5 B6 C8 C9 D0 D1 D2 D3 D4 D5 D6 D7 D8 D9 E0 E1 E2 E3 E4 E5 E6 E7 E8 E9 F0 F1 F2 F3 F4 F5 F6 F7 F8 F9 G0 G1 G2 G3 G4 G5 G6 G7 G8 G9 H0 H1 H2 H3 H4 H5 H6 H7 H8 H9 I0 I1 I2 I3 I4 I5 I6 I7 I8 I9 J0 J1 J2 J3 J4 J5 J6 J7 J8 J9 K0 K1 K2 K3 K4 K5 K6 K7 K8 K9 L0 L1 L2 L3 L4 L5 L6 L7 L8 L9 M0 M1 M2 M3 M4 M5 M6 M7 M8 M9 N0 N1 N2 N3 N4 N5 N6 N7 N8 N9 x5 x6 x7 x8 x9 z0 z1 z2 z3 z4 z5 z6 z7 : Value}
set_option maxHeartbeats 4000000 in
set_option maxRecDepth 1000000 in
theorem esc_comma (a d : UInt8) (t out : List UInt8) (wr : World) (B8 B9 C0 C1 C2 C3 C4 C5 C6 C7 O0 O1 O2 O3 O4 O5 O6 O7 O8 O9 P0 P1 P2 P3 P4 P5 P6 P7 P8 P9 R0 R1 R2 R3 R4 R5 R6 R7 R8 R9 S0 S1 S2 S3 S4 S5 S6 S7 S8 S9 T0 T1 T2 T3 T4 T5 T6 T7 T8 T9 U0 U1 U2 U3 U4 U5 U6 U7 U8 U9 V0 V1 V2 V3 V4 V5 V6 V7 V8 V9 W0 W1 W2 W3 W4 W5 W6 W7 W8 W9 X0 X1 X2 X3 X4 X5 X6 X7 X8 X9 Y0 Y1 Y2 Y3 Y4 Y5 Y6 Y7 Y8 Y9 Z0 Z1 Z2 Z3 Z4 Z5 Z6 Z7 Z8 Z9 x0 x1 x2 x3 x4 : Value) (Q0 : Exit → Act → World → Prop) (ha : a = 67) (hd : d = 36) (hlb : LB b out wr) (hb : Below b w0 wr) (ho : out ++ Dm.tl (36 :: a :: d :: t) = OUT) (hl : OUT.length + (36 :: a :: d :: t).length ≤ 140737488355328) :
    Code.wp Tryd.prog escBody (Exit.then (fun a' w'' => EscI b w0 OUT A0 A1 A2 A3 A4 A5 A6 A7 A8 B0 B1 B2 B3 B5 B6 C8 C9 D0 D1 D2 D3 D4 D5 D6 D7 D8 D9 E0 E1 E2 E3 E4 E5 E6 E7 E8 E9 F0 F1 F2 F3 F4 F5 F6 F7 F8 F9 G0 G1 G2 G3 G4 G5 G6 G7 G8 G9 H0 H1 H2 H3 H4 H5 H6 H7 H8 H9 I0 I1 I2 I3 I4 I5 I6 I7 I8 I9 J0 J1 J2 J3 J4 J5 J6 J7 J8 J9 K0 K1 K2 K3 K4 K5 K6 K7 K8 K9 L0 L1 L2 L3 L4 L5 L6 L7 L8 L9 M0 M1 M2 M3 M4 M5 M6 M7 M8 M9 N0 N1 N2 N3 N4 N5 N6 N7 N8 N9 x5 x6 x7 x8 x9 z0 z1 z2 z3 z4 z5 z6 z7 a' w'' ∧ escMu a' < escMu ⟨#[A0, A1, A2, A3, A4, A5, A6, A7, A8, HF, B0, B1, B2, B3, .pointer (some ⟨b, 0, none⟩), B5, B6, .string (bs (36 :: a :: d :: t)), B8, B9, C0, C1, C2, C3, C4, C5, C6, C7, C8, C9, D0, D1, D2, D3, D4, D5, D6, D7, D8, D9, E0, E1, E2, E3, E4, E5, E6, E7, E8, E9, F0, F1, F2, F3, F4, F5, F6, F7, F8, F9, G0, G1, G2, G3, G4, G5, G6, G7, G8, G9, H0, H1, H2, H3, H4, H5, H6, H7, H8, H9, I0, I1, I2, I3, I4, I5, I6, I7, I8, I9, J0, J1, J2, J3, J4, J5, J6, J7, J8, J9, K0, K1, K2, K3, K4, K5, K6, K7, K8, K9, L0, L1, L2, L3, L4, L5, L6, L7, L8, L9, M0, M1, M2, M3, M4, M5, M6, M7, M8, M9, N0, N1, N2, N3, N4, N5, N6, N7, N8, N9, O0, O1, O2, O3, O4, O5, O6, O7, O8, O9, P0, P1, P2, P3, P4, P5, P6, P7, P8, P9, R0, R1, R2, R3, R4, R5, R6, R7, R8, R9, S0, S1, S2, S3, S4, S5, S6, S7, S8, S9, T0, T1, T2, T3, T4, T5, T6, T7, T8, T9, U0, U1, U2, U3, U4, U5, U6, U7, U8, U9, V0, V1, V2, V3, V4, V5, V6, V7, V8, V9, W0, W1, W2, W3, W4, W5, W6, W7, W8, W9, X0, X1, X2, X3, X4, X5, X6, X7, X8, X9, Y0, Y1, Y2, Y3, Y4, Y5, Y6, Y7, Y8, Y9, Z0, Z1, Z2, Z3, Z4, Z5, Z6, Z7, Z8, Z9, x0, x1, x2, x3, x4, x5, x6, x7, x8, x9, z0, z1, z2, z3, z4, z5, z6, z7], []⟩) Q0) ⟨#[A0, A1, A2, A3, A4, A5, A6, A7, A8, HF, B0, B1, B2, B3, .pointer (some ⟨b, 0, none⟩), B5, B6, .string (bs (36 :: a :: d :: t)), B8, B9, C0, C1, C2, C3, C4, C5, C6, C7, C8, C9, D0, D1, D2, D3, D4, D5, D6, D7, D8, D9, E0, E1, E2, E3, E4, E5, E6, E7, E8, E9, F0, F1, F2, F3, F4, F5, F6, F7, F8, F9, G0, G1, G2, G3, G4, G5, G6, G7, G8, G9, H0, H1, H2, H3, H4, H5, H6, H7, H8, H9, I0, I1, I2, I3, I4, I5, I6, I7, I8, I9, J0, J1, J2, J3, J4, J5, J6, J7, J8, J9, K0, K1, K2, K3, K4, K5, K6, K7, K8, K9, L0, L1, L2, L3, L4, L5, L6, L7, L8, L9, M0, M1, M2, M3, M4, M5, M6, M7, M8, M9, N0, N1, N2, N3, N4, N5, N6, N7, N8, N9, O0, O1, O2, O3, O4, O5, O6, O7, O8, O9, P0, P1, P2, P3, P4, P5, P6, P7, P8, P9, R0, R1, R2, R3, R4, R5, R6, R7, R8, R9, S0, S1, S2, S3, S4, S5, S6, S7, S8, S9, T0, T1, T2, T3, T4, T5, T6, T7, T8, T9, U0, U1, U2, U3, U4, U5, U6, U7, U8, U9, V0, V1, V2, V3, V4, V5, V6, V7, V8, V9, W0, W1, W2, W3, W4, W5, W6, W7, W8, W9, X0, X1, X2, X3, X4, X5, X6, X7, X8, X9, Y0, Y1, Y2, Y3, Y4, Y5, Y6, Y7, Y8, Y9, Z0, Z1, Z2, Z3, Z4, Z5, Z6, Z7, Z8, Z9, x0, x1, x2, x3, x4, x5, x6, x7, x8, x9, z0, z1, z2, z3, z4, z5, z6, z7], []⟩ wr := by
  conv => arg 2; whnf
  have hz := bs_size (36 :: a :: d :: t)
  have hmm := @run_makeMap Tryd.prog
  have hp0 := put_0 wr
  have hp1 := put_1 wr
  have hp2 := put_2 wr
  have hp3 := put_3 wr
  have hp4 := put_4 wr
  have hp5 := put_5 wr
  have hp6 := put_6 wr
  have HB := Lib.hid ((hb.alloc (Nat.le_of_lt hlb.lt) (cmap 7)))
  have ho2 : (out ++ [44]) ++ Dm.tl (t) = OUT := by subst ha hd; rw [← ho, Dm.tl_comma]; simp
  have HO := Lib.hid ho2
  have HL := Lib.hid (show OUT.length + (t).length ≤ 140737488355328 by simp at hl; omega)
  have hw := Lib.hid (lbByte_calls b out 44 _ (hlb.alloc (cmap 7)) (by have := congrArg List.length ho2; simp at this hl ⊢; omega))
  have n0 : (((36 : UInt8).toNat : Int) == 36) = true := rfl
  have i0 : (bs (36 :: a :: d :: t))[0]'(by rw [hz]; simp) = 36 := rfl
  have i1 : (bs (36 :: a :: d :: t))[1]'(by rw [hz]; simp) = a := rfl
  have i2 : (bs (36 :: a :: d :: t))[2]'(by rw [hz]; simp) = d := rfl
  have ly0 : (0 : Int) < (t.length : Int) + 1 + 1 + 1 := by omega
  have lz0 : (0 : Int) < ((bs (36 :: a :: d :: t)).size : Int) := by rw [hz]; simp <;> omega
  have ly2 : (2 : Int) < (t.length : Int) + 1 + 1 + 1 := by omega
  have lz2 : (2 : Int) < ((bs (36 :: a :: d :: t)).size : Int) := by rw [hz]; simp <;> omega
  have n1 : ((a.toNat : Int) == 67) = true := u8_eq (d := 67) ha
  have n2 : ((d.toNat : Int) == 36) = true := u8_eq (d := 36) hd
  have hxs : (bs (36 :: a :: d :: t)).extract 3 (t.length + 1 + 1 + 1) = bs (t) := by have := bs_extract (36 :: a :: d :: t) 3; exact this
  have hn : 3 ≤ (36 :: a :: d :: t).length := by simp
  have hni : (3 : Int) ≤ ((36 :: a :: d :: t).length : Int) := by simp <;> omega
  clear hlb hb ho ho2 hl ha hd
  go_wp2_with (first | (go_at_call 94; refine hw.out.mono ?_; rintro e w1 ⟨rfl, hlb1, hb1⟩))
  all_goals refine ⟨?_, ?_⟩
  all_goals try rw [hxs]
  all_goals first
    | exact ⟨_, _, _, _, _, _, _, _, _, _, _, _, _, _, _, _, _, _, _, _, _, _, _, _, _, _, _, _, _, _, _, _, _, _, _, _, _, _, _, _, _, _, _, _, _, _, _, _, _, _, _, _, _, _, _, _, _, _, _, _, _, _, _, _, _, _, _, _, _, _, _, _, _, _, _, _, _, _, _, _, _, _, _, _, _, _, _, _, _, _, _, _, _, _, _, _, _, _, _, _, _, _, _, _, _, _, _, _, _, _, _, _, _, _, _, _, _, _, _, _, _, _, _, _, _, t, out ++ [44], ⟨hlb1, HB.out.trans hb1, HO.out, HL.out⟩, rfl⟩
    | (show (bs (t)).size < (bs (36 :: a :: d :: t)).size
       rw [bs_size, bs_size]
       simp <;> omega)
end
end Go.Proofs.YtpmlnhddkbgefaaDoor
namespace Go.Proofs.YtpmlnhddkbgefaaDoor
set_option linter.unusedVariables false
set_option linter.unusedSimpArgs false
open Go.RowKit
section
variable {b : Nat} {w0 : World} {OUT : List UInt8} {A0 A1 A2 A3 A4 A5 A6 A7 A8 B0 B1 B2 B3 B5 B6 C8 C9 D0 D1 D2 D3 D4 D5 D6 D7 D8 D9 E0 E1 E2 E3 E4 E5 E6 E7 E8 E9 F0 F1 F2 F3 F4 F5 F6 F7 F8 F9 G0 G1 G2 G3 G4 G5 G6 G7 G8 G9 H0 H1 H2 H3 H4 H5 H6 H7 H8 H9 I0 I1 I2 I3 I4 I5 I6 I7 I8 I9 J0 J1 J2 J3 J4 J5 J6 J7 J8 J9 K0 K1 K2 K3 K4 K5 K6 K7 K8 K9 L0 L1 L2 L3 L4 L5 L6 L7 L8 L9 M0 M1 M2 M3 M4 M5 M6 M7 M8 M9 N0 N1 N2 N3 N4 N5 N6 N7 N8 N9 x5 x6 x7 x8 x9 z0 z1 z2 z3 z4 z5 z6 z7 : Value}
set_option maxHeartbeats 4000000 in
set_option maxRecDepth 1000000 in
theorem esc_hex (a x y d : UInt8) (t out : List UInt8) (wr : World) (B8 B9 C0 C1 C2 C3 C4 C5 C6 C7 O0 O1 O2 O3 O4 O5 O6 O7 O8 O9 P0 P1 P2 P3 P4 P5 P6 P7 P8 P9 R0 R1 R2 R3 R4 R5 R6 R7 R8 R9 S0 S1 S2 S3 S4 S5 S6 S7 S8 S9 T0 T1 T2 T3 T4 T5 T6 T7 T8 T9 U0 U1 U2 U3 U4 U5 U6 U7 U8 U9 V0 V1 V2 V3 V4 V5 V6 V7 V8 V9 W0 W1 W2 W3 W4 W5 W6 W7 W8 W9 X0 X1 X2 X3 X4 X5 X6 X7 X8 X9 Y0 Y1 Y2 Y3 Y4 Y5 Y6 Y7 Y8 Y9 Z0 Z1 Z2 Z3 Z4 Z5 Z6 Z7 Z8 Z9 x0 x1 x2 x3 x4 : Value) (Q0 : Exit → Act → World → Prop) (ha : a = 117) (hd : d = 36) (p q : Int) (hp : Dm.hexd x = some p) (hq : Dm.hexd y = some q) (hv : ¬ (7 < p ∨ p * 16 + q < 32)) (hlb : LB b out wr) (hb : Below b w0 wr) (ho : out ++ Dm.tl (36 :: a :: x :: y :: d :: t) = OUT) (hl : OUT.length + (36 :: a :: x :: y :: d :: t).length ≤ 140737488355328) :
    Code.wp Tryd.prog escBody (Exit.then (fun a' w'' => EscI b w0 OUT A0 A1 A2 A3 A4 A5 A6 A7 A8 B0 B1 B2 B3 B5 B6 C8 C9 D0 D1 D2 D3 D4 D5 D6 D7 D8 D9 E0 E1 E2 E3 E4 E5 E6 E7 E8 E9 F0 F1 F2 F3 F4 F5 F6 F7 F8 F9 G0 G1 G2 G3 G4 G5 G6 G7 G8 G9 H0 H1 H2 H3 H4 H5 H6 H7 H8 H9 I0 I1 I2 I3 I4 I5 I6 I7 I8 I9 J0 J1 J2 J3 J4 J5 J6 J7 J8 J9 K0 K1 K2 K3 K4 K5 K6 K7 K8 K9 L0 L1 L2 L3 L4 L5 L6 L7 L8 L9 M0 M1 M2 M3 M4 M5 M6 M7 M8 M9 N0 N1 N2 N3 N4 N5 N6 N7 N8 N9 x5 x6 x7 x8 x9 z0 z1 z2 z3 z4 z5 z6 z7 a' w'' ∧ escMu a' < escMu ⟨#[A0, A1, A2, A3, A4, A5, A6, A7, A8, HF, B0, B1, B2, B3, .pointer (some ⟨b, 0, none⟩), B5, B6, .string (bs (36 :: a :: x :: y :: d :: t)), B8, B9, C0, C1, C2, C3, C4, C5, C6, C7, C8, C9, D0, D1, D2, D3, D4, D5, D6, D7, D8, D9, E0, E1, E2, E3, E4, E5, E6, E7, E8, E9, F0, F1, F2, F3, F4, F5, F6, F7, F8, F9, G0, G1, G2, G3, G4, G5, G6, G7, G8, G9, H0, H1, H2, H3, H4, H5, H6, H7, H8, H9, I0, I1, I2, I3, I4, I5, I6, I7, I8, I9, J0, J1, J2, J3, J4, J5, J6, J7, J8, J9, K0, K1, K2, K3, K4, K5, K6, K7, K8, K9, L0, L1, L2, L3, L4, L5, L6, L7, L8, L9, M0, M1, M2, M3, M4, M5, M6, M7, M8, M9, N0, N1, N2, N3, N4, N5, N6, N7, N8, N9, O0, O1, O2, O3, O4, O5, O6, O7, O8, O9, P0, P1, P2, P3, P4, P5, P6, P7, P8, P9, R0, R1, R2, R3, R4, R5, R6, R7, R8, R9, S0, S1, S2, S3, S4, S5, S6, S7, S8, S9, T0, T1, T2, T3, T4, T5, T6, T7, T8, T9, U0, U1, U2, U3, U4, U5, U6, U7, U8, U9, V0, V1, V2, V3, V4, V5, V6, V7, V8, V9, W0, W1, W2, W3, W4, W5, W6, W7, W8, W9, X0, X1, X2, X3, X4, X5, X6, X7, X8, X9, Y0, Y1, Y2, Y3, Y4, Y5, Y6, Y7, Y8, Y9, Z0, Z1, Z2, Z3, Z4, Z5, Z6, Z7, Z8, Z9, x0, x1, x2, x3, x4, x5, x6, x7, x8, x9, z0, z1, z2, z3, z4, z5, z6, z7], []⟩) Q0) ⟨#[A0, A1, A2, A3, A4, A5, A6, A7, A8, HF, B0, B1, B2, B3, .pointer (some ⟨b, 0, none⟩), B5, B6, .string (bs (36 :: a :: x :: y :: d :: t)), B8, B9, C0, C1, C2, C3, C4, C5, C6, C7, C8, C9, D0, D1, D2, D3, D4, D5, D6, D7, D8, D9, E0, E1, E2, E3, E4, E5, E6, E7, E8, E9, F0, F1, F2, F3, F4, F5, F6, F7, F8, F9, G0, G1, G2, G3, G4, G5, G6, G7, G8, G9, H0, H1, H2, H3, H4, H5, H6, H7, H8, H9, I0, I1, I2, I3, I4, I5, I6, I7, I8, I9, J0, J1, J2, J3, J4, J5, J6, J7, J8, J9, K0, K1, K2, K3, K4, K5, K6, K7, K8, K9, L0, L1, L2, L3, L4, L5, L6, L7, L8, L9, M0, M1, M2, M3, M4, M5, M6, M7, M8, M9, N0, N1, N2, N3, N4, N5, N6, N7, N8, N9, O0, O1, O2, O3, O4, O5, O6, O7, O8, O9, P0, P1, P2, P3, P4, P5, P6, P7, P8, P9, R0, R1, R2, R3, R4, R5, R6, R7, R8, R9, S0, S1, S2, S3, S4, S5, S6, S7, S8, S9, T0, T1, T2, T3, T4, T5, T6, T7, T8, T9, U0, U1, U2, U3, U4, U5, U6, U7, U8, U9, V0, V1, V2, V3, V4, V5, V6, V7, V8, V9, W0, W1, W2, W3, W4, W5, W6, W7, W8, W9, X0, X1, X2, X3, X4, X5, X6, X7, X8, X9, Y0, Y1, Y2, Y3, Y4, Y5, Y6, Y7, Y8, Y9, Z0, Z1, Z2, Z3, Z4, Z5, Z6, Z7, Z8, Z9, x0, x1, x2, x3, x4, x5, x6, x7, x8, x9, z0, z1, z2, z3, z4, z5, z6, z7], []⟩ wr := by
  conv => arg 2; whnf
  have hz := bs_size (36 :: a :: x :: y :: d :: t)
  have hmm := @run_makeMap Tryd.prog
  have hp0 := put_0 wr
  have hp1 := put_1 wr
  have hp2 := put_2 wr
  have hp3 := put_3 wr
  have hp4 := put_4 wr
  have hp5 := put_5 wr
  have hp6 := put_6 wr
  have HB := Lib.hid ((hb.alloc (Nat.le_of_lt hlb.lt) (cmap 7)))
  have hq2 := Dm.hexd_range hq
  have hp2 := Dm.hexd_range hp
  have hv1 : ¬ 7 < p := fun h => hv (.inl h)
  have hv2 : ¬ p * 16 + q < 32 := fun h => hv (.inr h)
  have hvb : ((UInt8.ofNat (p * 16 + q).toNat).toNat : Int) = p * 16 + q := by rw [UInt8.toNat_ofNat_of_lt' (by have : UInt8.size = 256 := rfl; omega)]; omega
  have ho2 : (out ++ [UInt8.ofNat (p * 16 + q).toNat]) ++ Dm.tl (t) = OUT := by subst ha hd; rw [← ho, Dm.tl_hex _ _ (UInt8.ofNat (p * 16 + q).toNat) _ (by unfold Dm.hex2; rw [hp, hq]; simp only; rw [if_neg hv])]; simp
  have HO := Lib.hid ho2
  have HL := Lib.hid (show OUT.length + (t).length ≤ 140737488355328 by simp at hl; omega)
  have hw := Lib.hid (by have h_ := lbByte_calls b out (UInt8.ofNat (p * 16 + q).toNat) _ (hlb.alloc (cmap 7)) (by have := congrArg List.length ho2; simp at this hl ⊢; omega); rw [hvb] at h_; exact h_)
  have n0 : (((36 : UInt8).toNat : Int) == 36) = true := rfl
  have i0 : (bs (36 :: a :: x :: y :: d :: t))[0]'(by rw [hz]; simp) = 36 := rfl
  have i1 : (bs (36 :: a :: x :: y :: d :: t))[1]'(by rw [hz]; simp) = a := rfl
  have i2 : (bs (36 :: a :: x :: y :: d :: t))[2]'(by rw [hz]; simp) = x := rfl
  have i3 : (bs (36 :: a :: x :: y :: d :: t))[3]'(by rw [hz]; simp) = y := rfl
  have i4 : (bs (36 :: a :: x :: y :: d :: t))[4]'(by rw [hz]; simp) = d := rfl
  have ly0 : (0 : Int) < (t.length : Int) + 1 + 1 + 1 + 1 + 1 := by omega
  have lz0 : (0 : Int) < ((bs (36 :: a :: x :: y :: d :: t)).size : Int) := by rw [hz]; simp <;> omega
  have ly2 : (2 : Int) < (t.length : Int) + 1 + 1 + 1 + 1 + 1 := by omega
  have lz2 : (2 : Int) < ((bs (36 :: a :: x :: y :: d :: t)).size : Int) := by rw [hz]; simp <;> omega
  have ly4 : (4 : Int) < (t.length : Int) + 1 + 1 + 1 + 1 + 1 := by omega
  have lz4 : (4 : Int) < ((bs (36 :: a :: x :: y :: d :: t)).size : Int) := by rw [hz]; simp <;> omega
  have n1 : ((a.toNat : Int) == 117) = true := u8_eq (d := 117) ha
  have n1b : ((a.toNat : Int) == 67) = false := u8_ne (d := 67) (by rw [ha]; decide)
  have n2 : ((d.toNat : Int) == 36) = true := u8_eq (d := 36) hd
  have rx : hexRes x = .tuple #[.int .u8 p, .bool true] := by unfold hexRes; rw [hp]
  have ry : hexRes y = .tuple #[.int .u8 q, .bool true] := by unfold hexRes; rw [hq]
  have hsh : IntKind.u8.wrap (p * 16) = p * 16 := IntWalk.u8_in _ (by omega)
  have hor : bits .or .u8 (p * 16) q = p * 16 + q := hex_or (by omega) (by omega) (by omega) (by omega)
  have hxs : (bs (36 :: a :: x :: y :: d :: t)).extract 5 (t.length + 1 + 1 + 1 + 1 + 1) = bs (t) := by have := bs_extract (36 :: a :: x :: y :: d :: t) 5; exact this
  have hn : 5 ≤ (36 :: a :: x :: y :: d :: t).length := by simp
  have hni : (5 : Int) ≤ ((36 :: a :: x :: y :: d :: t).length : Int) := by simp <;> omega
  clear hlb hb ho ho2 hl ha hd hp hq hv
  go_wp2_with (first | (go_at_call 94; refine hw.out.mono ?_; rintro e w1 ⟨rfl, hlb1, hb1⟩) | (go_at_call 89; refine (hexDigit_calls _ _).mono ?_; rintro e wx ⟨rfl, rfl⟩))
  all_goals refine ⟨?_, ?_⟩
  all_goals try rw [hxs]
  all_goals first
    | exact ⟨_, _, _, _, _, _, _, _, _, _, _, _, _, _, _, _, _, _, _, _, _, _, _, _, _, _, _, _, _, _, _, _, _, _, _, _, _, _, _, _, _, _, _, _, _, _, _, _, _, _, _, _, _, _, _, _, _, _, _, _, _, _, _, _, _, _, _, _, _, _, _, _, _, _, _, _, _, _, _, _, _, _, _, _, _, _, _, _, _, _, _, _, _, _, _, _, _, _, _, _, _, _, _, _, _, _, _, _, _, _, _, _, _, _, _, _, _, _, _, _, _, _, _, _, _, t, out ++ [UInt8.ofNat (p * 16 + q).toNat], ⟨hlb1, HB.out.trans hb1, HO.out, HL.out⟩, rfl⟩
    | (show (bs (t)).size < (bs (36 :: a :: x :: y :: d :: t)).size
       rw [bs_size, bs_size]
       simp <;> omega)
end
end Go.Proofs.YtpmlnhddkbgefaaDoor
namespace Go.Proofs.YtpmlnhddkbgefaaDoor
set_option linter.unusedVariables false
set_option linter.unusedSimpArgs false
open Go.RowKit
section
variable {b : Nat} {w0 : World} {OUT : List UInt8} {A0 A1 A2 A3 A4 A5 A6 A7 A8 B0 B1 B2 B3 B5 B6 C8 C9 D0 D1 D2 D3 D4 D5 D6 D7 D8 D9 E0 E1 E2 E3 E4 E5 E6 E7 E8 E9 F0 F1 F2 F3 F4 F5 F6 F7 F8 F9 G0 G1 G2 G3 G4 G5 G6 G7 G8 G9 H0 H1 H2 H3 H4 H5 H6 H7 H8 H9 I0 I1 I2 I3 I4 I5 I6 I7 I8 I9 J0 J1 J2 J3 J4 J5 J6 J7 J8 J9 K0 K1 K2 K3 K4 K5 K6 K7 K8 K9 L0 L1 L2 L3 L4 L5 L6 L7 L8 L9 M0 M1 M2 M3 M4 M5 M6 M7 M8 M9 N0 N1 N2 N3 N4 N5 N6 N7 N8 N9 x5 x6 x7 x8 x9 z0 z1 z2 z3 z4 z5 z6 z7 : Value}
set_option maxHeartbeats 4000000 in
set_option maxRecDepth 1000000 in
theorem esc_code1 (a x d v : UInt8) (t out : List UInt8) (wr : World) (B8 B9 C0 C1 C2 C3 C4 C5 C6 C7 O0 O1 O2 O3 O4 O5 O6 O7 O8 O9 P0 P1 P2 P3 P4 P5 P6 P7 P8 P9 R0 R1 R2 R3 R4 R5 R6 R7 R8 R9 S0 S1 S2 S3 S4 S5 S6 S7 S8 S9 T0 T1 T2 T3 T4 T5 T6 T7 T8 T9 U0 U1 U2 U3 U4 U5 U6 U7 U8 U9 V0 V1 V2 V3 V4 V5 V6 V7 V8 V9 W0 W1 W2 W3 W4 W5 W6 W7 W8 W9 X0 X1 X2 X3 X4 X5 X6 X7 X8 X9 Y0 Y1 Y2 Y3 Y4 Y5 Y6 Y7 Y8 Y9 Z0 Z1 Z2 Z3 Z4 Z5 Z6 Z7 Z8 Z9 x0 x1 x2 x3 x4 : Value) (Q0 : Exit → Act → World → Prop) (hv : Dm.code2 a x = some v) (h1 : a ≠ 67) (h2 : a ≠ 117) (hd : d = 36) (hlb : LB b out wr) (hb : Below b w0 wr) (ho : out ++ Dm.tl (36 :: a :: x :: d :: t) = OUT) (hl : OUT.length + (36 :: a :: x :: d :: t).length ≤ 140737488355328) :
    Code.wp Tryd.prog escBody (Exit.then (fun a' w'' => EscI b w0 OUT A0 A1 A2 A3 A4 A5 A6 A7 A8 B0 B1 B2 B3 B5 B6 C8 C9 D0 D1 D2 D3 D4 D5 D6 D7 D8 D9 E0 E1 E2 E3 E4 E5 E6 E7 E8 E9 F0 F1 F2 F3 F4 F5 F6 F7 F8 F9 G0 G1 G2 G3 G4 G5 G6 G7 G8 G9 H0 H1 H2 H3 H4 H5 H6 H7 H8 H9 I0 I1 I2 I3 I4 I5 I6 I7 I8 I9 J0 J1 J2 J3 J4 J5 J6 J7 J8 J9 K0 K1 K2 K3 K4 K5 K6 K7 K8 K9 L0 L1 L2 L3 L4 L5 L6 L7 L8 L9 M0 M1 M2 M3 M4 M5 M6 M7 M8 M9 N0 N1 N2 N3 N4 N5 N6 N7 N8 N9 x5 x6 x7 x8 x9 z0 z1 z2 z3 z4 z5 z6 z7 a' w'' ∧ escMu a' < escMu ⟨#[A0, A1, A2, A3, A4, A5, A6, A7, A8, HF, B0, B1, B2, B3, .pointer (some ⟨b, 0, none⟩), B5, B6, .string (bs (36 :: a :: x :: d :: t)), B8, B9, C0, C1, C2, C3, C4, C5, C6, C7, C8, C9, D0, D1, D2, D3, D4, D5, D6, D7, D8, D9, E0, E1, E2, E3, E4, E5, E6, E7, E8, E9, F0, F1, F2, F3, F4, F5, F6, F7, F8, F9, G0, G1, G2, G3, G4, G5, G6, G7, G8, G9, H0, H1, H2, H3, H4, H5, H6, H7, H8, H9, I0, I1, I2, I3, I4, I5, I6, I7, I8, I9, J0, J1, J2, J3, J4, J5, J6, J7, J8, J9, K0, K1, K2, K3, K4, K5, K6, K7, K8, K9, L0, L1, L2, L3, L4, L5, L6, L7, L8, L9, M0, M1, M2, M3, M4, M5, M6, M7, M8, M9, N0, N1, N2, N3, N4, N5, N6, N7, N8, N9, O0, O1, O2, O3, O4, O5, O6, O7, O8, O9, P0, P1, P2, P3, P4, P5, P6, P7, P8, P9, R0, R1, R2, R3, R4, R5, R6, R7, R8, R9, S0, S1, S2, S3, S4, S5, S6, S7, S8, S9, T0, T1, T2, T3, T4, T5, T6, T7, T8, T9, U0, U1, U2, U3, U4, U5, U6, U7, U8, U9, V0, V1, V2, V3, V4, V5, V6, V7, V8, V9, W0, W1, W2, W3, W4, W5, W6, W7, W8, W9, X0, X1, X2, X3, X4, X5, X6, X7, X8, X9, Y0, Y1, Y2, Y3, Y4, Y5, Y6, Y7, Y8, Y9, Z0, Z1, Z2, Z3, Z4, Z5, Z6, Z7, Z8, Z9, x0, x1, x2, x3, x4, x5, x6, x7, x8, x9, z0, z1, z2, z3, z4, z5, z6, z7], []⟩) Q0) ⟨#[A0, A1, A2, A3, A4, A5, A6, A7, A8, HF, B0, B1, B2, B3, .pointer (some ⟨b, 0, none⟩), B5, B6, .string (bs (36 :: a :: x :: d :: t)), B8, B9, C0, C1, C2, C3, C4, C5, C6, C7, C8, C9, D0, D1, D2, D3, D4, D5, D6, D7, D8, D9, E0, E1, E2, E3, E4, E5, E6, E7, E8, E9, F0, F1, F2, F3, F4, F5, F6, F7, F8, F9, G0, G1, G2, G3, G4, G5, G6, G7, G8, G9, H0, H1, H2, H3, H4, H5, H6, H7, H8, H9, I0, I1, I2, I3, I4, I5, I6, I7, I8, I9, J0, J1, J2, J3, J4, J5, J6, J7, J8, J9, K0, K1, K2, K3, K4, K5, K6, K7, K8, K9, L0, L1, L2, L3, L4, L5, L6, L7, L8, L9, M0, M1, M2, M3, M4, M5, M6, M7, M8, M9, N0, N1, N2, N3, N4, N5, N6, N7, N8, N9, O0, O1, O2, O3, O4, O5, O6, O7, O8, O9, P0, P1, P2, P3, P4, P5, P6, P7, P8, P9, R0, R1, R2, R3, R4, R5, R6, R7, R8, R9, S0, S1, S2, S3, S4, S5, S6, S7, S8, S9, T0, T1, T2, T3, T4, T5, T6, T7, T8, T9, U0, U1, U2, U3, U4, U5, U6, U7, U8, U9, V0, V1, V2, V3, V4, V5, V6, V7, V8, V9, W0, W1, W2, W3, W4, W5, W6, W7, W8, W9, X0, X1, X2, X3, X4, X5, X6, X7, X8, X9, Y0, Y1, Y2, Y3, Y4, Y5, Y6, Y7, Y8, Y9, Z0, Z1, Z2, Z3, Z4, Z5, Z6, Z7, Z8, Z9, x0, x1, x2, x3, x4, x5, x6, x7, x8, x9, z0, z1, z2, z3, z4, z5, z6, z7], []⟩ wr := by
  conv => arg 2; whnf
  have hz := bs_size (36 :: a :: x :: d :: t)
  have hmm := @run_makeMap Tryd.prog
  have hp0 := put_0 wr
  have hp1 := put_1 wr
  have hp2 := put_2 wr
  have hp3 := put_3 wr
  have hp4 := put_4 wr
  have hp5 := put_5 wr
  have hp6 := put_6 wr
  have HB := Lib.hid ((hb.alloc (Nat.le_of_lt hlb.lt) (cmap 7)))
  have ho2 : (out ++ [v]) ++ Dm.tl (t) = OUT := by subst hd; rw [← ho, Dm.tl_two _ _ v _ hv (.inl h1) h2]; simp
  have HO := Lib.hid ho2
  have HL := Lib.hid (show OUT.length + (t).length ≤ 140737488355328 by simp at hl; omega)
  have hw := Lib.hid (lbByte_calls b out v _ (hlb.alloc (cmap 7)) (by have := congrArg List.length ho2; simp at this hl ⊢; omega))
  have n0 : (((36 : UInt8).toNat : Int) == 36) = true := rfl
  have i0 : (bs (36 :: a :: x :: d :: t))[0]'(by rw [hz]; simp) = 36 := rfl
  have i1 : (bs (36 :: a :: x :: d :: t))[1]'(by rw [hz]; simp) = a := rfl
  have i2 : (bs (36 :: a :: x :: d :: t))[2]'(by rw [hz]; simp) = x := rfl
  have i3 : (bs (36 :: a :: x :: d :: t))[3]'(by rw [hz]; simp) = d := rfl
  have ly0 : (0 : Int) < (t.length : Int) + 1 + 1 + 1 + 1 := by omega
  have lz0 : (0 : Int) < ((bs (36 :: a :: x :: d :: t)).size : Int) := by rw [hz]; simp <;> omega
  have ly2 : (2 : Int) < (t.length : Int) + 1 + 1 + 1 + 1 := by omega
  have lz2 : (2 : Int) < ((bs (36 :: a :: x :: d :: t)).size : Int) := by rw [hz]; simp <;> omega
  have ly3 : (3 : Int) < (t.length : Int) + 1 + 1 + 1 + 1 := by omega
  have lz3 : (3 : Int) < ((bs (36 :: a :: x :: d :: t)).size : Int) := by rw [hz]; simp <;> omega
  have n1 : ((a.toNat : Int) == 67) = false := u8_ne (d := 67) h1
  have n2 : ((a.toNat : Int) == 117) = false := u8_ne (d := 117) h2
  have n3 : ((d.toNat : Int) == 36) = true := u8_eq (d := 36) hd
  have hk : (bs (36 :: a :: x :: d :: t)).extract 1 3 = bs [a, x] := by rw [bs_extract_to]; rfl
  have rl : codeRes a x = .tuple #[.int .u8 v.toNat, .bool true] := by unfold codeRes; rw [hv]
  have hlk := look_code wr.heap.size (wr.alloc (cmap 7)) (heap_alloc_new wr _) a x
  have hxs : (bs (36 :: a :: x :: d :: t)).extract 4 (t.length + 1 + 1 + 1 + 1) = bs (t) := by have := bs_extract (36 :: a :: x :: d :: t) 4; exact this
  have hn : 4 ≤ (36 :: a :: x :: d :: t).length := by simp
  have hni : (4 : Int) ≤ ((36 :: a :: x :: d :: t).length : Int) := by simp <;> omega
  clear hlb hb ho ho2 hl hv h1 h2 hd
  go_wp2_with (first | (go_at_call 94; refine hw.out.mono ?_; rintro e w1 ⟨rfl, hlb1, hb1⟩))
  all_goals refine ⟨?_, ?_⟩
  all_goals try rw [hxs]
  all_goals first
    | exact ⟨_, _, _, _, _, _, _, _, _, _, _, _, _, _, _, _, _, _, _, _, _, _, _, _, _, _, _, _, _, _, _, _, _, _, _, _, _, _, _, _, _, _, _, _, _, _, _, _, _, _, _, _, _, _, _, _, _, _, _, _, _, _, _, _, _, _, _, _, _, _, _, _, _, _, _, _, _, _, _, _, _, _, _, _, _, _, _, _, _, _, _, _, _, _, _, _, _, _, _, _, _, _, _, _, _, _, _, _, _, _, _, _, _, _, _, _, _, _, _, _, _, _, _, _, _, t, out ++ [v], ⟨hlb1, HB.out.trans hb1, HO.out, HL.out⟩, rfl⟩
    | (show (bs (t)).size < (bs (36 :: a :: x :: d :: t)).size
       rw [bs_size, bs_size]
       simp <;> omega)
end
end Go.Proofs.YtpmlnhddkbgefaaDoor
namespace Go.Proofs.YtpmlnhddkbgefaaDoor
set_option linter.unusedVariables false
set_option linter.unusedSimpArgs false
open Go.RowKit
section
variable {b : Nat} {w0 : World} {OUT : List UInt8} {A0 A1 A2 A3 A4 A5 A6 A7 A8 B0 B1 B2 B3 B5 B6 C8 C9 D0 D1 D2 D3 D4 D5 D6 D7 D8 D9 E0 E1 E2 E3 E4 E5 E6 E7 E8 E9 F0 F1 F2 F3 F4 F5 F6 F7 F8 F9 G0 G1 G2 G3 G4 G5 G6 G7 G8 G9 H0 H1 H2 H3 H4 H5 H6 H7 H8 H9 I0 I1 I2 I3 I4 I5 I6 I7 I8 I9 J0 J1 J2 J3 J4 J5 J6 J7 J8 J9 K0 K1 K2 K3 K4 K5 K6 K7 K8 K9 L0 L1 L2 L3 L4 L5 L6 L7 L8 L9 M0 M1 M2 M3 M4 M5 M6 M7 M8 M9 N0 N1 N2 N3 N4 N5 N6 N7 N8 N9 x5 x6 x7 x8 x9 z0 z1 z2 z3 z4 z5 z6 z7 : Value}
set_option maxHeartbeats 4000000 in
set_option maxRecDepth 1000000 in
theorem esc_b1 (a x d : UInt8) (t out : List UInt8) (wr : World) (B8 B9 C0 C1 C2 C3 C4 C5 C6 C7 O0 O1 O2 O3 O4 O5 O6 O7 O8 O9 P0 P1 P2 P3 P4 P5 P6 P7 P8 P9 R0 R1 R2 R3 R4 R5 R6 R7 R8 R9 S0 S1 S2 S3 S4 S5 S6 S7 S8 S9 T0 T1 T2 T3 T4 T5 T6 T7 T8 T9 U0 U1 U2 U3 U4 U5 U6 U7 U8 U9 V0 V1 V2 V3 V4 V5 V6 V7 V8 V9 W0 W1 W2 W3 W4 W5 W6 W7 W8 W9 X0 X1 X2 X3 X4 X5 X6 X7 X8 X9 Y0 Y1 Y2 Y3 Y4 Y5 Y6 Y7 Y8 Y9 Z0 Z1 Z2 Z3 Z4 Z5 Z6 Z7 Z8 Z9 x0 x1 x2 x3 x4 : Value) (Q0 : Exit → Act → World → Prop) (hv : Dm.code2 a x = none) (h1 : a ≠ 67) (h2 : a ≠ 117) (hd : d = 36) (hlb : LB b out wr) (hb : Below b w0 wr) (ho : out ++ Dm.tl (36 :: a :: x :: d :: t) = OUT) (hl : OUT.length + (36 :: a :: x :: d :: t).length ≤ 140737488355328) (hexit : ∀ a' w'', EscX b w0 OUT A0 A1 A2 A3 A4 A5 A6 A7 A8 B0 B1 B2 B3 B5 B6 C8 C9 D0 D1 D2 D3 D4 D5 D6 D7 D8 D9 E0 E1 E2 E3 E4 E5 E6 E7 E8 E9 F0 F1 F2 F3 F4 F5 F6 F7 F8 F9 G0 G1 G2 G3 G4 G5 G6 G7 G8 G9 H0 H1 H2 H3 H4 H5 H6 H7 H8 H9 I0 I1 I2 I3 I4 I5 I6 I7 I8 I9 J0 J1 J2 J3 J4 J5 J6 J7 J8 J9 K0 K1 K2 K3 K4 K5 K6 K7 K8 K9 L0 L1 L2 L3 L4 L5 L6 L7 L8 L9 M0 M1 M2 M3 M4 M5 M6 M7 M8 M9 N0 N1 N2 N3 N4 N5 N6 N7 N8 N9 x5 x6 x7 x8 x9 z0 z1 z2 z3 z4 z5 z6 z7 a' w'' → Q0 (.exit 8) a' w'') :
    Code.wp Tryd.prog escBody (Exit.then (fun a' w'' => EscI b w0 OUT A0 A1 A2 A3 A4 A5 A6 A7 A8 B0 B1 B2 B3 B5 B6 C8 C9 D0 D1 D2 D3 D4 D5 D6 D7 D8 D9 E0 E1 E2 E3 E4 E5 E6 E7 E8 E9 F0 F1 F2 F3 F4 F5 F6 F7 F8 F9 G0 G1 G2 G3 G4 G5 G6 G7 G8 G9 H0 H1 H2 H3 H4 H5 H6 H7 H8 H9 I0 I1 I2 I3 I4 I5 I6 I7 I8 I9 J0 J1 J2 J3 J4 J5 J6 J7 J8 J9 K0 K1 K2 K3 K4 K5 K6 K7 K8 K9 L0 L1 L2 L3 L4 L5 L6 L7 L8 L9 M0 M1 M2 M3 M4 M5 M6 M7 M8 M9 N0 N1 N2 N3 N4 N5 N6 N7 N8 N9 x5 x6 x7 x8 x9 z0 z1 z2 z3 z4 z5 z6 z7 a' w'' ∧ escMu a' < escMu ⟨#[A0, A1, A2, A3, A4, A5, A6, A7, A8, HF, B0, B1, B2, B3, .pointer (some ⟨b, 0, none⟩), B5, B6, .string (bs (36 :: a :: x :: d :: t)), B8, B9, C0, C1, C2, C3, C4, C5, C6, C7, C8, C9, D0, D1, D2, D3, D4, D5, D6, D7, D8, D9, E0, E1, E2, E3, E4, E5, E6, E7, E8, E9, F0, F1, F2, F3, F4, F5, F6, F7, F8, F9, G0, G1, G2, G3, G4, G5, G6, G7, G8, G9, H0, H1, H2, H3, H4, H5, H6, H7, H8, H9, I0, I1, I2, I3, I4, I5, I6, I7, I8, I9, J0, J1, J2, J3, J4, J5, J6, J7, J8, J9, K0, K1, K2, K3, K4, K5, K6, K7, K8, K9, L0, L1, L2, L3, L4, L5, L6, L7, L8, L9, M0, M1, M2, M3, M4, M5, M6, M7, M8, M9, N0, N1, N2, N3, N4, N5, N6, N7, N8, N9, O0, O1, O2, O3, O4, O5, O6, O7, O8, O9, P0, P1, P2, P3, P4, P5, P6, P7, P8, P9, R0, R1, R2, R3, R4, R5, R6, R7, R8, R9, S0, S1, S2, S3, S4, S5, S6, S7, S8, S9, T0, T1, T2, T3, T4, T5, T6, T7, T8, T9, U0, U1, U2, U3, U4, U5, U6, U7, U8, U9, V0, V1, V2, V3, V4, V5, V6, V7, V8, V9, W0, W1, W2, W3, W4, W5, W6, W7, W8, W9, X0, X1, X2, X3, X4, X5, X6, X7, X8, X9, Y0, Y1, Y2, Y3, Y4, Y5, Y6, Y7, Y8, Y9, Z0, Z1, Z2, Z3, Z4, Z5, Z6, Z7, Z8, Z9, x0, x1, x2, x3, x4, x5, x6, x7, x8, x9, z0, z1, z2, z3, z4, z5, z6, z7], []⟩) Q0) ⟨#[A0, A1, A2, A3, A4, A5, A6, A7, A8, HF, B0, B1, B2, B3, .pointer (some ⟨b, 0, none⟩), B5, B6, .string (bs (36 :: a :: x :: d :: t)), B8, B9, C0, C1, C2, C3, C4, C5, C6, C7, C8, C9, D0, D1, D2, D3, D4, D5, D6, D7, D8, D9, E0, E1, E2, E3, E4, E5, E6, E7, E8, E9, F0, F1, F2, F3, F4, F5, F6, F7, F8, F9, G0, G1, G2, G3, G4, G5, G6, G7, G8, G9, H0, H1, H2, H3, H4, H5, H6, H7, H8, H9, I0, I1, I2, I3, I4, I5, I6, I7, I8, I9, J0, J1, J2, J3, J4, J5, J6, J7, J8, J9, K0, K1, K2, K3, K4, K5, K6, K7, K8, K9, L0, L1, L2, L3, L4, L5, L6, L7, L8, L9, M0, M1, M2, M3, M4, M5, M6, M7, M8, M9, N0, N1, N2, N3, N4, N5, N6, N7, N8, N9, O0, O1, O2, O3, O4, O5, O6, O7, O8, O9, P0, P1, P2, P3, P4, P5, P6, P7, P8, P9, R0, R1, R2, R3, R4, R5, R6, R7, R8, R9, S0, S1, S2, S3, S4, S5, S6, S7, S8, S9, T0, T1, T2, T3, T4, T5, T6, T7, T8, T9, U0, U1, U2, U3, U4, U5, U6, U7, U8, U9, V0, V1, V2, V3, V4, V5, V6, V7, V8, V9, W0, W1, W2, W3, W4, W5, W6, W7, W8, W9, X0, X1, X2, X3, X4, X5, X6, X7, X8, X9, Y0, Y1, Y2, Y3, Y4, Y5, Y6, Y7, Y8, Y9, Z0, Z1, Z2, Z3, Z4, Z5, Z6, Z7, Z8, Z9, x0, x1, x2, x3, x4, x5, x6, x7, x8, x9, z0, z1, z2, z3, z4, z5, z6, z7], []⟩ wr := by
  conv => arg 2; whnf
  have hz := bs_size (36 :: a :: x :: d :: t)
  have hmm := @run_makeMap Tryd.prog
  have hp0 := put_0 wr
  have hp1 := put_1 wr
  have hp2 := put_2 wr
  have hp3 := put_3 wr
  have hp4 := put_4 wr
  have hp5 := put_5 wr
  have hp6 := put_6 wr
  have HB := Lib.hid ((hb.alloc (Nat.le_of_lt hlb.lt) (cmap 7)))
  have ho2 : out ++ (36 :: a :: x :: d :: t) = OUT := by rw [← ho, Dm.tl_none (by simp [Dm.escStep, hv, h1, h2, hd])]
  have HO := Lib.hid ho2
  have hw := Lib.hid (lbString_calls b out (36 :: a :: x :: d :: t) _ (hlb.alloc (cmap 7)) (by have := congrArg List.length ho2; simp at this hl ⊢; omega))
  have n0 : (((36 : UInt8).toNat : Int) == 36) = true := rfl
  have i0 : (bs (36 :: a :: x :: d :: t))[0]'(by rw [hz]; simp) = 36 := rfl
  have i1 : (bs (36 :: a :: x :: d :: t))[1]'(by rw [hz]; simp) = a := rfl
  have i2 : (bs (36 :: a :: x :: d :: t))[2]'(by rw [hz]; simp) = x := rfl
  have i3 : (bs (36 :: a :: x :: d :: t))[3]'(by rw [hz]; simp) = d := rfl
  have ly0 : (0 : Int) < (t.length : Int) + 1 + 1 + 1 + 1 := by omega
  have lz0 : (0 : Int) < ((bs (36 :: a :: x :: d :: t)).size : Int) := by rw [hz]; simp <;> omega
  have ly2 : (2 : Int) < (t.length : Int) + 1 + 1 + 1 + 1 := by omega
  have lz2 : (2 : Int) < ((bs (36 :: a :: x :: d :: t)).size : Int) := by rw [hz]; simp <;> omega
  have ly3 : (3 : Int) < (t.length : Int) + 1 + 1 + 1 + 1 := by omega
  have lz3 : (3 : Int) < ((bs (36 :: a :: x :: d :: t)).size : Int) := by rw [hz]; simp <;> omega
  have n1 : ((a.toNat : Int) == 67) = false := u8_ne (d := 67) h1
  have n2 : ((a.toNat : Int) == 117) = false := u8_ne (d := 117) h2
  have n3 : ((d.toNat : Int) == 36) = true := u8_eq (d := 36) hd
  have hk : (bs (36 :: a :: x :: d :: t)).extract 1 3 = bs [a, x] := by rw [bs_extract_to]; rfl
  have rl : codeRes a x = .tuple #[.int .u8 0, .bool false] := by unfold codeRes; rw [hv]
  have hlk := look_code wr.heap.size (wr.alloc (cmap 7)) (heap_alloc_new wr _) a x
  clear hlb hb ho ho2 hl hv h1 h2 hd
  go_wp2_with (first | (go_at_call 73; refine hw.out.mono ?_; rintro e w1 ⟨⟨nn, rfl⟩, hlb1, hb1⟩))
  all_goals unfold EscX
  all_goals exact ⟨_, _, _, _, _, _, _, _, _, _, _, _, _, _, _, _, _, _, _, _, _, _, _, _, _, _, _, _, _, _, _, _, _, _, _, _, _, _, _, _, _, _, _, _, _, _, _, _, _, _, _, _, _, _, _, _, _, _, _, _, _, _, _, _, _, _, _, _, _, _, _, _, _, _, _, _, _, _, _, _, _, _, _, _, _, _, _, _, _, _, _, _, _, _, _, _, _, _, _, _, _, _, _, _, _, _, _, _, _, _, _, _, _, _, _, _, _, _, _, _, _, _, _, _, _, _, ⟨by have := HO.out; rwa [this] at hlb1, HB.out.trans hb1⟩, rfl⟩
set_option maxHeartbeats 4000000 in
set_option maxRecDepth 1000000 in
theorem esc_n1 (a x d : UInt8) (t out : List UInt8) (wr : World) (B8 B9 C0 C1 C2 C3 C4 C5 C6 C7 O0 O1 O2 O3 O4 O5 O6 O7 O8 O9 P0 P1 P2 P3 P4 P5 P6 P7 P8 P9 R0 R1 R2 R3 R4 R5 R6 R7 R8 R9 S0 S1 S2 S3 S4 S5 S6 S7 S8 S9 T0 T1 T2 T3 T4 T5 T6 T7 T8 T9 U0 U1 U2 U3 U4 U5 U6 U7 U8 U9 V0 V1 V2 V3 V4 V5 V6 V7 V8 V9 W0 W1 W2 W3 W4 W5 W6 W7 W8 W9 X0 X1 X2 X3 X4 X5 X6 X7 X8 X9 Y0 Y1 Y2 Y3 Y4 Y5 Y6 Y7 Y8 Y9 Z0 Z1 Z2 Z3 Z4 Z5 Z6 Z7 Z8 Z9 x0 x1 x2 x3 x4 : Value) (Q0 : Exit → Act → World → Prop) (h1 : a ≠ 67) (h2 : a ≠ 117) (hd : d ≠ 36) (hlb : LB b out wr) (hb : Below b w0 wr) (ho : out ++ Dm.tl (36 :: a :: x :: d :: t) = OUT) (hl : OUT.length + (36 :: a :: x :: d :: t).length ≤ 140737488355328) (hexit : ∀ a' w'', EscX b w0 OUT A0 A1 A2 A3 A4 A5 A6 A7 A8 B0 B1 B2 B3 B5 B6 C8 C9 D0 D1 D2 D3 D4 D5 D6 D7 D8 D9 E0 E1 E2 E3 E4 E5 E6 E7 E8 E9 F0 F1 F2 F3 F4 F5 F6 F7 F8 F9 G0 G1 G2 G3 G4 G5 G6 G7 G8 G9 H0 H1 H2 H3 H4 H5 H6 H7 H8 H9 I0 I1 I2 I3 I4 I5 I6 I7 I8 I9 J0 J1 J2 J3 J4 J5 J6 J7 J8 J9 K0 K1 K2 K3 K4 K5 K6 K7 K8 K9 L0 L1 L2 L3 L4 L5 L6 L7 L8 L9 M0 M1 M2 M3 M4 M5 M6 M7 M8 M9 N0 N1 N2 N3 N4 N5 N6 N7 N8 N9 x5 x6 x7 x8 x9 z0 z1 z2 z3 z4 z5 z6 z7 a' w'' → Q0 (.exit 8) a' w'') :
    Code.wp Tryd.prog escBody (Exit.then (fun a' w'' => EscI b w0 OUT A0 A1 A2 A3 A4 A5 A6 A7 A8 B0 B1 B2 B3 B5 B6 C8 C9 D0 D1 D2 D3 D4 D5 D6 D7 D8 D9 E0 E1 E2 E3 E4 E5 E6 E7 E8 E9 F0 F1 F2 F3 F4 F5 F6 F7 F8 F9 G0 G1 G2 G3 G4 G5 G6 G7 G8 G9 H0 H1 H2 H3 H4 H5 H6 H7 H8 H9 I0 I1 I2 I3 I4 I5 I6 I7 I8 I9 J0 J1 J2 J3 J4 J5 J6 J7 J8 J9 K0 K1 K2 K3 K4 K5 K6 K7 K8 K9 L0 L1 L2 L3 L4 L5 L6 L7 L8 L9 M0 M1 M2 M3 M4 M5 M6 M7 M8 M9 N0 N1 N2 N3 N4 N5 N6 N7 N8 N9 x5 x6 x7 x8 x9 z0 z1 z2 z3 z4 z5 z6 z7 a' w'' ∧ escMu a' < escMu ⟨#[A0, A1, A2, A3, A4, A5, A6, A7, A8, HF, B0, B1, B2, B3, .pointer (some ⟨b, 0, none⟩), B5, B6, .string (bs (36 :: a :: x :: d :: t)), B8, B9, C0, C1, C2, C3, C4, C5, C6, C7, C8, C9, D0, D1, D2, D3, D4, D5, D6, D7, D8, D9, E0, E1, E2, E3, E4, E5, E6, E7, E8, E9, F0, F1, F2, F3, F4, F5, F6, F7, F8, F9, G0, G1, G2, G3, G4, G5, G6, G7, G8, G9, H0, H1, H2, H3, H4, H5, H6, H7, H8, H9, I0, I1, I2, I3, I4, I5, I6, I7, I8, I9, J0, J1, J2, J3, J4, J5, J6, J7, J8, J9, K0, K1, K2, K3, K4, K5, K6, K7, K8, K9, L0, L1, L2, L3, L4, L5, L6, L7, L8, L9, M0, M1, M2, M3, M4, M5, M6, M7, M8, M9, N0, N1, N2, N3, N4, N5, N6, N7, N8, N9, O0, O1, O2, O3, O4, O5, O6, O7, O8, O9, P0, P1, P2, P3, P4, P5, P6, P7, P8, P9, R0, R1, R2, R3, R4, R5, R6, R7, R8, R9, S0, S1, S2, S3, S4, S5, S6, S7, S8, S9, T0, T1, T2, T3, T4, T5, T6, T7, T8, T9, U0, U1, U2, U3, U4, U5, U6, U7, U8, U9, V0, V1, V2, V3, V4, V5, V6, V7, V8, V9, W0, W1, W2, W3, W4, W5, W6, W7, W8, W9, X0, X1, X2, X3, X4, X5, X6, X7, X8, X9, Y0, Y1, Y2, Y3, Y4, Y5, Y6, Y7, Y8, Y9, Z0, Z1, Z2, Z3, Z4, Z5, Z6, Z7, Z8, Z9, x0, x1, x2, x3, x4, x5, x6, x7, x8, x9, z0, z1, z2, z3, z4, z5, z6, z7], []⟩) Q0) ⟨#[A0, A1, A2, A3, A4, A5, A6, A7, A8, HF, B0, B1, B2, B3, .pointer (some ⟨b, 0, none⟩), B5, B6, .string (bs (36 :: a :: x :: d :: t)), B8, B9, C0, C1, C2, C3, C4, C5, C6, C7, C8, C9, D0, D1, D2, D3, D4, D5, D6, D7, D8, D9, E0, E1, E2, E3, E4, E5, E6, E7, E8, E9, F0, F1, F2, F3, F4, F5, F6, F7, F8, F9, G0, G1, G2, G3, G4, G5, G6, G7, G8, G9, H0, H1, H2, H3, H4, H5, H6, H7, H8, H9, I0, I1, I2, I3, I4, I5, I6, I7, I8, I9, J0, J1, J2, J3, J4, J5, J6, J7, J8, J9, K0, K1, K2, K3, K4, K5, K6, K7, K8, K9, L0, L1, L2, L3, L4, L5, L6, L7, L8, L9, M0, M1, M2, M3, M4, M5, M6, M7, M8, M9, N0, N1, N2, N3, N4, N5, N6, N7, N8, N9, O0, O1, O2, O3, O4, O5, O6, O7, O8, O9, P0, P1, P2, P3, P4, P5, P6, P7, P8, P9, R0, R1, R2, R3, R4, R5, R6, R7, R8, R9, S0, S1, S2, S3, S4, S5, S6, S7, S8, S9, T0, T1, T2, T3, T4, T5, T6, T7, T8, T9, U0, U1, U2, U3, U4, U5, U6, U7, U8, U9, V0, V1, V2, V3, V4, V5, V6, V7, V8, V9, W0, W1, W2, W3, W4, W5, W6, W7, W8, W9, X0, X1, X2, X3, X4, X5, X6, X7, X8, X9, Y0, Y1, Y2, Y3, Y4, Y5, Y6, Y7, Y8, Y9, Z0, Z1, Z2, Z3, Z4, Z5, Z6, Z7, Z8, Z9, x0, x1, x2, x3, x4, x5, x6, x7, x8, x9, z0, z1, z2, z3, z4, z5, z6, z7], []⟩ wr := by
  conv => arg 2; whnf
  have hz := bs_size (36 :: a :: x :: d :: t)
  have hmm := @run_makeMap Tryd.prog
  have hp0 := put_0 wr
  have hp1 := put_1 wr
  have hp2 := put_2 wr
  have hp3 := put_3 wr
  have hp4 := put_4 wr
  have hp5 := put_5 wr
  have hp6 := put_6 wr
  have HB := Lib.hid ((hb.alloc (Nat.le_of_lt hlb.lt) (cmap 7)))
  have ho2 : out ++ (36 :: a :: x :: d :: t) = OUT := by rw [← ho, Dm.tl_none (by simp [Dm.escStep, h1, h2, hd])]
  have HO := Lib.hid ho2
  have hw := Lib.hid (lbString_calls b out (36 :: a :: x :: d :: t) _ (hlb.alloc (cmap 7)) (by have := congrArg List.length ho2; simp at this hl ⊢; omega))
  have n0 : (((36 : UInt8).toNat : Int) == 36) = true := rfl
  have i0 : (bs (36 :: a :: x :: d :: t))[0]'(by rw [hz]; simp) = 36 := rfl
  have i1 : (bs (36 :: a :: x :: d :: t))[1]'(by rw [hz]; simp) = a := rfl
  have i2 : (bs (36 :: a :: x :: d :: t))[2]'(by rw [hz]; simp) = x := rfl
  have i3 : (bs (36 :: a :: x :: d :: t))[3]'(by rw [hz]; simp) = d := rfl
  have ly0 : (0 : Int) < (t.length : Int) + 1 + 1 + 1 + 1 := by omega
  have lz0 : (0 : Int) < ((bs (36 :: a :: x :: d :: t)).size : Int) := by rw [hz]; simp <;> omega
  have ly2 : (2 : Int) < (t.length : Int) + 1 + 1 + 1 + 1 := by omega
  have lz2 : (2 : Int) < ((bs (36 :: a :: x :: d :: t)).size : Int) := by rw [hz]; simp <;> omega
  have ly3 : (3 : Int) < (t.length : Int) + 1 + 1 + 1 + 1 := by omega
  have lz3 : (3 : Int) < ((bs (36 :: a :: x :: d :: t)).size : Int) := by rw [hz]; simp <;> omega
  have n1 : ((a.toNat : Int) == 67) = false := u8_ne (d := 67) h1
  have n2 : ((a.toNat : Int) == 117) = false := u8_ne (d := 117) h2
  have n3 : ((d.toNat : Int) == 36) = false := u8_ne (d := 36) hd
  clear hlb hb ho ho2 hl h1 h2 hd
  go_wp2_with (first | (go_at_call 73; refine hw.out.mono ?_; rintro e w1 ⟨⟨nn, rfl⟩, hlb1, hb1⟩))
  all_goals unfold EscX
  all_goals exact ⟨_, _, _, _, _, _, _, _, _, _, _, _, _, _, _, _, _, _, _, _, _, _, _, _, _, _, _, _, _, _, _, _, _, _, _, _, _, _, _, _, _, _, _, _, _, _, _, _, _, _, _, _, _, _, _, _, _, _, _, _, _, _, _, _, _, _, _, _, _, _, _, _, _, _, _, _, _, _, _, _, _, _, _, _, _, _, _, _, _, _, _, _, _, _, _, _, _, _, _, _, _, _, _, _, _, _, _, _, _, _, _, _, _, _, _, _, _, _, _, _, _, _, _, _, _, _, ⟨by have := HO.out; rwa [this] at hlb1, HB.out.trans hb1⟩, rfl⟩
end
end Go.Proofs.YtpmlnhddkbgefaaDoor
namespace Go.Proofs.YtpmlnhddkbgefaaDoor
set_option linter.unusedVariables false
set_option linter.unusedSimpArgs false
open Go.RowKit
section
variable {b : Nat} {w0 : World} {OUT : List UInt8} {A0 A1 A2 A3 A4 A5 A6 A7 A8 B0 B1 B2 B3 B5 B6 C8 C9 D0 D1 D2 D3 D4 D5 D6 D7 D8 D9 E0 E1 E2 E3 E4 E5 E6 E7 E8 E9 F0 F1 F2 F3 F4 F5 F6 F7 F8 F9 G0 G1 G2 G3 G4 G5 G6 G7 G8 G9 H0 H1 H2 H3 H4 H5 H6 H7 H8 H9 I0 I1 I2 I3 I4 I5 I6 I7 I8 I9 J0 J1 J2 J3 J4 J5 J6 J7 J8 J9 K0 K1 K2 K3 K4 K5 K6 K7 K8 K9 L0 L1 L2 L3 L4 L5 L6 L7 L8 L9 M0 M1 M2 M3 M4 M5 M6 M7 M8 M9 N0 N1 N2 N3 N4 N5 N6 N7 N8 N9 x5 x6 x7 x8 x9 z0 z1 z2 z3 z4 z5 z6 z7 : Value}
set_option maxHeartbeats 4000000 in
set_option maxRecDepth 1000000 in
theorem esc_b2 (a x d : UInt8) (t out : List UInt8) (wr : World) (B8 B9 C0 C1 C2 C3 C4 C5 C6 C7 O0 O1 O2 O3 O4 O5 O6 O7 O8 O9 P0 P1 P2 P3 P4 P5 P6 P7 P8 P9 R0 R1 R2 R3 R4 R5 R6 R7 R8 R9 S0 S1 S2 S3 S4 S5 S6 S7 S8 S9 T0 T1 T2 T3 T4 T5 T6 T7 T8 T9 U0 U1 U2 U3 U4 U5 U6 U7 U8 U9 V0 V1 V2 V3 V4 V5 V6 V7 V8 V9 W0 W1 W2 W3 W4 W5 W6 W7 W8 W9 X0 X1 X2 X3 X4 X5 X6 X7 X8 X9 Y0 Y1 Y2 Y3 Y4 Y5 Y6 Y7 Y8 Y9 Z0 Z1 Z2 Z3 Z4 Z5 Z6 Z7 Z8 Z9 x0 x1 x2 x3 x4 : Value) (Q0 : Exit → Act → World → Prop) (hv : Dm.code2 a x = none) (h1 : a = 67) (h2 : x ≠ 36) (hd : d = 36) (hlb : LB b out wr) (hb : Below b w0 wr) (ho : out ++ Dm.tl (36 :: a :: x :: d :: t) = OUT) (hl : OUT.length + (36 :: a :: x :: d :: t).length ≤ 140737488355328) (hexit : ∀ a' w'', EscX b w0 OUT A0 A1 A2 A3 A4 A5 A6 A7 A8 B0 B1 B2 B3 B5 B6 C8 C9 D0 D1 D2 D3 D4 D5 D6 D7 D8 D9 E0 E1 E2 E3 E4 E5 E6 E7 E8 E9 F0 F1 F2 F3 F4 F5 F6 F7 F8 F9 G0 G1 G2 G3 G4 G5 G6 G7 G8 G9 H0 H1 H2 H3 H4 H5 H6 H7 H8 H9 I0 I1 I2 I3 I4 I5 I6 I7 I8 I9 J0 J1 J2 J3 J4 J5 J6 J7 J8 J9 K0 K1 K2 K3 K4 K5 K6 K7 K8 K9 L0 L1 L2 L3 L4 L5 L6 L7 L8 L9 M0 M1 M2 M3 M4 M5 M6 M7 M8 M9 N0 N1 N2 N3 N4 N5 N6 N7 N8 N9 x5 x6 x7 x8 x9 z0 z1 z2 z3 z4 z5 z6 z7 a' w'' → Q0 (.exit 8) a' w'') :
    Code.wp Tryd.prog escBody (Exit.then (fun a' w'' => EscI b w0 OUT A0 A1 A2 A3 A4 A5 A6 A7 A8 B0 B1 B2 B3 B5 B6 C8 C9 D0 D1 D2 D3 D4 D5 D6 D7 D8 D9 E0 E1 E2 E3 E4 E5 E6 E7 E8 E9 F0 F1 F2 F3 F4 F5 F6 F7 F8 F9 G0 G1 G2 G3 G4 G5 G6 G7 G8 G9 H0 H1 H2 H3 H4 H5 H6 H7 H8 H9 I0 I1 I2 I3 I4 I5 I6 I7 I8 I9 J0 J1 J2 J3 J4 J5 J6 J7 J8 J9 K0 K1 K2 K3 K4 K5 K6 K7 K8 K9 L0 L1 L2 L3 L4 L5 L6 L7 L8 L9 M0 M1 M2 M3 M4 M5 M6 M7 M8 M9 N0 N1 N2 N3 N4 N5 N6 N7 N8 N9 x5 x6 x7 x8 x9 z0 z1 z2 z3 z4 z5 z6 z7 a' w'' ∧ escMu a' < escMu ⟨#[A0, A1, A2, A3, A4, A5, A6, A7, A8, HF, B0, B1, B2, B3, .pointer (some ⟨b, 0, none⟩), B5, B6, .string (bs (36 :: a :: x :: d :: t)), B8, B9, C0, C1, C2, C3, C4, C5, C6, C7, C8, C9, D0, D1, D2, D3, D4, D5, D6, D7, D8, D9, E0, E1, E2, E3, E4, E5, E6, E7, E8, E9, F0, F1, F2, F3, F4, F5, F6, F7, F8, F9, G0, G1, G2, G3, G4, G5, G6, G7, G8, G9, H0, H1, H2, H3, H4, H5, H6, H7, H8, H9, I0, I1, I2, I3, I4, I5, I6, I7, I8, I9, J0, J1, J2, J3, J4, J5, J6, J7, J8, J9, K0, K1, K2, K3, K4, K5, K6, K7, K8, K9, L0, L1, L2, L3, L4, L5, L6, L7, L8, L9, M0, M1, M2, M3, M4, M5, M6, M7, M8, M9, N0, N1, N2, N3, N4, N5, N6, N7, N8, N9, O0, O1, O2, O3, O4, O5, O6, O7, O8, O9, P0, P1, P2, P3, P4, P5, P6, P7, P8, P9, R0, R1, R2, R3, R4, R5, R6, R7, R8, R9, S0, S1, S2, S3, S4, S5, S6, S7, S8, S9, T0, T1, T2, T3, T4, T5, T6, T7, T8, T9, U0, U1, U2, U3, U4, U5, U6, U7, U8, U9, V0, V1, V2, V3, V4, V5, V6, V7, V8, V9, W0, W1, W2, W3, W4, W5, W6, W7, W8, W9, X0, X1, X2, X3, X4, X5, X6, X7, X8, X9, Y0, Y1, Y2, Y3, Y4, Y5, Y6, Y7, Y8, Y9, Z0, Z1, Z2, Z3, Z4, Z5, Z6, Z7, Z8, Z9, x0, x1, x2, x3, x4, x5, x6, x7, x8, x9, z0, z1, z2, z3, z4, z5, z6, z7], []⟩) Q0) ⟨#[A0, A1, A2, A3, A4, A5, A6, A7, A8, HF, B0, B1, B2, B3, .pointer (some ⟨b, 0, none⟩), B5, B6, .string (bs (36 :: a :: x :: d :: t)), B8, B9, C0, C1, C2, C3, C4, C5, C6, C7, C8, C9, D0, D1, D2, D3, D4, D5, D6, D7, D8, D9, E0, E1, E2, E3, E4, E5, E6, E7, E8, E9, F0, F1, F2, F3, F4, F5, F6, F7, F8, F9, G0, G1, G2, G3, G4, G5, G6, G7, G8, G9, H0, H1, H2, H3, H4, H5, H6, H7, H8, H9, I0, I1, I2, I3, I4, I5, I6, I7, I8, I9, J0, J1, J2, J3, J4, J5, J6, J7, J8, J9, K0, K1, K2, K3, K4, K5, K6, K7, K8, K9, L0, L1, L2, L3, L4, L5, L6, L7, L8, L9, M0, M1, M2, M3, M4, M5, M6, M7, M8, M9, N0, N1, N2, N3, N4, N5, N6, N7, N8, N9, O0, O1, O2, O3, O4, O5, O6, O7, O8, O9, P0, P1, P2, P3, P4, P5, P6, P7, P8, P9, R0, R1, R2, R3, R4, R5, R6, R7, R8, R9, S0, S1, S2, S3, S4, S5, S6, S7, S8, S9, T0, T1, T2, T3, T4, T5, T6, T7, T8, T9, U0, U1, U2, U3, U4, U5, U6, U7, U8, U9, V0, V1, V2, V3, V4, V5, V6, V7, V8, V9, W0, W1, W2, W3, W4, W5, W6, W7, W8, W9, X0, X1, X2, X3, X4, X5, X6, X7, X8, X9, Y0, Y1, Y2, Y3, Y4, Y5, Y6, Y7, Y8, Y9, Z0, Z1, Z2, Z3, Z4, Z5, Z6, Z7, Z8, Z9, x0, x1, x2, x3, x4, x5, x6, x7, x8, x9, z0, z1, z2, z3, z4, z5, z6, z7], []⟩ wr := by
  conv => arg 2; whnf
  have hz := bs_size (36 :: a :: x :: d :: t)
  have hmm := @run_makeMap Tryd.prog
  have hp0 := put_0 wr
  have hp1 := put_1 wr
  have hp2 := put_2 wr
  have hp3 := put_3 wr
  have hp4 := put_4 wr
  have hp5 := put_5 wr
  have hp6 := put_6 wr
  have HB := Lib.hid ((hb.alloc (Nat.le_of_lt hlb.lt) (cmap 7)))
  have ho2 : out ++ (36 :: a :: x :: d :: t) = OUT := by rw [← ho, Dm.tl_none (by simp [Dm.escStep, hv, h1, h2, hd, code2_67])]
  have HO := Lib.hid ho2
  have hw := Lib.hid (lbString_calls b out (36 :: a :: x :: d :: t) _ (hlb.alloc (cmap 7)) (by have := congrArg List.length ho2; simp at this hl ⊢; omega))
  have n0 : (((36 : UInt8).toNat : Int) == 36) = true := rfl
  have i0 : (bs (36 :: a :: x :: d :: t))[0]'(by rw [hz]; simp) = 36 := rfl
  have i1 : (bs (36 :: a :: x :: d :: t))[1]'(by rw [hz]; simp) = a := rfl
  have i2 : (bs (36 :: a :: x :: d :: t))[2]'(by rw [hz]; simp) = x := rfl
  have i3 : (bs (36 :: a :: x :: d :: t))[3]'(by rw [hz]; simp) = d := rfl
  have ly0 : (0 : Int) < (t.length : Int) + 1 + 1 + 1 + 1 := by omega
  have lz0 : (0 : Int) < ((bs (36 :: a :: x :: d :: t)).size : Int) := by rw [hz]; simp <;> omega
  have ly2 : (2 : Int) < (t.length : Int) + 1 + 1 + 1 + 1 := by omega
  have lz2 : (2 : Int) < ((bs (36 :: a :: x :: d :: t)).size : Int) := by rw [hz]; simp <;> omega
  have ly3 : (3 : Int) < (t.length : Int) + 1 + 1 + 1 + 1 := by omega
  have lz3 : (3 : Int) < ((bs (36 :: a :: x :: d :: t)).size : Int) := by rw [hz]; simp <;> omega
  have n1 : ((a.toNat : Int) == 67) = true := u8_eq (d := 67) h1
  have n2 : ((x.toNat : Int) == 36) = false := u8_ne (d := 36) h2
  have n2b : ((a.toNat : Int) == 117) = false := u8_ne (d := 117) (by rw [h1]; decide)
  have n3 : ((d.toNat : Int) == 36) = true := u8_eq (d := 36) hd
  have hk : (bs (36 :: a :: x :: d :: t)).extract 1 3 = bs [a, x] := by rw [bs_extract_to]; rfl
  have rl : codeRes a x = .tuple #[.int .u8 0, .bool false] := by unfold codeRes; rw [hv]
  have hlk := look_code wr.heap.size (wr.alloc (cmap 7)) (heap_alloc_new wr _) a x
  clear hlb hb ho ho2 hl hv h1 h2 hd
  go_wp2_with (first | (go_at_call 73; refine hw.out.mono ?_; rintro e w1 ⟨⟨nn, rfl⟩, hlb1, hb1⟩))
  all_goals unfold EscX
  all_goals exact ⟨_, _, _, _, _, _, _, _, _, _, _, _, _, _, _, _, _, _, _, _, _, _, _, _, _, _, _, _, _, _, _, _, _, _, _, _, _, _, _, _, _, _, _, _, _, _, _, _, _, _, _, _, _, _, _, _, _, _, _, _, _, _, _, _, _, _, _, _, _, _, _, _, _, _, _, _, _, _, _, _, _, _, _, _, _, _, _, _, _, _, _, _, _, _, _, _, _, _, _, _, _, _, _, _, _, _, _, _, _, _, _, _, _, _, _, _, _, _, _, _, _, _, _, _, _, _, ⟨by have := HO.out; rwa [this] at hlb1, HB.out.trans hb1⟩, rfl⟩
set_option maxHeartbeats 4000000 in
set_option maxRecDepth 1000000 in
theorem esc_n2 (a x d : UInt8) (t out : List UInt8) (wr : World) (B8 B9 C0 C1 C2 C3 C4 C5 C6 C7 O0 O1 O2 O3 O4 O5 O6 O7 O8 O9 P0 P1 P2 P3 P4 P5 P6 P7 P8 P9 R0 R1 R2 R3 R4 R5 R6 R7 R8 R9 S0 S1 S2 S3 S4 S5 S6 S7 S8 S9 T0 T1 T2 T3 T4 T5 T6 T7 T8 T9 U0 U1 U2 U3 U4 U5 U6 U7 U8 U9 V0 V1 V2 V3 V4 V5 V6 V7 V8 V9 W0 W1 W2 W3 W4 W5 W6 W7 W8 W9 X0 X1 X2 X3 X4 X5 X6 X7 X8 X9 Y0 Y1 Y2 Y3 Y4 Y5 Y6 Y7 Y8 Y9 Z0 Z1 Z2 Z3 Z4 Z5 Z6 Z7 Z8 Z9 x0 x1 x2 x3 x4 : Value) (Q0 : Exit → Act → World → Prop) (h1 : a = 67) (h2 : x ≠ 36) (hd : d ≠ 36) (hlb : LB b out wr) (hb : Below b w0 wr) (ho : out ++ Dm.tl (36 :: a :: x :: d :: t) = OUT) (hl : OUT.length + (36 :: a :: x :: d :: t).length ≤ 140737488355328) (hexit : ∀ a' w'', EscX b w0 OUT A0 A1 A2 A3 A4 A5 A6 A7 A8 B0 B1 B2 B3 B5 B6 C8 C9 D0 D1 D2 D3 D4 D5 D6 D7 D8 D9 E0 E1 E2 E3 E4 E5 E6 E7 E8 E9 F0 F1 F2 F3 F4 F5 F6 F7 F8 F9 G0 G1 G2 G3 G4 G5 G6 G7 G8 G9 H0 H1 H2 H3 H4 H5 H6 H7 H8 H9 I0 I1 I2 I3 I4 I5 I6 I7 I8 I9 J0 J1 J2 J3 J4 J5 J6 J7 J8 J9 K0 K1 K2 K3 K4 K5 K6 K7 K8 K9 L0 L1 L2 L3 L4 L5 L6 L7 L8 L9 M0 M1 M2 M3 M4 M5 M6 M7 M8 M9 N0 N1 N2 N3 N4 N5 N6 N7 N8 N9 x5 x6 x7 x8 x9 z0 z1 z2 z3 z4 z5 z6 z7 a' w'' → Q0 (.exit 8) a' w'') :
    Code.wp Tryd.prog escBody (Exit.then (fun a' w'' => EscI b w0 OUT A0 A1 A2 A3 A4 A5 A6 A7 A8 B0 B1 B2 B3 B5 B6 C8 C9 D0 D1 D2 D3 D4 D5 D6 D7 D8 D9 E0 E1 E2 E3 E4 E5 E6 E7 E8 E9 F0 F1 F2 F3 F4 F5 F6 F7 F8 F9 G0 G1 G2 G3 G4 G5 G6 G7 G8 G9 H0 H1 H2 H3 H4 H5 H6 H7 H8 H9 I0 I1 I2 I3 I4 I5 I6 I7 I8 I9 J0 J1 J2 J3 J4 J5 J6 J7 J8 J9 K0 K1 K2 K3 K4 K5 K6 K7 K8 K9 L0 L1 L2 L3 L4 L5 L6 L7 L8 L9 M0 M1 M2 M3 M4 M5 M6 M7 M8 M9 N0 N1 N2 N3 N4 N5 N6 N7 N8 N9 x5 x6 x7 x8 x9 z0 z1 z2 z3 z4 z5 z6 z7 a' w'' ∧ escMu a' < escMu ⟨#[A0, A1, A2, A3, A4, A5, A6, A7, A8, HF, B0, B1, B2, B3, .pointer (some ⟨b, 0, none⟩), B5, B6, .string (bs (36 :: a :: x :: d :: t)), B8, B9, C0, C1, C2, C3, C4, C5, C6, C7, C8, C9, D0, D1, D2, D3, D4, D5, D6, D7, D8, D9, E0, E1, E2, E3, E4, E5, E6, E7, E8, E9, F0, F1, F2, F3, F4, F5, F6, F7, F8, F9, G0, G1, G2, G3, G4, G5, G6, G7, G8, G9, H0, H1, H2, H3, H4, H5, H6, H7, H8, H9, I0, I1, I2, I3, I4, I5, I6, I7, I8, I9, J0, J1, J2, J3, J4, J5, J6, J7, J8, J9, K0, K1, K2, K3, K4, K5, K6, K7, K8, K9, L0, L1, L2, L3, L4, L5, L6, L7, L8, L9, M0, M1, M2, M3, M4, M5, M6, M7, M8, M9, N0, N1, N2, N3, N4, N5, N6, N7, N8, N9, O0, O1, O2, O3, O4, O5, O6, O7, O8, O9, P0, P1, P2, P3, P4, P5, P6, P7, P8, P9, R0, R1, R2, R3, R4, R5, R6, R7, R8, R9, S0, S1, S2, S3, S4, S5, S6, S7, S8, S9, T0, T1, T2, T3, T4, T5, T6, T7, T8, T9, U0, U1, U2, U3, U4, U5, U6, U7, U8, U9, V0, V1, V2, V3, V4, V5, V6, V7, V8, V9, W0, W1, W2, W3, W4, W5, W6, W7, W8, W9, X0, X1, X2, X3, X4, X5, X6, X7, X8, X9, Y0, Y1, Y2, Y3, Y4, Y5, Y6, Y7, Y8, Y9, Z0, Z1, Z2, Z3, Z4, Z5, Z6, Z7, Z8, Z9, x0, x1, x2, x3, x4, x5, x6, x7, x8, x9, z0, z1, z2, z3, z4, z5, z6, z7], []⟩) Q0) ⟨#[A0, A1, A2, A3, A4, A5, A6, A7, A8, HF, B0, B1, B2, B3, .pointer (some ⟨b, 0, none⟩), B5, B6, .string (bs (36 :: a :: x :: d :: t)), B8, B9, C0, C1, C2, C3, C4, C5, C6, C7, C8, C9, D0, D1, D2, D3, D4, D5, D6, D7, D8, D9, E0, E1, E2, E3, E4, E5, E6, E7, E8, E9, F0, F1, F2, F3, F4, F5, F6, F7, F8, F9, G0, G1, G2, G3, G4, G5, G6, G7, G8, G9, H0, H1, H2, H3, H4, H5, H6, H7, H8, H9, I0, I1, I2, I3, I4, I5, I6, I7, I8, I9, J0, J1, J2, J3, J4, J5, J6, J7, J8, J9, K0, K1, K2, K3, K4, K5, K6, K7, K8, K9, L0, L1, L2, L3, L4, L5, L6, L7, L8, L9, M0, M1, M2, M3, M4, M5, M6, M7, M8, M9, N0, N1, N2, N3, N4, N5, N6, N7, N8, N9, O0, O1, O2, O3, O4, O5, O6, O7, O8, O9, P0, P1, P2, P3, P4, P5, P6, P7, P8, P9, R0, R1, R2, R3, R4, R5, R6, R7, R8, R9, S0, S1, S2, S3, S4, S5, S6, S7, S8, S9, T0, T1, T2, T3, T4, T5, T6, T7, T8, T9, U0, U1, U2, U3, U4, U5, U6, U7, U8, U9, V0, V1, V2, V3, V4, V5, V6, V7, V8, V9, W0, W1, W2, W3, W4, W5, W6, W7, W8, W9, X0, X1, X2, X3, X4, X5, X6, X7, X8, X9, Y0, Y1, Y2, Y3, Y4, Y5, Y6, Y7, Y8, Y9, Z0, Z1, Z2, Z3, Z4, Z5, Z6, Z7, Z8, Z9, x0, x1, x2, x3, x4, x5, x6, x7, x8, x9, z0, z1, z2, z3, z4, z5, z6, z7], []⟩ wr := by
  conv => arg 2; whnf
  have hz := bs_size (36 :: a :: x :: d :: t)
  have hmm := @run_makeMap Tryd.prog
  have hp0 := put_0 wr
  have hp1 := put_1 wr
  have hp2 := put_2 wr
  have hp3 := put_3 wr
  have hp4 := put_4 wr
  have hp5 := put_5 wr
  have hp6 := put_6 wr
  have HB := Lib.hid ((hb.alloc (Nat.le_of_lt hlb.lt) (cmap 7)))
  have ho2 : out ++ (36 :: a :: x :: d :: t) = OUT := by rw [← ho, Dm.tl_none (by simp [Dm.escStep, h1, h2, hd])]
  have HO := Lib.hid ho2
  have hw := Lib.hid (lbString_calls b out (36 :: a :: x :: d :: t) _ (hlb.alloc (cmap 7)) (by have := congrArg List.length ho2; simp at this hl ⊢; omega))
  have n0 : (((36 : UInt8).toNat : Int) == 36) = true := rfl
  have i0 : (bs (36 :: a :: x :: d :: t))[0]'(by rw [hz]; simp) = 36 := rfl
  have i1 : (bs (36 :: a :: x :: d :: t))[1]'(by rw [hz]; simp) = a := rfl
  have i2 : (bs (36 :: a :: x :: d :: t))[2]'(by rw [hz]; simp) = x := rfl
  have i3 : (bs (36 :: a :: x :: d :: t))[3]'(by rw [hz]; simp) = d := rfl
  have ly0 : (0 : Int) < (t.length : Int) + 1 + 1 + 1 + 1 := by omega
  have lz0 : (0 : Int) < ((bs (36 :: a :: x :: d :: t)).size : Int) := by rw [hz]; simp <;> omega
  have ly2 : (2 : Int) < (t.length : Int) + 1 + 1 + 1 + 1 := by omega
  have lz2 : (2 : Int) < ((bs (36 :: a :: x :: d :: t)).size : Int) := by rw [hz]; simp <;> omega
  have ly3 : (3 : Int) < (t.length : Int) + 1 + 1 + 1 + 1 := by omega
  have lz3 : (3 : Int) < ((bs (36 :: a :: x :: d :: t)).size : Int) := by rw [hz]; simp <;> omega
  have n1 : ((a.toNat : Int) == 67) = true := u8_eq (d := 67) h1
  have n2 : ((x.toNat : Int) == 36) = false := u8_ne (d := 36) h2
  have n2b : ((a.toNat : Int) == 117) = false := u8_ne (d := 117) (by rw [h1]; decide)
  have n3 : ((d.toNat : Int) == 36) = false := u8_ne (d := 36) hd
  clear hlb hb ho ho2 hl h1 h2 hd
  go_wp2_with (first | (go_at_call 73; refine hw.out.mono ?_; rintro e w1 ⟨⟨nn, rfl⟩, hlb1, hb1⟩))
  all_goals unfold EscX
  all_goals exact ⟨_, _, _, _, _, _, _, _, _, _, _, _, _, _, _, _, _, _, _, _, _, _, _, _, _, _, _, _, _, _, _, _, _, _, _, _, _, _, _, _, _, _, _, _, _, _, _, _, _, _, _, _, _, _, _, _, _, _, _, _, _, _, _, _, _, _, _, _, _, _, _, _, _, _, _, _, _, _, _, _, _, _, _, _, _, _, _, _, _, _, _, _, _, _, _, _, _, _, _, _, _, _, _, _, _, _, _, _, _, _, _, _, _, _, _, _, _, _, _, _, _, _, _, _, _, _, ⟨by have := HO.out; rwa [this] at hlb1, HB.out.trans hb1⟩, rfl⟩
end
end Go.Proofs.YtpmlnhddkbgefaaDoor
