/- oldRustToString's loop over the escapes of a name, joined. Printed by tools/gold.py. oldRustToString's loop over the digits of a number. Printed by tools/gold3.py. Lengths of what is told of names; the builder's length and text. oldRustToString's loop over the names: its frame; the ends of a round. Printed by tools/gold4.py. oldRustToString's loop over the names: a round that reads a number. Printed by tools/gold5.py. -/
import Derived.Test.YtpmlnhddkbgefaaDoorN3
import Derived.Test.YtpmlnhddkbgefaaDoorN4
import Derived.Test.YtpmlnhddkbgefaaDoorN2
import Derived.Test.YtpmlnhddkbgefaaDoorShelfB
import Derived.WalkMore
namespace Go.Proofs.YtpmlnhddkbgefaaDoor
set_option linter.unusedVariables false
set_option linter.unusedSimpArgs false
open Go.RowKit
section
variable {b : Nat} {w0 : World} {OUT : List UInt8} {A0 A1 A2 A3 A4 A5 A6 A7 A8 B0 B1 B2 B3 B5 B6 C8 C9 D0 D1 D2 D3 D4 D5 D6 D7 D8 D9 E0 E1 E2 E3 E4 E5 E6 E7 E8 E9 F0 F1 F2 F3 F4 F5 F6 F7 F8 F9 G0 G1 G2 G3 G4 G5 G6 G7 G8 G9 H0 H1 H2 H3 H4 H5 H6 H7 H8 H9 I0 I1 I2 I3 I4 I5 I6 I7 I8 I9 J0 J1 J2 J3 J4 J5 J6 J7 J8 J9 K0 K1 K2 K3 K4 K5 K6 K7 K8 K9 L0 L1 L2 L3 L4 L5 L6 L7 L8 L9 M0 M1 M2 M3 M4 M5 M6 M7 M8 M9 N0 N1 N2 N3 N4 N5 N6 N7 N8 N9 x5 x6 x7 x8 x9 z0 z1 z2 z3 z4 z5 z6 z7 : Value}
set_option maxHeartbeats 4000000 in
set_option maxRecDepth 1000000 in
theorem esc_round (Q0 : Exit → Act → World → Prop) (a : Act) (wr : World) (hI : EscI b w0 OUT A0 A1 A2 A3 A4 A5 A6 A7 A8 B0 B1 B2 B3 B5 B6 C8 C9 D0 D1 D2 D3 D4 D5 D6 D7 D8 D9 E0 E1 E2 E3 E4 E5 E6 E7 E8 E9 F0 F1 F2 F3 F4 F5 F6 F7 F8 F9 G0 G1 G2 G3 G4 G5 G6 G7 G8 G9 H0 H1 H2 H3 H4 H5 H6 H7 H8 H9 I0 I1 I2 I3 I4 I5 I6 I7 I8 I9 J0 J1 J2 J3 J4 J5 J6 J7 J8 J9 K0 K1 K2 K3 K4 K5 K6 K7 K8 K9 L0 L1 L2 L3 L4 L5 L6 L7 L8 L9 M0 M1 M2 M3 M4 M5 M6 M7 M8 M9 N0 N1 N2 N3 N4 N5 N6 N7 N8 N9 x5 x6 x7 x8 x9 z0 z1 z2 z3 z4 z5 z6 z7 a wr) (hexit : ∀ a' w'', EscX b w0 OUT A0 A1 A2 A3 A4 A5 A6 A7 A8 B0 B1 B2 B3 B5 B6 C8 C9 D0 D1 D2 D3 D4 D5 D6 D7 D8 D9 E0 E1 E2 E3 E4 E5 E6 E7 E8 E9 F0 F1 F2 F3 F4 F5 F6 F7 F8 F9 G0 G1 G2 G3 G4 G5 G6 G7 G8 G9 H0 H1 H2 H3 H4 H5 H6 H7 H8 H9 I0 I1 I2 I3 I4 I5 I6 I7 I8 I9 J0 J1 J2 J3 J4 J5 J6 J7 J8 J9 K0 K1 K2 K3 K4 K5 K6 K7 K8 K9 L0 L1 L2 L3 L4 L5 L6 L7 L8 L9 M0 M1 M2 M3 M4 M5 M6 M7 M8 M9 N0 N1 N2 N3 N4 N5 N6 N7 N8 N9 x5 x6 x7 x8 x9 z0 z1 z2 z3 z4 z5 z6 z7 a' w'' → Q0 (.exit 8) a' w'') :
    Code.wp Tryd.prog escBody (Exit.then (fun a' w'' => EscI b w0 OUT A0 A1 A2 A3 A4 A5 A6 A7 A8 B0 B1 B2 B3 B5 B6 C8 C9 D0 D1 D2 D3 D4 D5 D6 D7 D8 D9 E0 E1 E2 E3 E4 E5 E6 E7 E8 E9 F0 F1 F2 F3 F4 F5 F6 F7 F8 F9 G0 G1 G2 G3 G4 G5 G6 G7 G8 G9 H0 H1 H2 H3 H4 H5 H6 H7 H8 H9 I0 I1 I2 I3 I4 I5 I6 I7 I8 I9 J0 J1 J2 J3 J4 J5 J6 J7 J8 J9 K0 K1 K2 K3 K4 K5 K6 K7 K8 K9 L0 L1 L2 L3 L4 L5 L6 L7 L8 L9 M0 M1 M2 M3 M4 M5 M6 M7 M8 M9 N0 N1 N2 N3 N4 N5 N6 N7 N8 N9 x5 x6 x7 x8 x9 z0 z1 z2 z3 z4 z5 z6 z7 a' w'' ∧ escMu a' < escMu a) Q0) a wr := by
  unfold EscI at hI
  obtain ⟨B8, hI⟩ := hI
  obtain ⟨B9, hI⟩ := hI
  obtain ⟨C0, hI⟩ := hI
  obtain ⟨C1, hI⟩ := hI
  obtain ⟨C2, hI⟩ := hI
  obtain ⟨C3, hI⟩ := hI
  obtain ⟨C4, hI⟩ := hI
  obtain ⟨C5, hI⟩ := hI
  obtain ⟨C6, hI⟩ := hI
  obtain ⟨C7, hI⟩ := hI
  obtain ⟨O0, hI⟩ := hI
  obtain ⟨O1, hI⟩ := hI
  obtain ⟨O2, hI⟩ := hI
  obtain ⟨O3, hI⟩ := hI
  obtain ⟨O4, hI⟩ := hI
  obtain ⟨O5, hI⟩ := hI
  obtain ⟨O6, hI⟩ := hI
  obtain ⟨O7, hI⟩ := hI
  obtain ⟨O8, hI⟩ := hI
  obtain ⟨O9, hI⟩ := hI
  obtain ⟨P0, hI⟩ := hI
  obtain ⟨P1, hI⟩ := hI
  obtain ⟨P2, hI⟩ := hI
  obtain ⟨P3, hI⟩ := hI
  obtain ⟨P4, hI⟩ := hI
  obtain ⟨P5, hI⟩ := hI
  obtain ⟨P6, hI⟩ := hI
  obtain ⟨P7, hI⟩ := hI
  obtain ⟨P8, hI⟩ := hI
  obtain ⟨P9, hI⟩ := hI
  obtain ⟨R0, hI⟩ := hI
  obtain ⟨R1, hI⟩ := hI
  obtain ⟨R2, hI⟩ := hI
  obtain ⟨R3, hI⟩ := hI
  obtain ⟨R4, hI⟩ := hI
  obtain ⟨R5, hI⟩ := hI
  obtain ⟨R6, hI⟩ := hI
  obtain ⟨R7, hI⟩ := hI
  obtain ⟨R8, hI⟩ := hI
  obtain ⟨R9, hI⟩ := hI
  obtain ⟨S0, hI⟩ := hI
  obtain ⟨S1, hI⟩ := hI
  obtain ⟨S2, hI⟩ := hI
  obtain ⟨S3, hI⟩ := hI
  obtain ⟨S4, hI⟩ := hI
  obtain ⟨S5, hI⟩ := hI
  obtain ⟨S6, hI⟩ := hI
  obtain ⟨S7, hI⟩ := hI
  obtain ⟨S8, hI⟩ := hI
  obtain ⟨S9, hI⟩ := hI
  obtain ⟨T0, hI⟩ := hI
  obtain ⟨T1, hI⟩ := hI
  obtain ⟨T2, hI⟩ := hI
  obtain ⟨T3, hI⟩ := hI
  obtain ⟨T4, hI⟩ := hI
  obtain ⟨T5, hI⟩ := hI
  obtain ⟨T6, hI⟩ := hI
  obtain ⟨T7, hI⟩ := hI
  obtain ⟨T8, hI⟩ := hI
  obtain ⟨T9, hI⟩ := hI
  obtain ⟨U0, hI⟩ := hI
  obtain ⟨U1, hI⟩ := hI
  obtain ⟨U2, hI⟩ := hI
  obtain ⟨U3, hI⟩ := hI
  obtain ⟨U4, hI⟩ := hI
  obtain ⟨U5, hI⟩ := hI
  obtain ⟨U6, hI⟩ := hI
  obtain ⟨U7, hI⟩ := hI
  obtain ⟨U8, hI⟩ := hI
  obtain ⟨U9, hI⟩ := hI
  obtain ⟨V0, hI⟩ := hI
  obtain ⟨V1, hI⟩ := hI
  obtain ⟨V2, hI⟩ := hI
  obtain ⟨V3, hI⟩ := hI
  obtain ⟨V4, hI⟩ := hI
  obtain ⟨V5, hI⟩ := hI
  obtain ⟨V6, hI⟩ := hI
  obtain ⟨V7, hI⟩ := hI
  obtain ⟨V8, hI⟩ := hI
  obtain ⟨V9, hI⟩ := hI
  obtain ⟨W0, hI⟩ := hI
  obtain ⟨W1, hI⟩ := hI
  obtain ⟨W2, hI⟩ := hI
  obtain ⟨W3, hI⟩ := hI
  obtain ⟨W4, hI⟩ := hI
  obtain ⟨W5, hI⟩ := hI
  obtain ⟨W6, hI⟩ := hI
  obtain ⟨W7, hI⟩ := hI
  obtain ⟨W8, hI⟩ := hI
  obtain ⟨W9, hI⟩ := hI
  obtain ⟨X0, hI⟩ := hI
  obtain ⟨X1, hI⟩ := hI
  obtain ⟨X2, hI⟩ := hI
  obtain ⟨X3, hI⟩ := hI
  obtain ⟨X4, hI⟩ := hI
  obtain ⟨X5, hI⟩ := hI
  obtain ⟨X6, hI⟩ := hI
  obtain ⟨X7, hI⟩ := hI
  obtain ⟨X8, hI⟩ := hI
  obtain ⟨X9, hI⟩ := hI
  obtain ⟨Y0, hI⟩ := hI
  obtain ⟨Y1, hI⟩ := hI
  obtain ⟨Y2, hI⟩ := hI
  obtain ⟨Y3, hI⟩ := hI
  obtain ⟨Y4, hI⟩ := hI
  obtain ⟨Y5, hI⟩ := hI
  obtain ⟨Y6, hI⟩ := hI
  obtain ⟨Y7, hI⟩ := hI
  obtain ⟨Y8, hI⟩ := hI
  obtain ⟨Y9, hI⟩ := hI
  obtain ⟨Z0, hI⟩ := hI
  obtain ⟨Z1, hI⟩ := hI
  obtain ⟨Z2, hI⟩ := hI
  obtain ⟨Z3, hI⟩ := hI
  obtain ⟨Z4, hI⟩ := hI
  obtain ⟨Z5, hI⟩ := hI
  obtain ⟨Z6, hI⟩ := hI
  obtain ⟨Z7, hI⟩ := hI
  obtain ⟨Z8, hI⟩ := hI
  obtain ⟨Z9, hI⟩ := hI
  obtain ⟨x0, hI⟩ := hI
  obtain ⟨x1, hI⟩ := hI
  obtain ⟨x2, hI⟩ := hI
  obtain ⟨x3, hI⟩ := hI
  obtain ⟨x4, hI⟩ := hI
  obtain ⟨id, out, ⟨hlb, hb, ho, hl⟩, rfl⟩ := hI
  rcases id with _ | ⟨c, r⟩
  · exact esc_end out wr B8 B9 C0 C1 C2 C3 C4 C5 C6 C7 O0 O1 O2 O3 O4 O5 O6 O7 O8 O9 P0 P1 P2 P3 P4 P5 P6 P7 P8 P9 R0 R1 R2 R3 R4 R5 R6 R7 R8 R9 S0 S1 S2 S3 S4 S5 S6 S7 S8 S9 T0 T1 T2 T3 T4 T5 T6 T7 T8 T9 U0 U1 U2 U3 U4 U5 U6 U7 U8 U9 V0 V1 V2 V3 V4 V5 V6 V7 V8 V9 W0 W1 W2 W3 W4 W5 W6 W7 W8 W9 X0 X1 X2 X3 X4 X5 X6 X7 X8 X9 Y0 Y1 Y2 Y3 Y4 Y5 Y6 Y7 Y8 Y9 Z0 Z1 Z2 Z3 Z4 Z5 Z6 Z7 Z8 Z9 x0 x1 x2 x3 x4 Q0 hlb hb ho hexit _
  by_cases h36 : c = 36
  · subst h36
    rcases r with _ | ⟨a, _ | ⟨x, _ | ⟨d, t⟩⟩⟩
    · exact esc_s0 [] out wr B8 B9 C0 C1 C2 C3 C4 C5 C6 C7 O0 O1 O2 O3 O4 O5 O6 O7 O8 O9 P0 P1 P2 P3 P4 P5 P6 P7 P8 P9 R0 R1 R2 R3 R4 R5 R6 R7 R8 R9 S0 S1 S2 S3 S4 S5 S6 S7 S8 S9 T0 T1 T2 T3 T4 T5 T6 T7 T8 T9 U0 U1 U2 U3 U4 U5 U6 U7 U8 U9 V0 V1 V2 V3 V4 V5 V6 V7 V8 V9 W0 W1 W2 W3 W4 W5 W6 W7 W8 W9 X0 X1 X2 X3 X4 X5 X6 X7 X8 X9 Y0 Y1 Y2 Y3 Y4 Y5 Y6 Y7 Y8 Y9 Z0 Z1 Z2 Z3 Z4 Z5 Z6 Z7 Z8 Z9 x0 x1 x2 x3 x4 Q0  hlb hb ho hl hexit
    · exact esc_s1 a [] out wr B8 B9 C0 C1 C2 C3 C4 C5 C6 C7 O0 O1 O2 O3 O4 O5 O6 O7 O8 O9 P0 P1 P2 P3 P4 P5 P6 P7 P8 P9 R0 R1 R2 R3 R4 R5 R6 R7 R8 R9 S0 S1 S2 S3 S4 S5 S6 S7 S8 S9 T0 T1 T2 T3 T4 T5 T6 T7 T8 T9 U0 U1 U2 U3 U4 U5 U6 U7 U8 U9 V0 V1 V2 V3 V4 V5 V6 V7 V8 V9 W0 W1 W2 W3 W4 W5 W6 W7 W8 W9 X0 X1 X2 X3 X4 X5 X6 X7 X8 X9 Y0 Y1 Y2 Y3 Y4 Y5 Y6 Y7 Y8 Y9 Z0 Z1 Z2 Z3 Z4 Z5 Z6 Z7 Z8 Z9 x0 x1 x2 x3 x4 Q0  hlb hb ho hl hexit
    · by_cases ha : a = 67
      · by_cases hx : x = 36
        · exact esc_comma a x [] out wr B8 B9 C0 C1 C2 C3 C4 C5 C6 C7 O0 O1 O2 O3 O4 O5 O6 O7 O8 O9 P0 P1 P2 P3 P4 P5 P6 P7 P8 P9 R0 R1 R2 R3 R4 R5 R6 R7 R8 R9 S0 S1 S2 S3 S4 S5 S6 S7 S8 S9 T0 T1 T2 T3 T4 T5 T6 T7 T8 T9 U0 U1 U2 U3 U4 U5 U6 U7 U8 U9 V0 V1 V2 V3 V4 V5 V6 V7 V8 V9 W0 W1 W2 W3 W4 W5 W6 W7 W8 W9 X0 X1 X2 X3 X4 X5 X6 X7 X8 X9 Y0 Y1 Y2 Y3 Y4 Y5 Y6 Y7 Y8 Y9 Z0 Z1 Z2 Z3 Z4 Z5 Z6 Z7 Z8 Z9 x0 x1 x2 x3 x4 Q0 ha hx hlb hb ho hl
        · exact esc_s3 a x [] out wr B8 B9 C0 C1 C2 C3 C4 C5 C6 C7 O0 O1 O2 O3 O4 O5 O6 O7 O8 O9 P0 P1 P2 P3 P4 P5 P6 P7 P8 P9 R0 R1 R2 R3 R4 R5 R6 R7 R8 R9 S0 S1 S2 S3 S4 S5 S6 S7 S8 S9 T0 T1 T2 T3 T4 T5 T6 T7 T8 T9 U0 U1 U2 U3 U4 U5 U6 U7 U8 U9 V0 V1 V2 V3 V4 V5 V6 V7 V8 V9 W0 W1 W2 W3 W4 W5 W6 W7 W8 W9 X0 X1 X2 X3 X4 X5 X6 X7 X8 X9 Y0 Y1 Y2 Y3 Y4 Y5 Y6 Y7 Y8 Y9 Z0 Z1 Z2 Z3 Z4 Z5 Z6 Z7 Z8 Z9 x0 x1 x2 x3 x4 Q0 ha hx hlb hb ho hl hexit
      · exact esc_s2 a x [] out wr B8 B9 C0 C1 C2 C3 C4 C5 C6 C7 O0 O1 O2 O3 O4 O5 O6 O7 O8 O9 P0 P1 P2 P3 P4 P5 P6 P7 P8 P9 R0 R1 R2 R3 R4 R5 R6 R7 R8 R9 S0 S1 S2 S3 S4 S5 S6 S7 S8 S9 T0 T1 T2 T3 T4 T5 T6 T7 T8 T9 U0 U1 U2 U3 U4 U5 U6 U7 U8 U9 V0 V1 V2 V3 V4 V5 V6 V7 V8 V9 W0 W1 W2 W3 W4 W5 W6 W7 W8 W9 X0 X1 X2 X3 X4 X5 X6 X7 X8 X9 Y0 Y1 Y2 Y3 Y4 Y5 Y6 Y7 Y8 Y9 Z0 Z1 Z2 Z3 Z4 Z5 Z6 Z7 Z8 Z9 x0 x1 x2 x3 x4 Q0 ha hlb hb ho hl hexit
    · by_cases ha : a = 67
      · by_cases hx : x = 36
        · exact esc_comma a x (d :: t) out wr B8 B9 C0 C1 C2 C3 C4 C5 C6 C7 O0 O1 O2 O3 O4 O5 O6 O7 O8 O9 P0 P1 P2 P3 P4 P5 P6 P7 P8 P9 R0 R1 R2 R3 R4 R5 R6 R7 R8 R9 S0 S1 S2 S3 S4 S5 S6 S7 S8 S9 T0 T1 T2 T3 T4 T5 T6 T7 T8 T9 U0 U1 U2 U3 U4 U5 U6 U7 U8 U9 V0 V1 V2 V3 V4 V5 V6 V7 V8 V9 W0 W1 W2 W3 W4 W5 W6 W7 W8 W9 X0 X1 X2 X3 X4 X5 X6 X7 X8 X9 Y0 Y1 Y2 Y3 Y4 Y5 Y6 Y7 Y8 Y9 Z0 Z1 Z2 Z3 Z4 Z5 Z6 Z7 Z8 Z9 x0 x1 x2 x3 x4 Q0 ha hx hlb hb ho hl
        · by_cases hd : d = 36
          · exact esc_b2 a x d t out wr B8 B9 C0 C1 C2 C3 C4 C5 C6 C7 O0 O1 O2 O3 O4 O5 O6 O7 O8 O9 P0 P1 P2 P3 P4 P5 P6 P7 P8 P9 R0 R1 R2 R3 R4 R5 R6 R7 R8 R9 S0 S1 S2 S3 S4 S5 S6 S7 S8 S9 T0 T1 T2 T3 T4 T5 T6 T7 T8 T9 U0 U1 U2 U3 U4 U5 U6 U7 U8 U9 V0 V1 V2 V3 V4 V5 V6 V7 V8 V9 W0 W1 W2 W3 W4 W5 W6 W7 W8 W9 X0 X1 X2 X3 X4 X5 X6 X7 X8 X9 Y0 Y1 Y2 Y3 Y4 Y5 Y6 Y7 Y8 Y9 Z0 Z1 Z2 Z3 Z4 Z5 Z6 Z7 Z8 Z9 x0 x1 x2 x3 x4 Q0 (by rw [ha]; exact code2_67 x) ha hx hd hlb hb ho hl hexit
          · exact esc_n2 a x d t out wr B8 B9 C0 C1 C2 C3 C4 C5 C6 C7 O0 O1 O2 O3 O4 O5 O6 O7 O8 O9 P0 P1 P2 P3 P4 P5 P6 P7 P8 P9 R0 R1 R2 R3 R4 R5 R6 R7 R8 R9 S0 S1 S2 S3 S4 S5 S6 S7 S8 S9 T0 T1 T2 T3 T4 T5 T6 T7 T8 T9 U0 U1 U2 U3 U4 U5 U6 U7 U8 U9 V0 V1 V2 V3 V4 V5 V6 V7 V8 V9 W0 W1 W2 W3 W4 W5 W6 W7 W8 W9 X0 X1 X2 X3 X4 X5 X6 X7 X8 X9 Y0 Y1 Y2 Y3 Y4 Y5 Y6 Y7 Y8 Y9 Z0 Z1 Z2 Z3 Z4 Z5 Z6 Z7 Z8 Z9 x0 x1 x2 x3 x4 Q0 ha hx hd hlb hb ho hl hexit
      · by_cases h7 : a = 117
        · rcases t with _ | ⟨e, t⟩
          · by_cases hd : d = 36
            · exact esc_b3 a x d [] out wr B8 B9 C0 C1 C2 C3 C4 C5 C6 C7 O0 O1 O2 O3 O4 O5 O6 O7 O8 O9 P0 P1 P2 P3 P4 P5 P6 P7 P8 P9 R0 R1 R2 R3 R4 R5 R6 R7 R8 R9 S0 S1 S2 S3 S4 S5 S6 S7 S8 S9 T0 T1 T2 T3 T4 T5 T6 T7 T8 T9 U0 U1 U2 U3 U4 U5 U6 U7 U8 U9 V0 V1 V2 V3 V4 V5 V6 V7 V8 V9 W0 W1 W2 W3 W4 W5 W6 W7 W8 W9 X0 X1 X2 X3 X4 X5 X6 X7 X8 X9 Y0 Y1 Y2 Y3 Y4 Y5 Y6 Y7 Y8 Y9 Z0 Z1 Z2 Z3 Z4 Z5 Z6 Z7 Z8 Z9 x0 x1 x2 x3 x4 Q0 (by rw [h7]; exact code2_117 x) h7 hd hlb hb ho hl hexit
            · exact esc_n3 a x d [] out wr B8 B9 C0 C1 C2 C3 C4 C5 C6 C7 O0 O1 O2 O3 O4 O5 O6 O7 O8 O9 P0 P1 P2 P3 P4 P5 P6 P7 P8 P9 R0 R1 R2 R3 R4 R5 R6 R7 R8 R9 S0 S1 S2 S3 S4 S5 S6 S7 S8 S9 T0 T1 T2 T3 T4 T5 T6 T7 T8 T9 U0 U1 U2 U3 U4 U5 U6 U7 U8 U9 V0 V1 V2 V3 V4 V5 V6 V7 V8 V9 W0 W1 W2 W3 W4 W5 W6 W7 W8 W9 X0 X1 X2 X3 X4 X5 X6 X7 X8 X9 Y0 Y1 Y2 Y3 Y4 Y5 Y6 Y7 Y8 Y9 Z0 Z1 Z2 Z3 Z4 Z5 Z6 Z7 Z8 Z9 x0 x1 x2 x3 x4 Q0 h7 hd hlb hb ho hl hexit
          · by_cases he : e = 36
            · cases hp : Dm.hexd x with
              | none =>
                obtain ⟨q, o2, hq⟩ := hexRes_form d
                exact esc_h1 a x d e t out wr B8 B9 C0 C1 C2 C3 C4 C5 C6 C7 O0 O1 O2 O3 O4 O5 O6 O7 O8 O9 P0 P1 P2 P3 P4 P5 P6 P7 P8 P9 R0 R1 R2 R3 R4 R5 R6 R7 R8 R9 S0 S1 S2 S3 S4 S5 S6 S7 S8 S9 T0 T1 T2 T3 T4 T5 T6 T7 T8 T9 U0 U1 U2 U3 U4 U5 U6 U7 U8 U9 V0 V1 V2 V3 V4 V5 V6 V7 V8 V9 W0 W1 W2 W3 W4 W5 W6 W7 W8 W9 X0 X1 X2 X3 X4 X5 X6 X7 X8 X9 Y0 Y1 Y2 Y3 Y4 Y5 Y6 Y7 Y8 Y9 Z0 Z1 Z2 Z3 Z4 Z5 Z6 Z7 Z8 Z9 x0 x1 x2 x3 x4 Q0 h7 he q o2 hp hq hlb hb ho hl hexit
              | some p =>
                cases hq : Dm.hexd d with
                | none => exact esc_h2 a x d e t out wr B8 B9 C0 C1 C2 C3 C4 C5 C6 C7 O0 O1 O2 O3 O4 O5 O6 O7 O8 O9 P0 P1 P2 P3 P4 P5 P6 P7 P8 P9 R0 R1 R2 R3 R4 R5 R6 R7 R8 R9 S0 S1 S2 S3 S4 S5 S6 S7 S8 S9 T0 T1 T2 T3 T4 T5 T6 T7 T8 T9 U0 U1 U2 U3 U4 U5 U6 U7 U8 U9 V0 V1 V2 V3 V4 V5 V6 V7 V8 V9 W0 W1 W2 W3 W4 W5 W6 W7 W8 W9 X0 X1 X2 X3 X4 X5 X6 X7 X8 X9 Y0 Y1 Y2 Y3 Y4 Y5 Y6 Y7 Y8 Y9 Z0 Z1 Z2 Z3 Z4 Z5 Z6 Z7 Z8 Z9 x0 x1 x2 x3 x4 Q0 h7 he p hp hq hlb hb ho hl hexit
                | some q =>
                  by_cases h1 : 7 < p
                  · exact esc_h3 a x d e t out wr B8 B9 C0 C1 C2 C3 C4 C5 C6 C7 O0 O1 O2 O3 O4 O5 O6 O7 O8 O9 P0 P1 P2 P3 P4 P5 P6 P7 P8 P9 R0 R1 R2 R3 R4 R5 R6 R7 R8 R9 S0 S1 S2 S3 S4 S5 S6 S7 S8 S9 T0 T1 T2 T3 T4 T5 T6 T7 T8 T9 U0 U1 U2 U3 U4 U5 U6 U7 U8 U9 V0 V1 V2 V3 V4 V5 V6 V7 V8 V9 W0 W1 W2 W3 W4 W5 W6 W7 W8 W9 X0 X1 X2 X3 X4 X5 X6 X7 X8 X9 Y0 Y1 Y2 Y3 Y4 Y5 Y6 Y7 Y8 Y9 Z0 Z1 Z2 Z3 Z4 Z5 Z6 Z7 Z8 Z9 x0 x1 x2 x3 x4 Q0 h7 he p q hp hq h1 hlb hb ho hl hexit
                  · by_cases h2 : p * 16 + q < 32
                    · exact esc_h4 a x d e t out wr B8 B9 C0 C1 C2 C3 C4 C5 C6 C7 O0 O1 O2 O3 O4 O5 O6 O7 O8 O9 P0 P1 P2 P3 P4 P5 P6 P7 P8 P9 R0 R1 R2 R3 R4 R5 R6 R7 R8 R9 S0 S1 S2 S3 S4 S5 S6 S7 S8 S9 T0 T1 T2 T3 T4 T5 T6 T7 T8 T9 U0 U1 U2 U3 U4 U5 U6 U7 U8 U9 V0 V1 V2 V3 V4 V5 V6 V7 V8 V9 W0 W1 W2 W3 W4 W5 W6 W7 W8 W9 X0 X1 X2 X3 X4 X5 X6 X7 X8 X9 Y0 Y1 Y2 Y3 Y4 Y5 Y6 Y7 Y8 Y9 Z0 Z1 Z2 Z3 Z4 Z5 Z6 Z7 Z8 Z9 x0 x1 x2 x3 x4 Q0 h7 he p q hp hq h1 h2 hlb hb ho hl hexit
                    · exact esc_hex a x d e t out wr B8 B9 C0 C1 C2 C3 C4 C5 C6 C7 O0 O1 O2 O3 O4 O5 O6 O7 O8 O9 P0 P1 P2 P3 P4 P5 P6 P7 P8 P9 R0 R1 R2 R3 R4 R5 R6 R7 R8 R9 S0 S1 S2 S3 S4 S5 S6 S7 S8 S9 T0 T1 T2 T3 T4 T5 T6 T7 T8 T9 U0 U1 U2 U3 U4 U5 U6 U7 U8 U9 V0 V1 V2 V3 V4 V5 V6 V7 V8 V9 W0 W1 W2 W3 W4 W5 W6 W7 W8 W9 X0 X1 X2 X3 X4 X5 X6 X7 X8 X9 Y0 Y1 Y2 Y3 Y4 Y5 Y6 Y7 Y8 Y9 Z0 Z1 Z2 Z3 Z4 Z5 Z6 Z7 Z8 Z9 x0 x1 x2 x3 x4 Q0 h7 he p q hp hq (by rintro (h | h); (exact h1 h); exact h2 h) hlb hb ho hl
            · by_cases hd : d = 36
              · exact esc_b4 a x d e t out wr B8 B9 C0 C1 C2 C3 C4 C5 C6 C7 O0 O1 O2 O3 O4 O5 O6 O7 O8 O9 P0 P1 P2 P3 P4 P5 P6 P7 P8 P9 R0 R1 R2 R3 R4 R5 R6 R7 R8 R9 S0 S1 S2 S3 S4 S5 S6 S7 S8 S9 T0 T1 T2 T3 T4 T5 T6 T7 T8 T9 U0 U1 U2 U3 U4 U5 U6 U7 U8 U9 V0 V1 V2 V3 V4 V5 V6 V7 V8 V9 W0 W1 W2 W3 W4 W5 W6 W7 W8 W9 X0 X1 X2 X3 X4 X5 X6 X7 X8 X9 Y0 Y1 Y2 Y3 Y4 Y5 Y6 Y7 Y8 Y9 Z0 Z1 Z2 Z3 Z4 Z5 Z6 Z7 Z8 Z9 x0 x1 x2 x3 x4 Q0 (by rw [h7]; exact code2_117 x) h7 hd he hlb hb ho hl hexit
              · exact esc_n4 a x d e t out wr B8 B9 C0 C1 C2 C3 C4 C5 C6 C7 O0 O1 O2 O3 O4 O5 O6 O7 O8 O9 P0 P1 P2 P3 P4 P5 P6 P7 P8 P9 R0 R1 R2 R3 R4 R5 R6 R7 R8 R9 S0 S1 S2 S3 S4 S5 S6 S7 S8 S9 T0 T1 T2 T3 T4 T5 T6 T7 T8 T9 U0 U1 U2 U3 U4 U5 U6 U7 U8 U9 V0 V1 V2 V3 V4 V5 V6 V7 V8 V9 W0 W1 W2 W3 W4 W5 W6 W7 W8 W9 X0 X1 X2 X3 X4 X5 X6 X7 X8 X9 Y0 Y1 Y2 Y3 Y4 Y5 Y6 Y7 Y8 Y9 Z0 Z1 Z2 Z3 Z4 Z5 Z6 Z7 Z8 Z9 x0 x1 x2 x3 x4 Q0 h7 hd he hlb hb ho hl hexit
        · by_cases hd : d = 36
          · cases hv : Dm.code2 a x with
            | some v => exact esc_code1 a x d v t out wr B8 B9 C0 C1 C2 C3 C4 C5 C6 C7 O0 O1 O2 O3 O4 O5 O6 O7 O8 O9 P0 P1 P2 P3 P4 P5 P6 P7 P8 P9 R0 R1 R2 R3 R4 R5 R6 R7 R8 R9 S0 S1 S2 S3 S4 S5 S6 S7 S8 S9 T0 T1 T2 T3 T4 T5 T6 T7 T8 T9 U0 U1 U2 U3 U4 U5 U6 U7 U8 U9 V0 V1 V2 V3 V4 V5 V6 V7 V8 V9 W0 W1 W2 W3 W4 W5 W6 W7 W8 W9 X0 X1 X2 X3 X4 X5 X6 X7 X8 X9 Y0 Y1 Y2 Y3 Y4 Y5 Y6 Y7 Y8 Y9 Z0 Z1 Z2 Z3 Z4 Z5 Z6 Z7 Z8 Z9 x0 x1 x2 x3 x4 Q0 hv ha h7 hd hlb hb ho hl
            | none => exact esc_b1 a x d t out wr B8 B9 C0 C1 C2 C3 C4 C5 C6 C7 O0 O1 O2 O3 O4 O5 O6 O7 O8 O9 P0 P1 P2 P3 P4 P5 P6 P7 P8 P9 R0 R1 R2 R3 R4 R5 R6 R7 R8 R9 S0 S1 S2 S3 S4 S5 S6 S7 S8 S9 T0 T1 T2 T3 T4 T5 T6 T7 T8 T9 U0 U1 U2 U3 U4 U5 U6 U7 U8 U9 V0 V1 V2 V3 V4 V5 V6 V7 V8 V9 W0 W1 W2 W3 W4 W5 W6 W7 W8 W9 X0 X1 X2 X3 X4 X5 X6 X7 X8 X9 Y0 Y1 Y2 Y3 Y4 Y5 Y6 Y7 Y8 Y9 Z0 Z1 Z2 Z3 Z4 Z5 Z6 Z7 Z8 Z9 x0 x1 x2 x3 x4 Q0 hv ha h7 hd hlb hb ho hl hexit
          · exact esc_n1 a x d t out wr B8 B9 C0 C1 C2 C3 C4 C5 C6 C7 O0 O1 O2 O3 O4 O5 O6 O7 O8 O9 P0 P1 P2 P3 P4 P5 P6 P7 P8 P9 R0 R1 R2 R3 R4 R5 R6 R7 R8 R9 S0 S1 S2 S3 S4 S5 S6 S7 S8 S9 T0 T1 T2 T3 T4 T5 T6 T7 T8 T9 U0 U1 U2 U3 U4 U5 U6 U7 U8 U9 V0 V1 V2 V3 V4 V5 V6 V7 V8 V9 W0 W1 W2 W3 W4 W5 W6 W7 W8 W9 X0 X1 X2 X3 X4 X5 X6 X7 X8 X9 Y0 Y1 Y2 Y3 Y4 Y5 Y6 Y7 Y8 Y9 Z0 Z1 Z2 Z3 Z4 Z5 Z6 Z7 Z8 Z9 x0 x1 x2 x3 x4 Q0 ha h7 hd hlb hb ho hl hexit
  · by_cases h46 : c = 46
    · subst h46
      rcases r with _ | ⟨x, t⟩
      · exact esc_dot [] out wr B8 B9 C0 C1 C2 C3 C4 C5 C6 C7 O0 O1 O2 O3 O4 O5 O6 O7 O8 O9 P0 P1 P2 P3 P4 P5 P6 P7 P8 P9 R0 R1 R2 R3 R4 R5 R6 R7 R8 R9 S0 S1 S2 S3 S4 S5 S6 S7 S8 S9 T0 T1 T2 T3 T4 T5 T6 T7 T8 T9 U0 U1 U2 U3 U4 U5 U6 U7 U8 U9 V0 V1 V2 V3 V4 V5 V6 V7 V8 V9 W0 W1 W2 W3 W4 W5 W6 W7 W8 W9 X0 X1 X2 X3 X4 X5 X6 X7 X8 X9 Y0 Y1 Y2 Y3 Y4 Y5 Y6 Y7 Y8 Y9 Z0 Z1 Z2 Z3 Z4 Z5 Z6 Z7 Z8 Z9 x0 x1 x2 x3 x4 Q0 (by simp) hlb hb ho hl
      · by_cases hx : x = 46
        · subst hx
          exact esc_dots t out wr B8 B9 C0 C1 C2 C3 C4 C5 C6 C7 O0 O1 O2 O3 O4 O5 O6 O7 O8 O9 P0 P1 P2 P3 P4 P5 P6 P7 P8 P9 R0 R1 R2 R3 R4 R5 R6 R7 R8 R9 S0 S1 S2 S3 S4 S5 S6 S7 S8 S9 T0 T1 T2 T3 T4 T5 T6 T7 T8 T9 U0 U1 U2 U3 U4 U5 U6 U7 U8 U9 V0 V1 V2 V3 V4 V5 V6 V7 V8 V9 W0 W1 W2 W3 W4 W5 W6 W7 W8 W9 X0 X1 X2 X3 X4 X5 X6 X7 X8 X9 Y0 Y1 Y2 Y3 Y4 Y5 Y6 Y7 Y8 Y9 Z0 Z1 Z2 Z3 Z4 Z5 Z6 Z7 Z8 Z9 x0 x1 x2 x3 x4 Q0 hlb hb ho hl
        · exact esc_dot (x :: t) out wr B8 B9 C0 C1 C2 C3 C4 C5 C6 C7 O0 O1 O2 O3 O4 O5 O6 O7 O8 O9 P0 P1 P2 P3 P4 P5 P6 P7 P8 P9 R0 R1 R2 R3 R4 R5 R6 R7 R8 R9 S0 S1 S2 S3 S4 S5 S6 S7 S8 S9 T0 T1 T2 T3 T4 T5 T6 T7 T8 T9 U0 U1 U2 U3 U4 U5 U6 U7 U8 U9 V0 V1 V2 V3 V4 V5 V6 V7 V8 V9 W0 W1 W2 W3 W4 W5 W6 W7 W8 W9 X0 X1 X2 X3 X4 X5 X6 X7 X8 X9 Y0 Y1 Y2 Y3 Y4 Y5 Y6 Y7 Y8 Y9 Z0 Z1 Z2 Z3 Z4 Z5 Z6 Z7 Z8 Z9 x0 x1 x2 x3 x4 Q0 (by simpa using hx) hlb hb ho hl
    · exact esc_char c r out wr B8 B9 C0 C1 C2 C3 C4 C5 C6 C7 O0 O1 O2 O3 O4 O5 O6 O7 O8 O9 P0 P1 P2 P3 P4 P5 P6 P7 P8 P9 R0 R1 R2 R3 R4 R5 R6 R7 R8 R9 S0 S1 S2 S3 S4 S5 S6 S7 S8 S9 T0 T1 T2 T3 T4 T5 T6 T7 T8 T9 U0 U1 U2 U3 U4 U5 U6 U7 U8 U9 V0 V1 V2 V3 V4 V5 V6 V7 V8 V9 W0 W1 W2 W3 W4 W5 W6 W7 W8 W9 X0 X1 X2 X3 X4 X5 X6 X7 X8 X9 Y0 Y1 Y2 Y3 Y4 Y5 Y6 Y7 Y8 Y9 Z0 Z1 Z2 Z3 Z4 Z5 Z6 Z7 Z8 Z9 x0 x1 x2 x3 x4 Q0 h36 h46 hlb hb ho hl
set_option maxHeartbeats 4000000 in
set_option maxRecDepth 1000000 in
theorem esc_loop (id out : List UInt8) (wr : World) (B8 B9 C0 C1 C2 C3 C4 C5 C6 C7 O0 O1 O2 O3 O4 O5 O6 O7 O8 O9 P0 P1 P2 P3 P4 P5 P6 P7 P8 P9 R0 R1 R2 R3 R4 R5 R6 R7 R8 R9 S0 S1 S2 S3 S4 S5 S6 S7 S8 S9 T0 T1 T2 T3 T4 T5 T6 T7 T8 T9 U0 U1 U2 U3 U4 U5 U6 U7 U8 U9 V0 V1 V2 V3 V4 V5 V6 V7 V8 V9 W0 W1 W2 W3 W4 W5 W6 W7 W8 W9 X0 X1 X2 X3 X4 X5 X6 X7 X8 X9 Y0 Y1 Y2 Y3 Y4 Y5 Y6 Y7 Y8 Y9 Z0 Z1 Z2 Z3 Z4 Z5 Z6 Z7 Z8 Z9 x0 x1 x2 x3 x4 : Value) (Q0 : Exit → Act → World → Prop) (hlb : LB b out wr) (hb : Below b w0 wr) (ho : out ++ Dm.tl id = OUT) (hl : OUT.length + id.length ≤ 140737488355328) (hexit : ∀ a' w'', EscX b w0 OUT A0 A1 A2 A3 A4 A5 A6 A7 A8 B0 B1 B2 B3 B5 B6 C8 C9 D0 D1 D2 D3 D4 D5 D6 D7 D8 D9 E0 E1 E2 E3 E4 E5 E6 E7 E8 E9 F0 F1 F2 F3 F4 F5 F6 F7 F8 F9 G0 G1 G2 G3 G4 G5 G6 G7 G8 G9 H0 H1 H2 H3 H4 H5 H6 H7 H8 H9 I0 I1 I2 I3 I4 I5 I6 I7 I8 I9 J0 J1 J2 J3 J4 J5 J6 J7 J8 J9 K0 K1 K2 K3 K4 K5 K6 K7 K8 K9 L0 L1 L2 L3 L4 L5 L6 L7 L8 L9 M0 M1 M2 M3 M4 M5 M6 M7 M8 M9 N0 N1 N2 N3 N4 N5 N6 N7 N8 N9 x5 x6 x7 x8 x9 z0 z1 z2 z3 z4 z5 z6 z7 a' w'' → Q0 (.exit 8) a' w'') :
    Code.wp Tryd.prog (Code.loop escBody) Q0 ⟨#[A0, A1, A2, A3, A4, A5, A6, A7, A8, HF, B0, B1, B2, B3, .pointer (some ⟨b, 0, none⟩), B5, B6, .string (bs id), B8, B9, C0, C1, C2, C3, C4, C5, C6, C7, C8, C9, D0, D1, D2, D3, D4, D5, D6, D7, D8, D9, E0, E1, E2, E3, E4, E5, E6, E7, E8, E9, F0, F1, F2, F3, F4, F5, F6, F7, F8, F9, G0, G1, G2, G3, G4, G5, G6, G7, G8, G9, H0, H1, H2, H3, H4, H5, H6, H7, H8, H9, I0, I1, I2, I3, I4, I5, I6, I7, I8, I9, J0, J1, J2, J3, J4, J5, J6, J7, J8, J9, K0, K1, K2, K3, K4, K5, K6, K7, K8, K9, L0, L1, L2, L3, L4, L5, L6, L7, L8, L9, M0, M1, M2, M3, M4, M5, M6, M7, M8, M9, N0, N1, N2, N3, N4, N5, N6, N7, N8, N9, O0, O1, O2, O3, O4, O5, O6, O7, O8, O9, P0, P1, P2, P3, P4, P5, P6, P7, P8, P9, R0, R1, R2, R3, R4, R5, R6, R7, R8, R9, S0, S1, S2, S3, S4, S5, S6, S7, S8, S9, T0, T1, T2, T3, T4, T5, T6, T7, T8, T9, U0, U1, U2, U3, U4, U5, U6, U7, U8, U9, V0, V1, V2, V3, V4, V5, V6, V7, V8, V9, W0, W1, W2, W3, W4, W5, W6, W7, W8, W9, X0, X1, X2, X3, X4, X5, X6, X7, X8, X9, Y0, Y1, Y2, Y3, Y4, Y5, Y6, Y7, Y8, Y9, Z0, Z1, Z2, Z3, Z4, Z5, Z6, Z7, Z8, Z9, x0, x1, x2, x3, x4, x5, x6, x7, x8, x9, z0, z1, z2, z3, z4, z5, z6, z7], []⟩ wr := by
  refine wp_loop (fun a w => EscI b w0 OUT A0 A1 A2 A3 A4 A5 A6 A7 A8 B0 B1 B2 B3 B5 B6 C8 C9 D0 D1 D2 D3 D4 D5 D6 D7 D8 D9 E0 E1 E2 E3 E4 E5 E6 E7 E8 E9 F0 F1 F2 F3 F4 F5 F6 F7 F8 F9 G0 G1 G2 G3 G4 G5 G6 G7 G8 G9 H0 H1 H2 H3 H4 H5 H6 H7 H8 H9 I0 I1 I2 I3 I4 I5 I6 I7 I8 I9 J0 J1 J2 J3 J4 J5 J6 J7 J8 J9 K0 K1 K2 K3 K4 K5 K6 K7 K8 K9 L0 L1 L2 L3 L4 L5 L6 L7 L8 L9 M0 M1 M2 M3 M4 M5 M6 M7 M8 M9 N0 N1 N2 N3 N4 N5 N6 N7 N8 N9 x5 x6 x7 x8 x9 z0 z1 z2 z3 z4 z5 z6 z7 a w) (fun a _ => escMu a) ?_ (fun a w hI => esc_round Q0 a w hI hexit)
  unfold EscI
  exact ⟨_, _, _, _, _, _, _, _, _, _, _, _, _, _, _, _, _, _, _, _, _, _, _, _, _, _, _, _, _, _, _, _, _, _, _, _, _, _, _, _, _, _, _, _, _, _, _, _, _, _, _, _, _, _, _, _, _, _, _, _, _, _, _, _, _, _, _, _, _, _, _, _, _, _, _, _, _, _, _, _, _, _, _, _, _, _, _, _, _, _, _, _, _, _, _, _, _, _, _, _, _, _, _, _, _, _, _, _, _, _, _, _, _, _, _, _, _, _, _, _, _, _, _, _, _, id, out, ⟨hlb, hb, ho, hl⟩, rfl⟩
end
end Go.Proofs.YtpmlnhddkbgefaaDoor
namespace Go.Proofs.YtpmlnhddkbgefaaDoor
set_option linter.unusedVariables false
set_option linter.unusedSimpArgs false
open Go.RowKit
noncomputable def digBody : Code := oldLoops.getD 3 .skip
section
variable {w0 : World} {X : Option (Int × List UInt8)} {A1 A2 A3 A4 A5 A6 A7 A8 A9 B0 B1 B2 B3 B4 B7 B8 B9 C0 C1 C2 C3 C4 C5 C6 C7 C8 C9 D0 D1 D2 D3 D4 D5 D6 D7 D8 D9 E0 E1 E2 E3 E4 E5 E6 E7 E8 E9 F0 F1 F2 F3 F4 F5 F6 F7 F8 F9 G0 G1 G2 G3 G4 G5 G6 G7 G8 G9 H0 H1 H2 H3 H4 H5 H6 H7 H8 H9 I0 I1 I2 I3 I4 I5 I6 I7 L1 L2 L3 L4 L5 L6 L7 L8 L9 M0 M1 M2 M3 M4 M5 M6 M7 M8 M9 N0 N1 N2 N3 N4 N5 N6 N7 N8 N9 O0 O1 O2 O3 O4 O5 O6 O7 O8 O9 P0 P1 P2 P3 P4 P5 P6 P7 P8 P9 R0 R1 R2 R3 R4 R5 R6 R7 R8 R9 S0 S1 S2 S3 S4 S5 S6 S7 S8 S9 T0 T1 T2 T3 T4 T5 T6 T7 T8 T9 U0 U1 U2 U3 U4 U5 U6 U7 U8 U9 V0 V1 V2 V3 V4 V5 V6 V7 V8 V9 W0 W1 W2 W3 W4 W5 W6 W7 W8 W9 X0 X1 X2 X3 X4 X5 X6 X7 X8 X9 Y0 Y1 Y2 Y3 Y4 Y5 Y6 Y7 Y8 Y9 Z0 Z1 Z2 Z3 Z4 Z5 Z6 Z7 Z8 Z9 x0 x1 x2 x3 x4 x5 x6 x7 x8 x9 z0 z1 z2 z3 z4 z5 z6 z7 : Value}
set_option maxRecDepth 1000000 in
def DigI (w0 : World) (X : Option (Int × List UInt8)) (A1 A2 A3 A4 A5 A6 A7 A8 A9 B0 B1 B2 B3 B4 B7 B8 B9 C0 C1 C2 C3 C4 C5 C6 C7 C8 C9 D0 D1 D2 D3 D4 D5 D6 D7 D8 D9 E0 E1 E2 E3 E4 E5 E6 E7 E8 E9 F0 F1 F2 F3 F4 F5 F6 F7 F8 F9 G0 G1 G2 G3 G4 G5 G6 G7 G8 G9 H0 H1 H2 H3 H4 H5 H6 H7 H8 H9 I0 I1 I2 I3 I4 I5 I6 I7 L1 L2 L3 L4 L5 L6 L7 L8 L9 M0 M1 M2 M3 M4 M5 M6 M7 M8 M9 N0 N1 N2 N3 N4 N5 N6 N7 N8 N9 O0 O1 O2 O3 O4 O5 O6 O7 O8 O9 P0 P1 P2 P3 P4 P5 P6 P7 P8 P9 R0 R1 R2 R3 R4 R5 R6 R7 R8 R9 S0 S1 S2 S3 S4 S5 S6 S7 S8 S9 T0 T1 T2 T3 T4 T5 T6 T7 T8 T9 U0 U1 U2 U3 U4 U5 U6 U7 U8 U9 V0 V1 V2 V3 V4 V5 V6 V7 V8 V9 W0 W1 W2 W3 W4 W5 W6 W7 W8 W9 X0 X1 X2 X3 X4 X5 X6 X7 X8 X9 Y0 Y1 Y2 Y3 Y4 Y5 Y6 Y7 Y8 Y9 Z0 Z1 Z2 Z3 Z4 Z5 Z6 Z7 Z8 Z9 x0 x1 x2 x3 x4 x5 x6 x7 x8 x9 z0 z1 z2 z3 z4 z5 z6 z7 : Value) (a : Act) (w' : World) : Prop :=
  ∃ B6 I8 I9 J0 J1 J2 J3 J4 J5 J6 J7 J8 J9 K0 K1 K2 K3 K4 K5 K6 K7 K8 K9 L0 : Value, ∃ (l : List UInt8) (v : Int), (w' = w0 ∧ Dm.dec v l = X ∧ 0 ≤ v ∧ v ≤ 2147483647 ∧ l.length ≤ 4611686018427387904) ∧ a = ⟨#[.string (bs l), A1, A2, A3, A4, A5, A6, A7, A8, A9, B0, B1, B2, B3, B4, .int .i64 v, B6, B7, B8, B9, C0, C1, C2, C3, C4, C5, C6, C7, C8, C9, D0, D1, D2, D3, D4, D5, D6, D7, D8, D9, E0, E1, E2, E3, E4, E5, E6, E7, E8, E9, F0, F1, F2, F3, F4, F5, F6, F7, F8, F9, G0, G1, G2, G3, G4, G5, G6, G7, G8, G9, H0, H1, H2, H3, H4, H5, H6, H7, H8, H9, I0, I1, I2, I3, I4, I5, I6, I7, I8, I9, J0, J1, J2, J3, J4, J5, J6, J7, J8, J9, K0, K1, K2, K3, K4, K5, K6, K7, K8, K9, L0, L1, L2, L3, L4, L5, L6, L7, L8, L9, M0, M1, M2, M3, M4, M5, M6, M7, M8, M9, N0, N1, N2, N3, N4, N5, N6, N7, N8, N9, O0, O1, O2, O3, O4, O5, O6, O7, O8, O9, P0, P1, P2, P3, P4, P5, P6, P7, P8, P9, R0, R1, R2, R3, R4, R5, R6, R7, R8, R9, S0, S1, S2, S3, S4, S5, S6, S7, S8, S9, T0, T1, T2, T3, T4, T5, T6, T7, T8, T9, U0, U1, U2, U3, U4, U5, U6, U7, U8, U9, V0, V1, V2, V3, V4, V5, V6, V7, V8, V9, W0, W1, W2, W3, W4, W5, W6, W7, W8, W9, X0, X1, X2, X3, X4, X5, X6, X7, X8, X9, Y0, Y1, Y2, Y3, Y4, Y5, Y6, Y7, Y8, Y9, Z0, Z1, Z2, Z3, Z4, Z5, Z6, Z7, Z8, Z9, x0, x1, x2, x3, x4, x5, x6, x7, x8, x9, z0, z1, z2, z3, z4, z5, z6, z7], []⟩
set_option maxRecDepth 1000000 in
def DigX (w0 : World) (X : Option (Int × List UInt8)) (A1 A2 A3 A4 A5 A6 A7 A8 A9 B0 B1 B2 B3 B4 B7 B8 B9 C0 C1 C2 C3 C4 C5 C6 C7 C8 C9 D0 D1 D2 D3 D4 D5 D6 D7 D8 D9 E0 E1 E2 E3 E4 E5 E6 E7 E8 E9 F0 F1 F2 F3 F4 F5 F6 F7 F8 F9 G0 G1 G2 G3 G4 G5 G6 G7 G8 G9 H0 H1 H2 H3 H4 H5 H6 H7 H8 H9 I0 I1 I2 I3 I4 I5 I6 I7 L1 L2 L3 L4 L5 L6 L7 L8 L9 M0 M1 M2 M3 M4 M5 M6 M7 M8 M9 N0 N1 N2 N3 N4 N5 N6 N7 N8 N9 O0 O1 O2 O3 O4 O5 O6 O7 O8 O9 P0 P1 P2 P3 P4 P5 P6 P7 P8 P9 R0 R1 R2 R3 R4 R5 R6 R7 R8 R9 S0 S1 S2 S3 S4 S5 S6 S7 S8 S9 T0 T1 T2 T3 T4 T5 T6 T7 T8 T9 U0 U1 U2 U3 U4 U5 U6 U7 U8 U9 V0 V1 V2 V3 V4 V5 V6 V7 V8 V9 W0 W1 W2 W3 W4 W5 W6 W7 W8 W9 X0 X1 X2 X3 X4 X5 X6 X7 X8 X9 Y0 Y1 Y2 Y3 Y4 Y5 Y6 Y7 Y8 Y9 Z0 Z1 Z2 Z3 Z4 Z5 Z6 Z7 Z8 Z9 x0 x1 x2 x3 x4 x5 x6 x7 x8 x9 z0 z1 z2 z3 z4 z5 z6 z7 : Value) (a : Act) (w' : World) : Prop :=
  ∃ B6 I8 I9 J0 J1 J2 J3 J4 J5 J6 J7 J8 J9 K0 K1 K2 K3 K4 K5 K6 K7 K8 K9 L0 : Value, ∃ (l : List UInt8) (v : Int), (w' = w0 ∧ X = some (v, l)) ∧ a = ⟨#[.string (bs l), A1, A2, A3, A4, A5, A6, A7, A8, A9, B0, B1, B2, B3, B4, .int .i64 v, B6, B7, B8, B9, C0, C1, C2, C3, C4, C5, C6, C7, C8, C9, D0, D1, D2, D3, D4, D5, D6, D7, D8, D9, E0, E1, E2, E3, E4, E5, E6, E7, E8, E9, F0, F1, F2, F3, F4, F5, F6, F7, F8, F9, G0, G1, G2, G3, G4, G5, G6, G7, G8, G9, H0, H1, H2, H3, H4, H5, H6, H7, H8, H9, I0, I1, I2, I3, I4, I5, I6, I7, I8, I9, J0, J1, J2, J3, J4, J5, J6, J7, J8, J9, K0, K1, K2, K3, K4, K5, K6, K7, K8, K9, L0, L1, L2, L3, L4, L5, L6, L7, L8, L9, M0, M1, M2, M3, M4, M5, M6, M7, M8, M9, N0, N1, N2, N3, N4, N5, N6, N7, N8, N9, O0, O1, O2, O3, O4, O5, O6, O7, O8, O9, P0, P1, P2, P3, P4, P5, P6, P7, P8, P9, R0, R1, R2, R3, R4, R5, R6, R7, R8, R9, S0, S1, S2, S3, S4, S5, S6, S7, S8, S9, T0, T1, T2, T3, T4, T5, T6, T7, T8, T9, U0, U1, U2, U3, U4, U5, U6, U7, U8, U9, V0, V1, V2, V3, V4, V5, V6, V7, V8, V9, W0, W1, W2, W3, W4, W5, W6, W7, W8, W9, X0, X1, X2, X3, X4, X5, X6, X7, X8, X9, Y0, Y1, Y2, Y3, Y4, Y5, Y6, Y7, Y8, Y9, Z0, Z1, Z2, Z3, Z4, Z5, Z6, Z7, Z8, Z9, x0, x1, x2, x3, x4, x5, x6, x7, x8, x9, z0, z1, z2, z3, z4, z5, z6, z7], []⟩
set_option maxRecDepth 1000000 in
def DigB (w0 : World) (X : Option (Int × List UInt8)) (A1 A2 A3 A4 A5 A6 A7 A8 A9 B0 B1 B2 B3 B4 B7 B8 B9 C0 C1 C2 C3 C4 C5 C6 C7 C8 C9 D0 D1 D2 D3 D4 D5 D6 D7 D8 D9 E0 E1 E2 E3 E4 E5 E6 E7 E8 E9 F0 F1 F2 F3 F4 F5 F6 F7 F8 F9 G0 G1 G2 G3 G4 G5 G6 G7 G8 G9 H0 H1 H2 H3 H4 H5 H6 H7 H8 H9 I0 I1 I2 I3 I4 I5 I6 I7 L1 L2 L3 L4 L5 L6 L7 L8 L9 M0 M1 M2 M3 M4 M5 M6 M7 M8 M9 N0 N1 N2 N3 N4 N5 N6 N7 N8 N9 O0 O1 O2 O3 O4 O5 O6 O7 O8 O9 P0 P1 P2 P3 P4 P5 P6 P7 P8 P9 R0 R1 R2 R3 R4 R5 R6 R7 R8 R9 S0 S1 S2 S3 S4 S5 S6 S7 S8 S9 T0 T1 T2 T3 T4 T5 T6 T7 T8 T9 U0 U1 U2 U3 U4 U5 U6 U7 U8 U9 V0 V1 V2 V3 V4 V5 V6 V7 V8 V9 W0 W1 W2 W3 W4 W5 W6 W7 W8 W9 X0 X1 X2 X3 X4 X5 X6 X7 X8 X9 Y0 Y1 Y2 Y3 Y4 Y5 Y6 Y7 Y8 Y9 Z0 Z1 Z2 Z3 Z4 Z5 Z6 Z7 Z8 Z9 x0 x1 x2 x3 x4 x5 x6 x7 x8 x9 z0 z1 z2 z3 z4 z5 z6 z7 : Value) (a : Act) (w' : World) : Prop :=
  ∃ B6 I8 I9 J0 J1 J2 J3 J4 J5 J6 J7 J8 J9 K0 K1 K2 K3 K4 K5 K6 K7 K8 K9 L0 A0 B5 : Value, (w' = w0 ∧ X = none) ∧ a = ⟨#[A0, A1, A2, A3, .string ⟨#[]⟩, .bool false, A6, A7, A8, A9, B0, B1, B2, B3, B4, B5, B6, B7, B8, B9, C0, C1, C2, C3, C4, C5, C6, C7, C8, C9, D0, D1, D2, D3, D4, D5, D6, D7, D8, D9, E0, E1, E2, E3, E4, E5, E6, E7, E8, E9, F0, F1, F2, F3, F4, F5, F6, F7, F8, F9, G0, G1, G2, G3, G4, G5, G6, G7, G8, G9, H0, H1, H2, H3, H4, H5, H6, H7, H8, H9, I0, I1, I2, I3, I4, I5, I6, I7, I8, I9, J0, J1, J2, J3, J4, J5, J6, J7, J8, J9, K0, K1, K2, K3, K4, K5, K6, K7, K8, K9, L0, L1, L2, L3, L4, L5, L6, L7, L8, L9, M0, M1, M2, M3, M4, M5, M6, M7, M8, M9, N0, N1, N2, N3, N4, N5, N6, N7, N8, N9, O0, O1, O2, O3, O4, O5, O6, O7, O8, O9, P0, P1, P2, P3, P4, P5, P6, P7, P8, P9, R0, R1, R2, R3, R4, R5, R6, R7, R8, R9, S0, S1, S2, S3, S4, S5, S6, S7, S8, S9, T0, T1, T2, T3, T4, T5, T6, T7, T8, T9, U0, U1, U2, U3, U4, U5, U6, U7, U8, U9, V0, V1, V2, V3, V4, V5, V6, V7, V8, V9, W0, W1, W2, W3, W4, W5, W6, W7, W8, W9, X0, X1, X2, X3, X4, X5, X6, X7, X8, X9, Y0, Y1, Y2, Y3, Y4, Y5, Y6, Y7, Y8, Y9, Z0, Z1, Z2, Z3, Z4, Z5, Z6, Z7, Z8, Z9, x0, x1, x2, x3, x4, x5, x6, x7, x8, x9, z0, z1, z2, z3, z4, z5, z6, z7], []⟩
def digMu (a : Act) : Nat := match a.tmps.getD 0 undef with | .string s => s.size | _ => 0
set_option maxHeartbeats 4000000 in
set_option maxRecDepth 1000000 in
theorem dig_nil (v : Int) (B6 I8 I9 J0 J1 J2 J3 J4 J5 J6 J7 J8 J9 K0 K1 K2 K3 K4 K5 K6 K7 K8 K9 L0 : Value) (Q0 : Exit → Act → World → Prop) (hx : Dm.dec v [] = X) (hexit : ∀ a' w'', DigX w0 X A1 A2 A3 A4 A5 A6 A7 A8 A9 B0 B1 B2 B3 B4 B7 B8 B9 C0 C1 C2 C3 C4 C5 C6 C7 C8 C9 D0 D1 D2 D3 D4 D5 D6 D7 D8 D9 E0 E1 E2 E3 E4 E5 E6 E7 E8 E9 F0 F1 F2 F3 F4 F5 F6 F7 F8 F9 G0 G1 G2 G3 G4 G5 G6 G7 G8 G9 H0 H1 H2 H3 H4 H5 H6 H7 H8 H9 I0 I1 I2 I3 I4 I5 I6 I7 L1 L2 L3 L4 L5 L6 L7 L8 L9 M0 M1 M2 M3 M4 M5 M6 M7 M8 M9 N0 N1 N2 N3 N4 N5 N6 N7 N8 N9 O0 O1 O2 O3 O4 O5 O6 O7 O8 O9 P0 P1 P2 P3 P4 P5 P6 P7 P8 P9 R0 R1 R2 R3 R4 R5 R6 R7 R8 R9 S0 S1 S2 S3 S4 S5 S6 S7 S8 S9 T0 T1 T2 T3 T4 T5 T6 T7 T8 T9 U0 U1 U2 U3 U4 U5 U6 U7 U8 U9 V0 V1 V2 V3 V4 V5 V6 V7 V8 V9 W0 W1 W2 W3 W4 W5 W6 W7 W8 W9 X0 X1 X2 X3 X4 X5 X6 X7 X8 X9 Y0 Y1 Y2 Y3 Y4 Y5 Y6 Y7 Y8 Y9 Z0 Z1 Z2 Z3 Z4 Z5 Z6 Z7 Z8 Z9 x0 x1 x2 x3 x4 x5 x6 x7 x8 x9 z0 z1 z2 z3 z4 z5 z6 z7 a' w'' → Q0 (.exit 6) a' w'') (NX : Act → World → Prop) :
    Code.wp Tryd.prog digBody (Exit.then NX Q0) ⟨#[.string (bs []), A1, A2, A3, A4, A5, A6, A7, A8, A9, B0, B1, B2, B3, B4, .int .i64 v, B6, B7, B8, B9, C0, C1, C2, C3, C4, C5, C6, C7, C8, C9, D0, D1, D2, D3, D4, D5, D6, D7, D8, D9, E0, E1, E2, E3, E4, E5, E6, E7, E8, E9, F0, F1, F2, F3, F4, F5, F6, F7, F8, F9, G0, G1, G2, G3, G4, G5, G6, G7, G8, G9, H0, H1, H2, H3, H4, H5, H6, H7, H8, H9, I0, I1, I2, I3, I4, I5, I6, I7, I8, I9, J0, J1, J2, J3, J4, J5, J6, J7, J8, J9, K0, K1, K2, K3, K4, K5, K6, K7, K8, K9, L0, L1, L2, L3, L4, L5, L6, L7, L8, L9, M0, M1, M2, M3, M4, M5, M6, M7, M8, M9, N0, N1, N2, N3, N4, N5, N6, N7, N8, N9, O0, O1, O2, O3, O4, O5, O6, O7, O8, O9, P0, P1, P2, P3, P4, P5, P6, P7, P8, P9, R0, R1, R2, R3, R4, R5, R6, R7, R8, R9, S0, S1, S2, S3, S4, S5, S6, S7, S8, S9, T0, T1, T2, T3, T4, T5, T6, T7, T8, T9, U0, U1, U2, U3, U4, U5, U6, U7, U8, U9, V0, V1, V2, V3, V4, V5, V6, V7, V8, V9, W0, W1, W2, W3, W4, W5, W6, W7, W8, W9, X0, X1, X2, X3, X4, X5, X6, X7, X8, X9, Y0, Y1, Y2, Y3, Y4, Y5, Y6, Y7, Y8, Y9, Z0, Z1, Z2, Z3, Z4, Z5, Z6, Z7, Z8, Z9, x0, x1, x2, x3, x4, x5, x6, x7, x8, x9, z0, z1, z2, z3, z4, z5, z6, z7], []⟩ w0 := by
  conv => arg 2; whnf
  have hz := bs_size []
  have HX := Lib.hid (show X = some (v, []) by rw [← hx]; rfl)
  clear hx
  go_wp2_with fail
  unfold DigX
  exact ⟨_, _, _, _, _, _, _, _, _, _, _, _, _, _, _, _, _, _, _, _, _, _, _, _, [], v, ⟨rfl, HX.out⟩, rfl⟩
set_option maxHeartbeats 4000000 in
set_option maxRecDepth 1000000 in
theorem dig_end (v : Int) (c : UInt8) (r : List UInt8) (B6 I8 I9 J0 J1 J2 J3 J4 J5 J6 J7 J8 J9 K0 K1 K2 K3 K4 K5 K6 K7 K8 K9 L0 : Value) (Q0 : Exit → Act → World → Prop) (hx : Dm.dec v (c :: r) = X) (hd : Dm.isDig c = false) (hexit : ∀ a' w'', DigX w0 X A1 A2 A3 A4 A5 A6 A7 A8 A9 B0 B1 B2 B3 B4 B7 B8 B9 C0 C1 C2 C3 C4 C5 C6 C7 C8 C9 D0 D1 D2 D3 D4 D5 D6 D7 D8 D9 E0 E1 E2 E3 E4 E5 E6 E7 E8 E9 F0 F1 F2 F3 F4 F5 F6 F7 F8 F9 G0 G1 G2 G3 G4 G5 G6 G7 G8 G9 H0 H1 H2 H3 H4 H5 H6 H7 H8 H9 I0 I1 I2 I3 I4 I5 I6 I7 L1 L2 L3 L4 L5 L6 L7 L8 L9 M0 M1 M2 M3 M4 M5 M6 M7 M8 M9 N0 N1 N2 N3 N4 N5 N6 N7 N8 N9 O0 O1 O2 O3 O4 O5 O6 O7 O8 O9 P0 P1 P2 P3 P4 P5 P6 P7 P8 P9 R0 R1 R2 R3 R4 R5 R6 R7 R8 R9 S0 S1 S2 S3 S4 S5 S6 S7 S8 S9 T0 T1 T2 T3 T4 T5 T6 T7 T8 T9 U0 U1 U2 U3 U4 U5 U6 U7 U8 U9 V0 V1 V2 V3 V4 V5 V6 V7 V8 V9 W0 W1 W2 W3 W4 W5 W6 W7 W8 W9 X0 X1 X2 X3 X4 X5 X6 X7 X8 X9 Y0 Y1 Y2 Y3 Y4 Y5 Y6 Y7 Y8 Y9 Z0 Z1 Z2 Z3 Z4 Z5 Z6 Z7 Z8 Z9 x0 x1 x2 x3 x4 x5 x6 x7 x8 x9 z0 z1 z2 z3 z4 z5 z6 z7 a' w'' → Q0 (.exit 6) a' w'') (NX : Act → World → Prop) :
    Code.wp Tryd.prog digBody (Exit.then NX Q0) ⟨#[.string (bs (c :: r)), A1, A2, A3, A4, A5, A6, A7, A8, A9, B0, B1, B2, B3, B4, .int .i64 v, B6, B7, B8, B9, C0, C1, C2, C3, C4, C5, C6, C7, C8, C9, D0, D1, D2, D3, D4, D5, D6, D7, D8, D9, E0, E1, E2, E3, E4, E5, E6, E7, E8, E9, F0, F1, F2, F3, F4, F5, F6, F7, F8, F9, G0, G1, G2, G3, G4, G5, G6, G7, G8, G9, H0, H1, H2, H3, H4, H5, H6, H7, H8, H9, I0, I1, I2, I3, I4, I5, I6, I7, I8, I9, J0, J1, J2, J3, J4, J5, J6, J7, J8, J9, K0, K1, K2, K3, K4, K5, K6, K7, K8, K9, L0, L1, L2, L3, L4, L5, L6, L7, L8, L9, M0, M1, M2, M3, M4, M5, M6, M7, M8, M9, N0, N1, N2, N3, N4, N5, N6, N7, N8, N9, O0, O1, O2, O3, O4, O5, O6, O7, O8, O9, P0, P1, P2, P3, P4, P5, P6, P7, P8, P9, R0, R1, R2, R3, R4, R5, R6, R7, R8, R9, S0, S1, S2, S3, S4, S5, S6, S7, S8, S9, T0, T1, T2, T3, T4, T5, T6, T7, T8, T9, U0, U1, U2, U3, U4, U5, U6, U7, U8, U9, V0, V1, V2, V3, V4, V5, V6, V7, V8, V9, W0, W1, W2, W3, W4, W5, W6, W7, W8, W9, X0, X1, X2, X3, X4, X5, X6, X7, X8, X9, Y0, Y1, Y2, Y3, Y4, Y5, Y6, Y7, Y8, Y9, Z0, Z1, Z2, Z3, Z4, Z5, Z6, Z7, Z8, Z9, x0, x1, x2, x3, x4, x5, x6, x7, x8, x9, z0, z1, z2, z3, z4, z5, z6, z7], []⟩ w0 := by
  conv => arg 2; whnf
  have hz := bs_size (c :: r)
  have i0 : (bs (c :: r))[0]'(by rw [hz]; simp) = c := rfl
  have lz0 : (0 : Int) < ((bs (c :: r)).size : Int) := by rw [hz]; simp <;> omega
  have ly0 : (0 : Int) < (r.length : Int) + 1 := by omega
  have HDC : Hid (∀ w, Calls Tryd.prog 92 #[.int .u8 c.toNat] w fun e w' => e = .returned (.bool false) ∧ w = w') := Lib.hid (fun w => by have h_ := isDigit_calls (c.toNat : Int) w; rw [show (decide (48 ≤ (c.toNat : Int)) && decide ((c.toNat : Int) ≤ 57)) = false from hd] at h_; exact h_)
  have HX := Lib.hid (show X = some (v, c :: r) by rw [← hx, Dm.dec, if_neg (by rw [hd]; decide)])
  clear hx hd
  go_wp2_with (go_at_call 92; refine (HDC.out _).mono ?_; rintro e wx ⟨rfl, rfl⟩)
  unfold DigX
  exact ⟨_, _, _, _, _, _, _, _, _, _, _, _, _, _, _, _, _, _, _, _, _, _, _, _, c :: r, v, ⟨rfl, HX.out⟩, rfl⟩
set_option maxHeartbeats 4000000 in
set_option maxRecDepth 1000000 in
theorem dig_bad (v : Int) (c : UInt8) (r : List UInt8) (B6 I8 I9 J0 J1 J2 J3 J4 J5 J6 J7 J8 J9 K0 K1 K2 K3 K4 K5 K6 K7 K8 K9 L0 : Value) (Q0 : Exit → Act → World → Prop) (hx : Dm.dec v (c :: r) = X) (hd : Dm.isDig c = true) (hv : v ≥ 214748364 - ((c.toNat : Int) - 48)) (hret : ∀ a' w'', DigB w0 X A1 A2 A3 A4 A5 A6 A7 A8 A9 B0 B1 B2 B3 B4 B7 B8 B9 C0 C1 C2 C3 C4 C5 C6 C7 C8 C9 D0 D1 D2 D3 D4 D5 D6 D7 D8 D9 E0 E1 E2 E3 E4 E5 E6 E7 E8 E9 F0 F1 F2 F3 F4 F5 F6 F7 F8 F9 G0 G1 G2 G3 G4 G5 G6 G7 G8 G9 H0 H1 H2 H3 H4 H5 H6 H7 H8 H9 I0 I1 I2 I3 I4 I5 I6 I7 L1 L2 L3 L4 L5 L6 L7 L8 L9 M0 M1 M2 M3 M4 M5 M6 M7 M8 M9 N0 N1 N2 N3 N4 N5 N6 N7 N8 N9 O0 O1 O2 O3 O4 O5 O6 O7 O8 O9 P0 P1 P2 P3 P4 P5 P6 P7 P8 P9 R0 R1 R2 R3 R4 R5 R6 R7 R8 R9 S0 S1 S2 S3 S4 S5 S6 S7 S8 S9 T0 T1 T2 T3 T4 T5 T6 T7 T8 T9 U0 U1 U2 U3 U4 U5 U6 U7 U8 U9 V0 V1 V2 V3 V4 V5 V6 V7 V8 V9 W0 W1 W2 W3 W4 W5 W6 W7 W8 W9 X0 X1 X2 X3 X4 X5 X6 X7 X8 X9 Y0 Y1 Y2 Y3 Y4 Y5 Y6 Y7 Y8 Y9 Z0 Z1 Z2 Z3 Z4 Z5 Z6 Z7 Z8 Z9 x0 x1 x2 x3 x4 x5 x6 x7 x8 x9 z0 z1 z2 z3 z4 z5 z6 z7 a' w'' → Q0 .ret a' w'') (NX : Act → World → Prop) :
    Code.wp Tryd.prog digBody (Exit.then NX Q0) ⟨#[.string (bs (c :: r)), A1, A2, A3, A4, A5, A6, A7, A8, A9, B0, B1, B2, B3, B4, .int .i64 v, B6, B7, B8, B9, C0, C1, C2, C3, C4, C5, C6, C7, C8, C9, D0, D1, D2, D3, D4, D5, D6, D7, D8, D9, E0, E1, E2, E3, E4, E5, E6, E7, E8, E9, F0, F1, F2, F3, F4, F5, F6, F7, F8, F9, G0, G1, G2, G3, G4, G5, G6, G7, G8, G9, H0, H1, H2, H3, H4, H5, H6, H7, H8, H9, I0, I1, I2, I3, I4, I5, I6, I7, I8, I9, J0, J1, J2, J3, J4, J5, J6, J7, J8, J9, K0, K1, K2, K3, K4, K5, K6, K7, K8, K9, L0, L1, L2, L3, L4, L5, L6, L7, L8, L9, M0, M1, M2, M3, M4, M5, M6, M7, M8, M9, N0, N1, N2, N3, N4, N5, N6, N7, N8, N9, O0, O1, O2, O3, O4, O5, O6, O7, O8, O9, P0, P1, P2, P3, P4, P5, P6, P7, P8, P9, R0, R1, R2, R3, R4, R5, R6, R7, R8, R9, S0, S1, S2, S3, S4, S5, S6, S7, S8, S9, T0, T1, T2, T3, T4, T5, T6, T7, T8, T9, U0, U1, U2, U3, U4, U5, U6, U7, U8, U9, V0, V1, V2, V3, V4, V5, V6, V7, V8, V9, W0, W1, W2, W3, W4, W5, W6, W7, W8, W9, X0, X1, X2, X3, X4, X5, X6, X7, X8, X9, Y0, Y1, Y2, Y3, Y4, Y5, Y6, Y7, Y8, Y9, Z0, Z1, Z2, Z3, Z4, Z5, Z6, Z7, Z8, Z9, x0, x1, x2, x3, x4, x5, x6, x7, x8, x9, z0, z1, z2, z3, z4, z5, z6, z7], []⟩ w0 := by
  conv => arg 2; whnf
  have hz := bs_size (c :: r)
  have i0 : (bs (c :: r))[0]'(by rw [hz]; simp) = c := rfl
  have lz0 : (0 : Int) < ((bs (c :: r)).size : Int) := by rw [hz]; simp <;> omega
  have ly0 : (0 : Int) < (r.length : Int) + 1 := by omega
  have HDC : Hid (∀ w, Calls Tryd.prog 92 #[.int .u8 c.toNat] w fun e w' => e = .returned (.bool true) ∧ w = w') := Lib.hid (fun w => by have h_ := isDigit_calls (c.toNat : Int) w; rw [show (decide (48 ≤ (c.toNat : Int)) && decide ((c.toNat : Int) ≤ 57)) = true from hd] at h_; exact h_)
  have hc := c.toNat_lt
  obtain ⟨d0, d1⟩ : 48 ≤ (c.toNat : Int) ∧ (c.toNat : Int) ≤ 57 := by simpa [Dm.isDig] using hd
  have hw1 : IntKind.u8.wrap ((c.toNat : Int) - 48) = (c.toNat : Int) - 48 := IntWalk.u8_in _ (by omega)
  have hw2 : IntKind.i64.wrap ((c.toNat : Int) - 48) = (c.toNat : Int) - 48 := IntWalk.i64_in _ (by omega)
  have hw3 : IntKind.i64.wrap (214748364 - ((c.toNat : Int) - 48)) = 214748364 - ((c.toNat : Int) - 48) := IntWalk.i64_in _ (by omega)
  have HX := Lib.hid (show X = none by rw [← hx, Dm.dec, if_pos hd, if_pos hv])
  have hv2 : 214748364 - ((c.toNat : Int) - 48) ≤ v := hv
  clear hx hd hv d0 d1 hc
  go_wp2_with (go_at_call 92; refine (HDC.out _).mono ?_; rintro e wx ⟨rfl, rfl⟩)
  unfold DigB
  exact ⟨_, _, _, _, _, _, _, _, _, _, _, _, _, _, _, _, _, _, _, _, _, _, _, _, _, _, ⟨rfl, HX.out⟩, rfl⟩
set_option maxHeartbeats 4000000 in
set_option maxRecDepth 1000000 in
theorem dig_step (v : Int) (c : UInt8) (r : List UInt8) (B6 I8 I9 J0 J1 J2 J3 J4 J5 J6 J7 J8 J9 K0 K1 K2 K3 K4 K5 K6 K7 K8 K9 L0 : Value) (Q0 : Exit → Act → World → Prop) (hx : Dm.dec v (c :: r) = X) (hd : Dm.isDig c = true) (hv : ¬ v ≥ 214748364 - ((c.toNat : Int) - 48)) (h0 : 0 ≤ v) (hl : (c :: r).length ≤ 4611686018427387904) :
    Code.wp Tryd.prog digBody (Exit.then (fun a' w'' => DigI w0 X A1 A2 A3 A4 A5 A6 A7 A8 A9 B0 B1 B2 B3 B4 B7 B8 B9 C0 C1 C2 C3 C4 C5 C6 C7 C8 C9 D0 D1 D2 D3 D4 D5 D6 D7 D8 D9 E0 E1 E2 E3 E4 E5 E6 E7 E8 E9 F0 F1 F2 F3 F4 F5 F6 F7 F8 F9 G0 G1 G2 G3 G4 G5 G6 G7 G8 G9 H0 H1 H2 H3 H4 H5 H6 H7 H8 H9 I0 I1 I2 I3 I4 I5 I6 I7 L1 L2 L3 L4 L5 L6 L7 L8 L9 M0 M1 M2 M3 M4 M5 M6 M7 M8 M9 N0 N1 N2 N3 N4 N5 N6 N7 N8 N9 O0 O1 O2 O3 O4 O5 O6 O7 O8 O9 P0 P1 P2 P3 P4 P5 P6 P7 P8 P9 R0 R1 R2 R3 R4 R5 R6 R7 R8 R9 S0 S1 S2 S3 S4 S5 S6 S7 S8 S9 T0 T1 T2 T3 T4 T5 T6 T7 T8 T9 U0 U1 U2 U3 U4 U5 U6 U7 U8 U9 V0 V1 V2 V3 V4 V5 V6 V7 V8 V9 W0 W1 W2 W3 W4 W5 W6 W7 W8 W9 X0 X1 X2 X3 X4 X5 X6 X7 X8 X9 Y0 Y1 Y2 Y3 Y4 Y5 Y6 Y7 Y8 Y9 Z0 Z1 Z2 Z3 Z4 Z5 Z6 Z7 Z8 Z9 x0 x1 x2 x3 x4 x5 x6 x7 x8 x9 z0 z1 z2 z3 z4 z5 z6 z7 a' w'' ∧ digMu a' < digMu ⟨#[.string (bs (c :: r)), A1, A2, A3, A4, A5, A6, A7, A8, A9, B0, B1, B2, B3, B4, .int .i64 v, B6, B7, B8, B9, C0, C1, C2, C3, C4, C5, C6, C7, C8, C9, D0, D1, D2, D3, D4, D5, D6, D7, D8, D9, E0, E1, E2, E3, E4, E5, E6, E7, E8, E9, F0, F1, F2, F3, F4, F5, F6, F7, F8, F9, G0, G1, G2, G3, G4, G5, G6, G7, G8, G9, H0, H1, H2, H3, H4, H5, H6, H7, H8, H9, I0, I1, I2, I3, I4, I5, I6, I7, I8, I9, J0, J1, J2, J3, J4, J5, J6, J7, J8, J9, K0, K1, K2, K3, K4, K5, K6, K7, K8, K9, L0, L1, L2, L3, L4, L5, L6, L7, L8, L9, M0, M1, M2, M3, M4, M5, M6, M7, M8, M9, N0, N1, N2, N3, N4, N5, N6, N7, N8, N9, O0, O1, O2, O3, O4, O5, O6, O7, O8, O9, P0, P1, P2, P3, P4, P5, P6, P7, P8, P9, R0, R1, R2, R3, R4, R5, R6, R7, R8, R9, S0, S1, S2, S3, S4, S5, S6, S7, S8, S9, T0, T1, T2, T3, T4, T5, T6, T7, T8, T9, U0, U1, U2, U3, U4, U5, U6, U7, U8, U9, V0, V1, V2, V3, V4, V5, V6, V7, V8, V9, W0, W1, W2, W3, W4, W5, W6, W7, W8, W9, X0, X1, X2, X3, X4, X5, X6, X7, X8, X9, Y0, Y1, Y2, Y3, Y4, Y5, Y6, Y7, Y8, Y9, Z0, Z1, Z2, Z3, Z4, Z5, Z6, Z7, Z8, Z9, x0, x1, x2, x3, x4, x5, x6, x7, x8, x9, z0, z1, z2, z3, z4, z5, z6, z7], []⟩) Q0) ⟨#[.string (bs (c :: r)), A1, A2, A3, A4, A5, A6, A7, A8, A9, B0, B1, B2, B3, B4, .int .i64 v, B6, B7, B8, B9, C0, C1, C2, C3, C4, C5, C6, C7, C8, C9, D0, D1, D2, D3, D4, D5, D6, D7, D8, D9, E0, E1, E2, E3, E4, E5, E6, E7, E8, E9, F0, F1, F2, F3, F4, F5, F6, F7, F8, F9, G0, G1, G2, G3, G4, G5, G6, G7, G8, G9, H0, H1, H2, H3, H4, H5, H6, H7, H8, H9, I0, I1, I2, I3, I4, I5, I6, I7, I8, I9, J0, J1, J2, J3, J4, J5, J6, J7, J8, J9, K0, K1, K2, K3, K4, K5, K6, K7, K8, K9, L0, L1, L2, L3, L4, L5, L6, L7, L8, L9, M0, M1, M2, M3, M4, M5, M6, M7, M8, M9, N0, N1, N2, N3, N4, N5, N6, N7, N8, N9, O0, O1, O2, O3, O4, O5, O6, O7, O8, O9, P0, P1, P2, P3, P4, P5, P6, P7, P8, P9, R0, R1, R2, R3, R4, R5, R6, R7, R8, R9, S0, S1, S2, S3, S4, S5, S6, S7, S8, S9, T0, T1, T2, T3, T4, T5, T6, T7, T8, T9, U0, U1, U2, U3, U4, U5, U6, U7, U8, U9, V0, V1, V2, V3, V4, V5, V6, V7, V8, V9, W0, W1, W2, W3, W4, W5, W6, W7, W8, W9, X0, X1, X2, X3, X4, X5, X6, X7, X8, X9, Y0, Y1, Y2, Y3, Y4, Y5, Y6, Y7, Y8, Y9, Z0, Z1, Z2, Z3, Z4, Z5, Z6, Z7, Z8, Z9, x0, x1, x2, x3, x4, x5, x6, x7, x8, x9, z0, z1, z2, z3, z4, z5, z6, z7], []⟩ w0 := by
  conv => arg 2; whnf
  have hz := bs_size (c :: r)
  have i0 : (bs (c :: r))[0]'(by rw [hz]; simp) = c := rfl
  have lz0 : (0 : Int) < ((bs (c :: r)).size : Int) := by rw [hz]; simp <;> omega
  have ly0 : (0 : Int) < (r.length : Int) + 1 := by omega
  have HDC : Hid (∀ w, Calls Tryd.prog 92 #[.int .u8 c.toNat] w fun e w' => e = .returned (.bool true) ∧ w = w') := Lib.hid (fun w => by have h_ := isDigit_calls (c.toNat : Int) w; rw [show (decide (48 ≤ (c.toNat : Int)) && decide ((c.toNat : Int) ≤ 57)) = true from hd] at h_; exact h_)
  have hc := c.toNat_lt
  obtain ⟨d0, d1⟩ : 48 ≤ (c.toNat : Int) ∧ (c.toNat : Int) ≤ 57 := by simpa [Dm.isDig] using hd
  have hw1 : IntKind.u8.wrap ((c.toNat : Int) - 48) = (c.toNat : Int) - 48 := IntWalk.u8_in _ (by omega)
  have hw2 : IntKind.i64.wrap ((c.toNat : Int) - 48) = (c.toNat : Int) - 48 := IntWalk.i64_in _ (by omega)
  have hw3 : IntKind.i64.wrap (214748364 - ((c.toNat : Int) - 48)) = 214748364 - ((c.toNat : Int) - 48) := IntWalk.i64_in _ (by omega)
  have hw4 : IntKind.i64.wrap (v * 10) = v * 10 := IntWalk.i64_in _ (by omega)
  have hw5 : IntKind.i64.wrap (v * 10 + ((c.toNat : Int) - 48)) = v * 10 + ((c.toNat : Int) - 48) := IntWalk.i64_in _ (by omega)
  have HX := Lib.hid (show Dm.dec (v * 10 + ((c.toNat : Int) - 48)) r = X by rw [← hx, Dm.dec, if_pos hd, if_neg hv])
  have HV := Lib.hid (show 0 ≤ v * 10 + ((c.toNat : Int) - 48) ∧ v * 10 + ((c.toNat : Int) - 48) ≤ 2147483647 by omega)
  have HL := Lib.hid (show r.length ≤ 4611686018427387904 by simp at hl; omega)
  have hv2 : ¬ 214748364 - ((c.toNat : Int) - 48) ≤ v := hv
  have hxs : (bs (c :: r)).extract 1 (r.length + 1) = bs r := by have := bs_extract (c :: r) 1; exact this
  have h3 : (1 : Int) ≤ ((c :: r).length : Int) := by simp <;> omega
  have h4 : 1 ≤ (c :: r).length := by simp
  clear hx hd hv d0 d1 hc h0 hl
  go_wp2_with (go_at_call 92; refine (HDC.out _).mono ?_; rintro e wx ⟨rfl, rfl⟩)
  all_goals refine ⟨?_, ?_⟩
  all_goals try rw [hxs]
  all_goals first
    | exact ⟨_, _, _, _, _, _, _, _, _, _, _, _, _, _, _, _, _, _, _, _, _, _, _, _, r, _, ⟨rfl, HX.out, HV.out.1, HV.out.2, HL.out⟩, rfl⟩
    | (show (bs r).size < (bs (c :: r)).size
       rw [bs_size, bs_size]
       simp <;> omega)
set_option maxHeartbeats 4000000 in
set_option maxRecDepth 1000000 in
theorem dig_round (Q0 : Exit → Act → World → Prop) (a : Act) (wr : World) (hI : DigI w0 X A1 A2 A3 A4 A5 A6 A7 A8 A9 B0 B1 B2 B3 B4 B7 B8 B9 C0 C1 C2 C3 C4 C5 C6 C7 C8 C9 D0 D1 D2 D3 D4 D5 D6 D7 D8 D9 E0 E1 E2 E3 E4 E5 E6 E7 E8 E9 F0 F1 F2 F3 F4 F5 F6 F7 F8 F9 G0 G1 G2 G3 G4 G5 G6 G7 G8 G9 H0 H1 H2 H3 H4 H5 H6 H7 H8 H9 I0 I1 I2 I3 I4 I5 I6 I7 L1 L2 L3 L4 L5 L6 L7 L8 L9 M0 M1 M2 M3 M4 M5 M6 M7 M8 M9 N0 N1 N2 N3 N4 N5 N6 N7 N8 N9 O0 O1 O2 O3 O4 O5 O6 O7 O8 O9 P0 P1 P2 P3 P4 P5 P6 P7 P8 P9 R0 R1 R2 R3 R4 R5 R6 R7 R8 R9 S0 S1 S2 S3 S4 S5 S6 S7 S8 S9 T0 T1 T2 T3 T4 T5 T6 T7 T8 T9 U0 U1 U2 U3 U4 U5 U6 U7 U8 U9 V0 V1 V2 V3 V4 V5 V6 V7 V8 V9 W0 W1 W2 W3 W4 W5 W6 W7 W8 W9 X0 X1 X2 X3 X4 X5 X6 X7 X8 X9 Y0 Y1 Y2 Y3 Y4 Y5 Y6 Y7 Y8 Y9 Z0 Z1 Z2 Z3 Z4 Z5 Z6 Z7 Z8 Z9 x0 x1 x2 x3 x4 x5 x6 x7 x8 x9 z0 z1 z2 z3 z4 z5 z6 z7 a wr) (hexit : ∀ a' w'', DigX w0 X A1 A2 A3 A4 A5 A6 A7 A8 A9 B0 B1 B2 B3 B4 B7 B8 B9 C0 C1 C2 C3 C4 C5 C6 C7 C8 C9 D0 D1 D2 D3 D4 D5 D6 D7 D8 D9 E0 E1 E2 E3 E4 E5 E6 E7 E8 E9 F0 F1 F2 F3 F4 F5 F6 F7 F8 F9 G0 G1 G2 G3 G4 G5 G6 G7 G8 G9 H0 H1 H2 H3 H4 H5 H6 H7 H8 H9 I0 I1 I2 I3 I4 I5 I6 I7 L1 L2 L3 L4 L5 L6 L7 L8 L9 M0 M1 M2 M3 M4 M5 M6 M7 M8 M9 N0 N1 N2 N3 N4 N5 N6 N7 N8 N9 O0 O1 O2 O3 O4 O5 O6 O7 O8 O9 P0 P1 P2 P3 P4 P5 P6 P7 P8 P9 R0 R1 R2 R3 R4 R5 R6 R7 R8 R9 S0 S1 S2 S3 S4 S5 S6 S7 S8 S9 T0 T1 T2 T3 T4 T5 T6 T7 T8 T9 U0 U1 U2 U3 U4 U5 U6 U7 U8 U9 V0 V1 V2 V3 V4 V5 V6 V7 V8 V9 W0 W1 W2 W3 W4 W5 W6 W7 W8 W9 X0 X1 X2 X3 X4 X5 X6 X7 X8 X9 Y0 Y1 Y2 Y3 Y4 Y5 Y6 Y7 Y8 Y9 Z0 Z1 Z2 Z3 Z4 Z5 Z6 Z7 Z8 Z9 x0 x1 x2 x3 x4 x5 x6 x7 x8 x9 z0 z1 z2 z3 z4 z5 z6 z7 a' w'' → Q0 (.exit 6) a' w'') (hret : ∀ a' w'', DigB w0 X A1 A2 A3 A4 A5 A6 A7 A8 A9 B0 B1 B2 B3 B4 B7 B8 B9 C0 C1 C2 C3 C4 C5 C6 C7 C8 C9 D0 D1 D2 D3 D4 D5 D6 D7 D8 D9 E0 E1 E2 E3 E4 E5 E6 E7 E8 E9 F0 F1 F2 F3 F4 F5 F6 F7 F8 F9 G0 G1 G2 G3 G4 G5 G6 G7 G8 G9 H0 H1 H2 H3 H4 H5 H6 H7 H8 H9 I0 I1 I2 I3 I4 I5 I6 I7 L1 L2 L3 L4 L5 L6 L7 L8 L9 M0 M1 M2 M3 M4 M5 M6 M7 M8 M9 N0 N1 N2 N3 N4 N5 N6 N7 N8 N9 O0 O1 O2 O3 O4 O5 O6 O7 O8 O9 P0 P1 P2 P3 P4 P5 P6 P7 P8 P9 R0 R1 R2 R3 R4 R5 R6 R7 R8 R9 S0 S1 S2 S3 S4 S5 S6 S7 S8 S9 T0 T1 T2 T3 T4 T5 T6 T7 T8 T9 U0 U1 U2 U3 U4 U5 U6 U7 U8 U9 V0 V1 V2 V3 V4 V5 V6 V7 V8 V9 W0 W1 W2 W3 W4 W5 W6 W7 W8 W9 X0 X1 X2 X3 X4 X5 X6 X7 X8 X9 Y0 Y1 Y2 Y3 Y4 Y5 Y6 Y7 Y8 Y9 Z0 Z1 Z2 Z3 Z4 Z5 Z6 Z7 Z8 Z9 x0 x1 x2 x3 x4 x5 x6 x7 x8 x9 z0 z1 z2 z3 z4 z5 z6 z7 a' w'' → Q0 .ret a' w'') :
    Code.wp Tryd.prog digBody (Exit.then (fun a' w'' => DigI w0 X A1 A2 A3 A4 A5 A6 A7 A8 A9 B0 B1 B2 B3 B4 B7 B8 B9 C0 C1 C2 C3 C4 C5 C6 C7 C8 C9 D0 D1 D2 D3 D4 D5 D6 D7 D8 D9 E0 E1 E2 E3 E4 E5 E6 E7 E8 E9 F0 F1 F2 F3 F4 F5 F6 F7 F8 F9 G0 G1 G2 G3 G4 G5 G6 G7 G8 G9 H0 H1 H2 H3 H4 H5 H6 H7 H8 H9 I0 I1 I2 I3 I4 I5 I6 I7 L1 L2 L3 L4 L5 L6 L7 L8 L9 M0 M1 M2 M3 M4 M5 M6 M7 M8 M9 N0 N1 N2 N3 N4 N5 N6 N7 N8 N9 O0 O1 O2 O3 O4 O5 O6 O7 O8 O9 P0 P1 P2 P3 P4 P5 P6 P7 P8 P9 R0 R1 R2 R3 R4 R5 R6 R7 R8 R9 S0 S1 S2 S3 S4 S5 S6 S7 S8 S9 T0 T1 T2 T3 T4 T5 T6 T7 T8 T9 U0 U1 U2 U3 U4 U5 U6 U7 U8 U9 V0 V1 V2 V3 V4 V5 V6 V7 V8 V9 W0 W1 W2 W3 W4 W5 W6 W7 W8 W9 X0 X1 X2 X3 X4 X5 X6 X7 X8 X9 Y0 Y1 Y2 Y3 Y4 Y5 Y6 Y7 Y8 Y9 Z0 Z1 Z2 Z3 Z4 Z5 Z6 Z7 Z8 Z9 x0 x1 x2 x3 x4 x5 x6 x7 x8 x9 z0 z1 z2 z3 z4 z5 z6 z7 a' w'' ∧ digMu a' < digMu a) Q0) a wr := by
  unfold DigI at hI
  obtain ⟨B6, hI⟩ := hI
  obtain ⟨I8, hI⟩ := hI
  obtain ⟨I9, hI⟩ := hI
  obtain ⟨J0, hI⟩ := hI
  obtain ⟨J1, hI⟩ := hI
  obtain ⟨J2, hI⟩ := hI
  obtain ⟨J3, hI⟩ := hI
  obtain ⟨J4, hI⟩ := hI
  obtain ⟨J5, hI⟩ := hI
  obtain ⟨J6, hI⟩ := hI
  obtain ⟨J7, hI⟩ := hI
  obtain ⟨J8, hI⟩ := hI
  obtain ⟨J9, hI⟩ := hI
  obtain ⟨K0, hI⟩ := hI
  obtain ⟨K1, hI⟩ := hI
  obtain ⟨K2, hI⟩ := hI
  obtain ⟨K3, hI⟩ := hI
  obtain ⟨K4, hI⟩ := hI
  obtain ⟨K5, hI⟩ := hI
  obtain ⟨K6, hI⟩ := hI
  obtain ⟨K7, hI⟩ := hI
  obtain ⟨K8, hI⟩ := hI
  obtain ⟨K9, hI⟩ := hI
  obtain ⟨L0, hI⟩ := hI
  obtain ⟨l, v, ⟨rfl, hx, h0, h1, hl⟩, rfl⟩ := hI
  rcases l with _ | ⟨c, r⟩
  · exact dig_nil v B6 I8 I9 J0 J1 J2 J3 J4 J5 J6 J7 J8 J9 K0 K1 K2 K3 K4 K5 K6 K7 K8 K9 L0 Q0 hx hexit _
  cases hd : Dm.isDig c with
  | false => exact dig_end v c r B6 I8 I9 J0 J1 J2 J3 J4 J5 J6 J7 J8 J9 K0 K1 K2 K3 K4 K5 K6 K7 K8 K9 L0 Q0 hx hd hexit _
  | true =>
    by_cases hv : v ≥ 214748364 - ((c.toNat : Int) - 48)
    · exact dig_bad v c r B6 I8 I9 J0 J1 J2 J3 J4 J5 J6 J7 J8 J9 K0 K1 K2 K3 K4 K5 K6 K7 K8 K9 L0 Q0 hx hd hv hret _
    · exact dig_step v c r B6 I8 I9 J0 J1 J2 J3 J4 J5 J6 J7 J8 J9 K0 K1 K2 K3 K4 K5 K6 K7 K8 K9 L0 Q0 hx hd hv h0 hl
set_option maxHeartbeats 4000000 in
set_option maxRecDepth 1000000 in
theorem dig_loop (l : List UInt8) (v : Int) (B6 I8 I9 J0 J1 J2 J3 J4 J5 J6 J7 J8 J9 K0 K1 K2 K3 K4 K5 K6 K7 K8 K9 L0 : Value) (Q0 : Exit → Act → World → Prop) (hx : Dm.dec v l = X) (h0 : 0 ≤ v) (h1 : v ≤ 2147483647) (hl : l.length ≤ 4611686018427387904) (hexit : ∀ a' w'', DigX w0 X A1 A2 A3 A4 A5 A6 A7 A8 A9 B0 B1 B2 B3 B4 B7 B8 B9 C0 C1 C2 C3 C4 C5 C6 C7 C8 C9 D0 D1 D2 D3 D4 D5 D6 D7 D8 D9 E0 E1 E2 E3 E4 E5 E6 E7 E8 E9 F0 F1 F2 F3 F4 F5 F6 F7 F8 F9 G0 G1 G2 G3 G4 G5 G6 G7 G8 G9 H0 H1 H2 H3 H4 H5 H6 H7 H8 H9 I0 I1 I2 I3 I4 I5 I6 I7 L1 L2 L3 L4 L5 L6 L7 L8 L9 M0 M1 M2 M3 M4 M5 M6 M7 M8 M9 N0 N1 N2 N3 N4 N5 N6 N7 N8 N9 O0 O1 O2 O3 O4 O5 O6 O7 O8 O9 P0 P1 P2 P3 P4 P5 P6 P7 P8 P9 R0 R1 R2 R3 R4 R5 R6 R7 R8 R9 S0 S1 S2 S3 S4 S5 S6 S7 S8 S9 T0 T1 T2 T3 T4 T5 T6 T7 T8 T9 U0 U1 U2 U3 U4 U5 U6 U7 U8 U9 V0 V1 V2 V3 V4 V5 V6 V7 V8 V9 W0 W1 W2 W3 W4 W5 W6 W7 W8 W9 X0 X1 X2 X3 X4 X5 X6 X7 X8 X9 Y0 Y1 Y2 Y3 Y4 Y5 Y6 Y7 Y8 Y9 Z0 Z1 Z2 Z3 Z4 Z5 Z6 Z7 Z8 Z9 x0 x1 x2 x3 x4 x5 x6 x7 x8 x9 z0 z1 z2 z3 z4 z5 z6 z7 a' w'' → Q0 (.exit 6) a' w'') (hret : ∀ a' w'', DigB w0 X A1 A2 A3 A4 A5 A6 A7 A8 A9 B0 B1 B2 B3 B4 B7 B8 B9 C0 C1 C2 C3 C4 C5 C6 C7 C8 C9 D0 D1 D2 D3 D4 D5 D6 D7 D8 D9 E0 E1 E2 E3 E4 E5 E6 E7 E8 E9 F0 F1 F2 F3 F4 F5 F6 F7 F8 F9 G0 G1 G2 G3 G4 G5 G6 G7 G8 G9 H0 H1 H2 H3 H4 H5 H6 H7 H8 H9 I0 I1 I2 I3 I4 I5 I6 I7 L1 L2 L3 L4 L5 L6 L7 L8 L9 M0 M1 M2 M3 M4 M5 M6 M7 M8 M9 N0 N1 N2 N3 N4 N5 N6 N7 N8 N9 O0 O1 O2 O3 O4 O5 O6 O7 O8 O9 P0 P1 P2 P3 P4 P5 P6 P7 P8 P9 R0 R1 R2 R3 R4 R5 R6 R7 R8 R9 S0 S1 S2 S3 S4 S5 S6 S7 S8 S9 T0 T1 T2 T3 T4 T5 T6 T7 T8 T9 U0 U1 U2 U3 U4 U5 U6 U7 U8 U9 V0 V1 V2 V3 V4 V5 V6 V7 V8 V9 W0 W1 W2 W3 W4 W5 W6 W7 W8 W9 X0 X1 X2 X3 X4 X5 X6 X7 X8 X9 Y0 Y1 Y2 Y3 Y4 Y5 Y6 Y7 Y8 Y9 Z0 Z1 Z2 Z3 Z4 Z5 Z6 Z7 Z8 Z9 x0 x1 x2 x3 x4 x5 x6 x7 x8 x9 z0 z1 z2 z3 z4 z5 z6 z7 a' w'' → Q0 .ret a' w'') :
    Code.wp Tryd.prog (Code.loop digBody) Q0 ⟨#[.string (bs l), A1, A2, A3, A4, A5, A6, A7, A8, A9, B0, B1, B2, B3, B4, .int .i64 v, B6, B7, B8, B9, C0, C1, C2, C3, C4, C5, C6, C7, C8, C9, D0, D1, D2, D3, D4, D5, D6, D7, D8, D9, E0, E1, E2, E3, E4, E5, E6, E7, E8, E9, F0, F1, F2, F3, F4, F5, F6, F7, F8, F9, G0, G1, G2, G3, G4, G5, G6, G7, G8, G9, H0, H1, H2, H3, H4, H5, H6, H7, H8, H9, I0, I1, I2, I3, I4, I5, I6, I7, I8, I9, J0, J1, J2, J3, J4, J5, J6, J7, J8, J9, K0, K1, K2, K3, K4, K5, K6, K7, K8, K9, L0, L1, L2, L3, L4, L5, L6, L7, L8, L9, M0, M1, M2, M3, M4, M5, M6, M7, M8, M9, N0, N1, N2, N3, N4, N5, N6, N7, N8, N9, O0, O1, O2, O3, O4, O5, O6, O7, O8, O9, P0, P1, P2, P3, P4, P5, P6, P7, P8, P9, R0, R1, R2, R3, R4, R5, R6, R7, R8, R9, S0, S1, S2, S3, S4, S5, S6, S7, S8, S9, T0, T1, T2, T3, T4, T5, T6, T7, T8, T9, U0, U1, U2, U3, U4, U5, U6, U7, U8, U9, V0, V1, V2, V3, V4, V5, V6, V7, V8, V9, W0, W1, W2, W3, W4, W5, W6, W7, W8, W9, X0, X1, X2, X3, X4, X5, X6, X7, X8, X9, Y0, Y1, Y2, Y3, Y4, Y5, Y6, Y7, Y8, Y9, Z0, Z1, Z2, Z3, Z4, Z5, Z6, Z7, Z8, Z9, x0, x1, x2, x3, x4, x5, x6, x7, x8, x9, z0, z1, z2, z3, z4, z5, z6, z7], []⟩ w0 := by
  refine wp_loop (fun a w => DigI w0 X A1 A2 A3 A4 A5 A6 A7 A8 A9 B0 B1 B2 B3 B4 B7 B8 B9 C0 C1 C2 C3 C4 C5 C6 C7 C8 C9 D0 D1 D2 D3 D4 D5 D6 D7 D8 D9 E0 E1 E2 E3 E4 E5 E6 E7 E8 E9 F0 F1 F2 F3 F4 F5 F6 F7 F8 F9 G0 G1 G2 G3 G4 G5 G6 G7 G8 G9 H0 H1 H2 H3 H4 H5 H6 H7 H8 H9 I0 I1 I2 I3 I4 I5 I6 I7 L1 L2 L3 L4 L5 L6 L7 L8 L9 M0 M1 M2 M3 M4 M5 M6 M7 M8 M9 N0 N1 N2 N3 N4 N5 N6 N7 N8 N9 O0 O1 O2 O3 O4 O5 O6 O7 O8 O9 P0 P1 P2 P3 P4 P5 P6 P7 P8 P9 R0 R1 R2 R3 R4 R5 R6 R7 R8 R9 S0 S1 S2 S3 S4 S5 S6 S7 S8 S9 T0 T1 T2 T3 T4 T5 T6 T7 T8 T9 U0 U1 U2 U3 U4 U5 U6 U7 U8 U9 V0 V1 V2 V3 V4 V5 V6 V7 V8 V9 W0 W1 W2 W3 W4 W5 W6 W7 W8 W9 X0 X1 X2 X3 X4 X5 X6 X7 X8 X9 Y0 Y1 Y2 Y3 Y4 Y5 Y6 Y7 Y8 Y9 Z0 Z1 Z2 Z3 Z4 Z5 Z6 Z7 Z8 Z9 x0 x1 x2 x3 x4 x5 x6 x7 x8 x9 z0 z1 z2 z3 z4 z5 z6 z7 a w) (fun a _ => digMu a) ?_ (fun a w hI => dig_round Q0 a w hI hexit hret)
  unfold DigI
  exact ⟨_, _, _, _, _, _, _, _, _, _, _, _, _, _, _, _, _, _, _, _, _, _, _, _, l, v, ⟨rfl, hx, h0, h1, hl⟩, rfl⟩
end
end Go.Proofs.YtpmlnhddkbgefaaDoor
namespace Go.Proofs.YtpmlnhddkbgefaaDoor
set_option linter.unusedVariables false
set_option linter.unusedSimpArgs false
open Go.RowKit

theorem Dm.escStep_both {c : UInt8} {r o t : List UInt8} (h : Dm.escStep c r = some (o, t)) : o.length + t.length ≤ r.length + 1 := by
  unfold Dm.escStep at h
  split at h
  · split at h
    · rename_i h1
      simp only [Option.some.injEq, Prod.mk.injEq] at h; obtain ⟨rfl, rfl⟩ := h
      have := h1.1
      simp only [List.length_drop, List.length_cons, List.length_nil] at this ⊢; omega
    · split at h
      · rename_i h1
        split at h
        · simp only [Option.some.injEq, Prod.mk.injEq] at h; obtain ⟨rfl, rfl⟩ := h
          have := h1.1
          simp only [List.length_drop, List.length_cons, List.length_nil] at this ⊢; omega
        · cases h
      · split at h
        · rename_i h1
          split at h
          · simp only [Option.some.injEq, Prod.mk.injEq] at h; obtain ⟨rfl, rfl⟩ := h
            have := h1.1
            simp only [List.length_drop, List.length_cons, List.length_nil] at this ⊢; omega
          · cases h
        · cases h
  · split at h
    · split at h
      · rename_i h1
        simp only [Option.some.injEq, Prod.mk.injEq] at h; obtain ⟨rfl, rfl⟩ := h
        cases r with
        | nil => cases h1
        | cons x r => simp; omega
      · simp only [Option.some.injEq, Prod.mk.injEq] at h; obtain ⟨rfl, rfl⟩ := h
        simp; omega
    · simp only [Option.some.injEq, Prod.mk.injEq] at h; obtain ⟨rfl, rfl⟩ := h
      simp; omega
theorem Dm.esc_len : ∀ (k : Nat) (l : List UInt8), (Dm.esc k l).length ≤ l.length := by
  intro k
  induction k with
  | zero => intro l; exact Nat.le_refl _
  | succ k ih =>
    intro l
    cases l with
    | nil => exact Nat.le_refl _
    | cons c r =>
      simp only [Dm.esc]
      cases hs : Dm.escStep c r with
      | none => exact Nat.le_refl _
      | some x =>
        obtain ⟨o, t⟩ := x
        have h1 := Dm.escStep_both hs
        have h2 := ih t
        simp only [List.length_append, List.length_cons]
        omega
theorem Dm.tl_len (l : List UInt8) : (Dm.tl l).length ≤ l.length := Dm.esc_len _ _
theorem Dm.unbar_len (l : List UInt8) : (Dm.unbar l).length ≤ l.length := by
  unfold Dm.unbar
  split
  · simp
  · exact Nat.le_refl _
/-- What is told of a name between its number and the next one. -/
theorem Dm.esc_unbar (l : List UInt8) : Dm.esc l.length (Dm.unbar l) = Dm.tl (Dm.unbar l) := Dm.esc_fuel _ _ (Dm.unbar_len l)
theorem Dm.dec_less : ∀ (r : List UInt8) (a v : Int) (q : List UInt8), 0 ≤ a → a ≤ 2147483647 → Dm.dec a r = some (v, q) → q.length ≤ r.length ∧ 0 ≤ v ∧ v ≤ 2147483647 := by
  intro r
  induction r with
  | nil => intro a v q h0 h1 h; simp [Dm.dec] at h; obtain ⟨rfl, rfl⟩ := h; simp; exact ⟨h0, h1⟩
  | cons c r ih =>
    intro a v q h0 h1 h
    rw [Dm.dec] at h
    split at h
    · rename_i hd
      obtain ⟨d0, d1⟩ : 48 ≤ (c.toNat : Int) ∧ (c.toNat : Int) ≤ 57 := by simpa [Dm.isDig] using hd
      split at h
      · cases h
      · have := ih _ v q (by omega) (by omega) h
        simp only [List.length_cons]; omega
    · simp only [Option.some.injEq, Prod.mk.injEq] at h; obtain ⟨rfl, rfl⟩ := h
      simp; exact ⟨h0, h1⟩
theorem Dm.dec_first {c : UInt8} {r q : List UInt8} {v : Int} (hd : Dm.isDig c = true) (h : Dm.dec 0 (c :: r) = some (v, q)) : q.length ≤ r.length ∧ 0 ≤ v ∧ v ≤ 2147483647 := by
  rw [Dm.dec, if_pos hd] at h
  obtain ⟨d0, d1⟩ : 48 ≤ (c.toNat : Int) ∧ (c.toNat : Int) ≤ 57 := by simpa [Dm.isDig] using hd
  split at h
  · cases h
  · exact Dm.dec_less r _ v q (by omega) (by omega) h

theorem lbLen_calls (b : Nat) (out : List UInt8) (w : World) (h : LB b out w) :
    Calls Tryd.prog 91 #[.pointer (some ⟨b, 0, none⟩)] w fun e w' => e = .returned (.int .i64 out.length) ∧ w = w' := by
  have h_ := Tryd.Builder_Len b b (Lib.byteCells out) w h
  rw [show (Lib.byteCells out).length = out.length by simp [Lib.byteCells]] at h_
  refine h_.mono ?_
  rintro e w' ⟨rfl, rfl⟩
  exact ⟨rfl, rfl⟩
theorem lbStr_calls (b : Nat) (out : List UInt8) (w : World) (h : LB b out w) :
    Calls Tryd.prog 67 #[.pointer (some ⟨b, 0, none⟩)] w fun e w' => e = .returned (.string (bs out)) ∧ Below b w w' :=
  Tryd.Builder_String_any b b out w h (Nat.le_of_lt h.lt)
end Go.Proofs.YtpmlnhddkbgefaaDoor
namespace Go.Proofs.YtpmlnhddkbgefaaDoor
set_option linter.unusedVariables false
set_option linter.unusedSimpArgs false
open Go.RowKit
noncomputable def mainBody : Code := oldLoops.getD 2 .skip
section
variable {b : Nat} {w0 : World} {mx : Int} {X : Dm.LR} {A1 A2 A3 A4 A5 A7 A8 B0 B1 B2 B3 C8 C9 D0 D1 D2 D3 D4 D5 D6 D7 D8 D9 E0 E1 E2 E3 E4 E5 E6 E7 E8 E9 F0 F1 F2 F3 F4 F5 F6 F7 F8 F9 G0 G1 G2 G3 G4 G5 G6 G7 G8 G9 H0 H1 H2 H3 x5 x6 x7 x8 x9 z0 z1 z2 z3 z4 z5 z6 z7 : Value}
/-- What holds ahead of a round: the builder, what is left to be read. -/
def MainR (b : Nat) (w0 : World) (mx : Int) (X : Dm.LR) (n out : List UInt8) (w : World) : Prop := LB b out w ∧ Below b w0 w ∧ (∃ k, Dm.lgMain k mx out n = X ∧ n.length ≤ k) ∧ out.length + 2 * n.length ≤ 70368744177664
set_option maxRecDepth 1000000 in
def MainI (b : Nat) (w0 : World) (mx : Int) (X : Dm.LR) (A1 A2 A3 A4 A5 A7 A8 B0 B1 B2 B3 C8 C9 D0 D1 D2 D3 D4 D5 D6 D7 D8 D9 E0 E1 E2 E3 E4 E5 E6 E7 E8 E9 F0 F1 F2 F3 F4 F5 F6 F7 F8 F9 G0 G1 G2 G3 G4 G5 G6 G7 G8 G9 H0 H1 H2 H3 x5 x6 x7 x8 x9 z0 z1 z2 z3 z4 z5 z6 z7 : Value) (a : Act) (w' : World) : Prop :=
  ∃ B5 B6 B7 B8 B9 C0 C1 C2 C3 C4 C5 C6 C7 H4 H5 H6 H7 H8 H9 I0 I1 I2 I3 I4 I5 I6 I7 I8 I9 J0 J1 J2 J3 J4 J5 J6 J7 J8 J9 K0 K1 K2 K3 K4 K5 K6 K7 K8 K9 L0 L1 L2 L3 L4 L5 L6 L7 L8 L9 M0 M1 M2 M3 M4 M5 M6 M7 M8 M9 N0 N1 N2 N3 N4 N5 N6 N7 N8 N9 O0 O1 O2 O3 O4 O5 O6 O7 O8 O9 P0 P1 P2 P3 P4 P5 P6 P7 P8 P9 R0 R1 R2 R3 R4 R5 R6 R7 R8 R9 S0 S1 S2 S3 S4 S5 S6 S7 S8 S9 T0 T1 T2 T3 T4 T5 T6 T7 T8 T9 U0 U1 U2 U3 U4 U5 U6 U7 U8 U9 V0 V1 V2 V3 V4 V5 V6 V7 V8 V9 W0 W1 W2 W3 W4 W5 W6 W7 W8 W9 X0 X1 X2 X3 X4 X5 X6 X7 X8 X9 Y0 Y1 Y2 Y3 Y4 Y5 Y6 Y7 Y8 Y9 Z0 Z1 Z2 Z3 Z4 Z5 Z6 Z7 Z8 Z9 x0 x1 x2 x3 x4 : Value, ∃ (n out : List UInt8), MainR b w0 mx X n out w' ∧ a = ⟨#[.string (bs n), A1, A2, A3, A4, A5, .int .i64 mx, A7, A8, HF, B0, B1, B2, B3, .pointer (some ⟨b, 0, none⟩), B5, B6, B7, B8, B9, C0, C1, C2, C3, C4, C5, C6, C7, C8, C9, D0, D1, D2, D3, D4, D5, D6, D7, D8, D9, E0, E1, E2, E3, E4, E5, E6, E7, E8, E9, F0, F1, F2, F3, F4, F5, F6, F7, F8, F9, G0, G1, G2, G3, G4, G5, G6, G7, G8, G9, H0, H1, H2, H3, H4, H5, H6, H7, H8, H9, I0, I1, I2, I3, I4, I5, I6, I7, I8, I9, J0, J1, J2, J3, J4, J5, J6, J7, J8, J9, K0, K1, K2, K3, K4, K5, K6, K7, K8, K9, L0, L1, L2, L3, L4, L5, L6, L7, L8, L9, M0, M1, M2, M3, M4, M5, M6, M7, M8, M9, N0, N1, N2, N3, N4, N5, N6, N7, N8, N9, O0, O1, O2, O3, O4, O5, O6, O7, O8, O9, P0, P1, P2, P3, P4, P5, P6, P7, P8, P9, R0, R1, R2, R3, R4, R5, R6, R7, R8, R9, S0, S1, S2, S3, S4, S5, S6, S7, S8, S9, T0, T1, T2, T3, T4, T5, T6, T7, T8, T9, U0, U1, U2, U3, U4, U5, U6, U7, U8, U9, V0, V1, V2, V3, V4, V5, V6, V7, V8, V9, W0, W1, W2, W3, W4, W5, W6, W7, W8, W9, X0, X1, X2, X3, X4, X5, X6, X7, X8, X9, Y0, Y1, Y2, Y3, Y4, Y5, Y6, Y7, Y8, Y9, Z0, Z1, Z2, Z3, Z4, Z5, Z6, Z7, Z8, Z9, x0, x1, x2, x3, x4, x5, x6, x7, x8, x9, z0, z1, z2, z3, z4, z5, z6, z7], []⟩
set_option maxRecDepth 1000000 in
def MainX (b : Nat) (w0 : World) (mx : Int) (X : Dm.LR) (A1 A2 A3 A4 A5 A7 A8 B0 B1 B2 B3 C8 C9 D0 D1 D2 D3 D4 D5 D6 D7 D8 D9 E0 E1 E2 E3 E4 E5 E6 E7 E8 E9 F0 F1 F2 F3 F4 F5 F6 F7 F8 F9 G0 G1 G2 G3 G4 G5 G6 G7 G8 G9 H0 H1 H2 H3 x5 x6 x7 x8 x9 z0 z1 z2 z3 z4 z5 z6 z7 : Value) (a : Act) (w' : World) : Prop :=
  ∃ A0 B5 B6 B7 B8 B9 C0 C1 C2 C3 C4 C5 C6 C7 H4 H5 H6 H7 H8 H9 I0 I1 I2 I3 I4 I5 I6 I7 I8 I9 J0 J1 J2 J3 J4 J5 J6 J7 J8 J9 K0 K1 K2 K3 K4 K5 K6 K7 K8 K9 L0 L1 L2 L3 L4 L5 L6 L7 L8 L9 M0 M1 M2 M3 M4 M5 M6 M7 M8 M9 N0 N1 N2 N3 N4 N5 N6 N7 N8 N9 O0 O1 O2 O3 O4 O5 O6 O7 O8 O9 P0 P1 P2 P3 P4 P5 P6 P7 P8 P9 R0 R1 R2 R3 R4 R5 R6 R7 R8 R9 S0 S1 S2 S3 S4 S5 S6 S7 S8 S9 T0 T1 T2 T3 T4 T5 T6 T7 T8 T9 U0 U1 U2 U3 U4 U5 U6 U7 U8 U9 V0 V1 V2 V3 V4 V5 V6 V7 V8 V9 W0 W1 W2 W3 W4 W5 W6 W7 W8 W9 X0 X1 X2 X3 X4 X5 X6 X7 X8 X9 Y0 Y1 Y2 Y3 Y4 Y5 Y6 Y7 Y8 Y9 Z0 Z1 Z2 Z3 Z4 Z5 Z6 Z7 Z8 Z9 x0 x1 x2 x3 x4 : Value, (∃ out, LB b out w' ∧ Below b w0 w' ∧ X = .told out ∧ out.length ≤ 70368744177664) ∧ a = ⟨#[A0, A1, A2, A3, A4, A5, .int .i64 mx, A7, A8, HF, B0, B1, B2, B3, .pointer (some ⟨b, 0, none⟩), B5, B6, B7, B8, B9, C0, C1, C2, C3, C4, C5, C6, C7, C8, C9, D0, D1, D2, D3, D4, D5, D6, D7, D8, D9, E0, E1, E2, E3, E4, E5, E6, E7, E8, E9, F0, F1, F2, F3, F4, F5, F6, F7, F8, F9, G0, G1, G2, G3, G4, G5, G6, G7, G8, G9, H0, H1, H2, H3, H4, H5, H6, H7, H8, H9, I0, I1, I2, I3, I4, I5, I6, I7, I8, I9, J0, J1, J2, J3, J4, J5, J6, J7, J8, J9, K0, K1, K2, K3, K4, K5, K6, K7, K8, K9, L0, L1, L2, L3, L4, L5, L6, L7, L8, L9, M0, M1, M2, M3, M4, M5, M6, M7, M8, M9, N0, N1, N2, N3, N4, N5, N6, N7, N8, N9, O0, O1, O2, O3, O4, O5, O6, O7, O8, O9, P0, P1, P2, P3, P4, P5, P6, P7, P8, P9, R0, R1, R2, R3, R4, R5, R6, R7, R8, R9, S0, S1, S2, S3, S4, S5, S6, S7, S8, S9, T0, T1, T2, T3, T4, T5, T6, T7, T8, T9, U0, U1, U2, U3, U4, U5, U6, U7, U8, U9, V0, V1, V2, V3, V4, V5, V6, V7, V8, V9, W0, W1, W2, W3, W4, W5, W6, W7, W8, W9, X0, X1, X2, X3, X4, X5, X6, X7, X8, X9, Y0, Y1, Y2, Y3, Y4, Y5, Y6, Y7, Y8, Y9, Z0, Z1, Z2, Z3, Z4, Z5, Z6, Z7, Z8, Z9, x0, x1, x2, x3, x4, x5, x6, x7, x8, x9, z0, z1, z2, z3, z4, z5, z6, z7], []⟩
set_option maxRecDepth 1000000 in
def MainB (b : Nat) (w0 : World) (mx : Int) (X : Dm.LR) (A1 A2 A3 A4 A5 A7 A8 B0 B1 B2 B3 C8 C9 D0 D1 D2 D3 D4 D5 D6 D7 D8 D9 E0 E1 E2 E3 E4 E5 E6 E7 E8 E9 F0 F1 F2 F3 F4 F5 F6 F7 F8 F9 G0 G1 G2 G3 G4 G5 G6 G7 G8 G9 H0 H1 H2 H3 x5 x6 x7 x8 x9 z0 z1 z2 z3 z4 z5 z6 z7 : Value) (a : Act) (w' : World) : Prop :=
  ∃ A0 B5 B6 B7 B8 B9 C0 C1 C2 C3 C4 C5 C6 C7 H4 H5 H6 H7 H8 H9 I0 I1 I2 I3 I4 I5 I6 I7 I8 I9 J0 J1 J2 J3 J4 J5 J6 J7 J8 J9 K0 K1 K2 K3 K4 K5 K6 K7 K8 K9 L0 L1 L2 L3 L4 L5 L6 L7 L8 L9 M0 M1 M2 M3 M4 M5 M6 M7 M8 M9 N0 N1 N2 N3 N4 N5 N6 N7 N8 N9 O0 O1 O2 O3 O4 O5 O6 O7 O8 O9 P0 P1 P2 P3 P4 P5 P6 P7 P8 P9 R0 R1 R2 R3 R4 R5 R6 R7 R8 R9 S0 S1 S2 S3 S4 S5 S6 S7 S8 S9 T0 T1 T2 T3 T4 T5 T6 T7 T8 T9 U0 U1 U2 U3 U4 U5 U6 U7 U8 U9 V0 V1 V2 V3 V4 V5 V6 V7 V8 V9 W0 W1 W2 W3 W4 W5 W6 W7 W8 W9 X0 X1 X2 X3 X4 X5 X6 X7 X8 X9 Y0 Y1 Y2 Y3 Y4 Y5 Y6 Y7 Y8 Y9 Z0 Z1 Z2 Z3 Z4 Z5 Z6 Z7 Z8 Z9 x0 x1 x2 x3 x4 : Value, (Below b w0 w' ∧ X = .bad) ∧ a = ⟨#[A0, A1, A2, A3, .string ⟨#[]⟩, .bool false, .int .i64 mx, A7, A8, HF, B0, B1, B2, B3, .pointer (some ⟨b, 0, none⟩), B5, B6, B7, B8, B9, C0, C1, C2, C3, C4, C5, C6, C7, C8, C9, D0, D1, D2, D3, D4, D5, D6, D7, D8, D9, E0, E1, E2, E3, E4, E5, E6, E7, E8, E9, F0, F1, F2, F3, F4, F5, F6, F7, F8, F9, G0, G1, G2, G3, G4, G5, G6, G7, G8, G9, H0, H1, H2, H3, H4, H5, H6, H7, H8, H9, I0, I1, I2, I3, I4, I5, I6, I7, I8, I9, J0, J1, J2, J3, J4, J5, J6, J7, J8, J9, K0, K1, K2, K3, K4, K5, K6, K7, K8, K9, L0, L1, L2, L3, L4, L5, L6, L7, L8, L9, M0, M1, M2, M3, M4, M5, M6, M7, M8, M9, N0, N1, N2, N3, N4, N5, N6, N7, N8, N9, O0, O1, O2, O3, O4, O5, O6, O7, O8, O9, P0, P1, P2, P3, P4, P5, P6, P7, P8, P9, R0, R1, R2, R3, R4, R5, R6, R7, R8, R9, S0, S1, S2, S3, S4, S5, S6, S7, S8, S9, T0, T1, T2, T3, T4, T5, T6, T7, T8, T9, U0, U1, U2, U3, U4, U5, U6, U7, U8, U9, V0, V1, V2, V3, V4, V5, V6, V7, V8, V9, W0, W1, W2, W3, W4, W5, W6, W7, W8, W9, X0, X1, X2, X3, X4, X5, X6, X7, X8, X9, Y0, Y1, Y2, Y3, Y4, Y5, Y6, Y7, Y8, Y9, Z0, Z1, Z2, Z3, Z4, Z5, Z6, Z7, Z8, Z9, x0, x1, x2, x3, x4, x5, x6, x7, x8, x9, z0, z1, z2, z3, z4, z5, z6, z7], []⟩
def mainMu (a : Act) : Nat := match a.tmps.getD 0 undef with | .string s => s.size | _ => 0
set_option maxRecDepth 1000000 in
theorem digB_some {w0 w : World} {x : Int × List UInt8} {A1 A2 A3 A4 A5 A6 A7 A8 A9 B0 B1 B2 B3 B4 B7 B8 B9 C0 C1 C2 C3 C4 C5 C6 C7 C8 C9 D0 D1 D2 D3 D4 D5 D6 D7 D8 D9 E0 E1 E2 E3 E4 E5 E6 E7 E8 E9 F0 F1 F2 F3 F4 F5 F6 F7 F8 F9 G0 G1 G2 G3 G4 G5 G6 G7 G8 G9 H0 H1 H2 H3 H4 H5 H6 H7 H8 H9 I0 I1 I2 I3 I4 I5 I6 I7 L1 L2 L3 L4 L5 L6 L7 L8 L9 M0 M1 M2 M3 M4 M5 M6 M7 M8 M9 N0 N1 N2 N3 N4 N5 N6 N7 N8 N9 O0 O1 O2 O3 O4 O5 O6 O7 O8 O9 P0 P1 P2 P3 P4 P5 P6 P7 P8 P9 R0 R1 R2 R3 R4 R5 R6 R7 R8 R9 S0 S1 S2 S3 S4 S5 S6 S7 S8 S9 T0 T1 T2 T3 T4 T5 T6 T7 T8 T9 U0 U1 U2 U3 U4 U5 U6 U7 U8 U9 V0 V1 V2 V3 V4 V5 V6 V7 V8 V9 W0 W1 W2 W3 W4 W5 W6 W7 W8 W9 X0 X1 X2 X3 X4 X5 X6 X7 X8 X9 Y0 Y1 Y2 Y3 Y4 Y5 Y6 Y7 Y8 Y9 Z0 Z1 Z2 Z3 Z4 Z5 Z6 Z7 Z8 Z9 x0 x1 x2 x3 x4 x5 x6 x7 x8 x9 z0 z1 z2 z3 z4 z5 z6 z7 : Value} {a : Act} (h : DigB w0 (some x) A1 A2 A3 A4 A5 A6 A7 A8 A9 B0 B1 B2 B3 B4 B7 B8 B9 C0 C1 C2 C3 C4 C5 C6 C7 C8 C9 D0 D1 D2 D3 D4 D5 D6 D7 D8 D9 E0 E1 E2 E3 E4 E5 E6 E7 E8 E9 F0 F1 F2 F3 F4 F5 F6 F7 F8 F9 G0 G1 G2 G3 G4 G5 G6 G7 G8 G9 H0 H1 H2 H3 H4 H5 H6 H7 H8 H9 I0 I1 I2 I3 I4 I5 I6 I7 L1 L2 L3 L4 L5 L6 L7 L8 L9 M0 M1 M2 M3 M4 M5 M6 M7 M8 M9 N0 N1 N2 N3 N4 N5 N6 N7 N8 N9 O0 O1 O2 O3 O4 O5 O6 O7 O8 O9 P0 P1 P2 P3 P4 P5 P6 P7 P8 P9 R0 R1 R2 R3 R4 R5 R6 R7 R8 R9 S0 S1 S2 S3 S4 S5 S6 S7 S8 S9 T0 T1 T2 T3 T4 T5 T6 T7 T8 T9 U0 U1 U2 U3 U4 U5 U6 U7 U8 U9 V0 V1 V2 V3 V4 V5 V6 V7 V8 V9 W0 W1 W2 W3 W4 W5 W6 W7 W8 W9 X0 X1 X2 X3 X4 X5 X6 X7 X8 X9 Y0 Y1 Y2 Y3 Y4 Y5 Y6 Y7 Y8 Y9 Z0 Z1 Z2 Z3 Z4 Z5 Z6 Z7 Z8 Z9 x0 x1 x2 x3 x4 x5 x6 x7 x8 x9 z0 z1 z2 z3 z4 z5 z6 z7 a w) : False := by
  unfold DigB at h
  iterate 24 (obtain ⟨_, h⟩ := h)
  obtain ⟨A0, B5, ⟨_, h⟩, _⟩ := h
  cases h
set_option maxRecDepth 1000000 in
theorem digX_none {w0 w : World} {A1 A2 A3 A4 A5 A6 A7 A8 A9 B0 B1 B2 B3 B4 B7 B8 B9 C0 C1 C2 C3 C4 C5 C6 C7 C8 C9 D0 D1 D2 D3 D4 D5 D6 D7 D8 D9 E0 E1 E2 E3 E4 E5 E6 E7 E8 E9 F0 F1 F2 F3 F4 F5 F6 F7 F8 F9 G0 G1 G2 G3 G4 G5 G6 G7 G8 G9 H0 H1 H2 H3 H4 H5 H6 H7 H8 H9 I0 I1 I2 I3 I4 I5 I6 I7 L1 L2 L3 L4 L5 L6 L7 L8 L9 M0 M1 M2 M3 M4 M5 M6 M7 M8 M9 N0 N1 N2 N3 N4 N5 N6 N7 N8 N9 O0 O1 O2 O3 O4 O5 O6 O7 O8 O9 P0 P1 P2 P3 P4 P5 P6 P7 P8 P9 R0 R1 R2 R3 R4 R5 R6 R7 R8 R9 S0 S1 S2 S3 S4 S5 S6 S7 S8 S9 T0 T1 T2 T3 T4 T5 T6 T7 T8 T9 U0 U1 U2 U3 U4 U5 U6 U7 U8 U9 V0 V1 V2 V3 V4 V5 V6 V7 V8 V9 W0 W1 W2 W3 W4 W5 W6 W7 W8 W9 X0 X1 X2 X3 X4 X5 X6 X7 X8 X9 Y0 Y1 Y2 Y3 Y4 Y5 Y6 Y7 Y8 Y9 Z0 Z1 Z2 Z3 Z4 Z5 Z6 Z7 Z8 Z9 x0 x1 x2 x3 x4 x5 x6 x7 x8 x9 z0 z1 z2 z3 z4 z5 z6 z7 : Value} {a : Act} (h : DigX w0 none A1 A2 A3 A4 A5 A6 A7 A8 A9 B0 B1 B2 B3 B4 B7 B8 B9 C0 C1 C2 C3 C4 C5 C6 C7 C8 C9 D0 D1 D2 D3 D4 D5 D6 D7 D8 D9 E0 E1 E2 E3 E4 E5 E6 E7 E8 E9 F0 F1 F2 F3 F4 F5 F6 F7 F8 F9 G0 G1 G2 G3 G4 G5 G6 G7 G8 G9 H0 H1 H2 H3 H4 H5 H6 H7 H8 H9 I0 I1 I2 I3 I4 I5 I6 I7 L1 L2 L3 L4 L5 L6 L7 L8 L9 M0 M1 M2 M3 M4 M5 M6 M7 M8 M9 N0 N1 N2 N3 N4 N5 N6 N7 N8 N9 O0 O1 O2 O3 O4 O5 O6 O7 O8 O9 P0 P1 P2 P3 P4 P5 P6 P7 P8 P9 R0 R1 R2 R3 R4 R5 R6 R7 R8 R9 S0 S1 S2 S3 S4 S5 S6 S7 S8 S9 T0 T1 T2 T3 T4 T5 T6 T7 T8 T9 U0 U1 U2 U3 U4 U5 U6 U7 U8 U9 V0 V1 V2 V3 V4 V5 V6 V7 V8 V9 W0 W1 W2 W3 W4 W5 W6 W7 W8 W9 X0 X1 X2 X3 X4 X5 X6 X7 X8 X9 Y0 Y1 Y2 Y3 Y4 Y5 Y6 Y7 Y8 Y9 Z0 Z1 Z2 Z3 Z4 Z5 Z6 Z7 Z8 Z9 x0 x1 x2 x3 x4 x5 x6 x7 x8 x9 z0 z1 z2 z3 z4 z5 z6 z7 a w) : False := by
  unfold DigX at h
  iterate 24 (obtain ⟨_, h⟩ := h)
  obtain ⟨l, v, ⟨_, h⟩, _⟩ := h
  cases h
set_option maxHeartbeats 8000000 in
set_option maxRecDepth 1000000 in
theorem main_nil (out : List UInt8) (wr : World) (B5 B6 B7 B8 B9 C0 C1 C2 C3 C4 C5 C6 C7 H4 H5 H6 H7 H8 H9 I0 I1 I2 I3 I4 I5 I6 I7 I8 I9 J0 J1 J2 J3 J4 J5 J6 J7 J8 J9 K0 K1 K2 K3 K4 K5 K6 K7 K8 K9 L0 L1 L2 L3 L4 L5 L6 L7 L8 L9 M0 M1 M2 M3 M4 M5 M6 M7 M8 M9 N0 N1 N2 N3 N4 N5 N6 N7 N8 N9 O0 O1 O2 O3 O4 O5 O6 O7 O8 O9 P0 P1 P2 P3 P4 P5 P6 P7 P8 P9 R0 R1 R2 R3 R4 R5 R6 R7 R8 R9 S0 S1 S2 S3 S4 S5 S6 S7 S8 S9 T0 T1 T2 T3 T4 T5 T6 T7 T8 T9 U0 U1 U2 U3 U4 U5 U6 U7 U8 U9 V0 V1 V2 V3 V4 V5 V6 V7 V8 V9 W0 W1 W2 W3 W4 W5 W6 W7 W8 W9 X0 X1 X2 X3 X4 X5 X6 X7 X8 X9 Y0 Y1 Y2 Y3 Y4 Y5 Y6 Y7 Y8 Y9 Z0 Z1 Z2 Z3 Z4 Z5 Z6 Z7 Z8 Z9 x0 x1 x2 x3 x4 : Value) (Q0 : Exit → Act → World → Prop) (h : MainR b w0 mx X [] out wr) (hexit : ∀ a' w'', MainX b w0 mx X A1 A2 A3 A4 A5 A7 A8 B0 B1 B2 B3 C8 C9 D0 D1 D2 D3 D4 D5 D6 D7 D8 D9 E0 E1 E2 E3 E4 E5 E6 E7 E8 E9 F0 F1 F2 F3 F4 F5 F6 F7 F8 F9 G0 G1 G2 G3 G4 G5 G6 G7 G8 G9 H0 H1 H2 H3 x5 x6 x7 x8 x9 z0 z1 z2 z3 z4 z5 z6 z7 a' w'' → Q0 (.exit 4) a' w'') (NX : Act → World → Prop) :
    Code.wp Tryd.prog mainBody (Exit.then NX Q0) ⟨#[.string (bs []), A1, A2, A3, A4, A5, .int .i64 mx, A7, A8, HF, B0, B1, B2, B3, .pointer (some ⟨b, 0, none⟩), B5, B6, B7, B8, B9, C0, C1, C2, C3, C4, C5, C6, C7, C8, C9, D0, D1, D2, D3, D4, D5, D6, D7, D8, D9, E0, E1, E2, E3, E4, E5, E6, E7, E8, E9, F0, F1, F2, F3, F4, F5, F6, F7, F8, F9, G0, G1, G2, G3, G4, G5, G6, G7, G8, G9, H0, H1, H2, H3, H4, H5, H6, H7, H8, H9, I0, I1, I2, I3, I4, I5, I6, I7, I8, I9, J0, J1, J2, J3, J4, J5, J6, J7, J8, J9, K0, K1, K2, K3, K4, K5, K6, K7, K8, K9, L0, L1, L2, L3, L4, L5, L6, L7, L8, L9, M0, M1, M2, M3, M4, M5, M6, M7, M8, M9, N0, N1, N2, N3, N4, N5, N6, N7, N8, N9, O0, O1, O2, O3, O4, O5, O6, O7, O8, O9, P0, P1, P2, P3, P4, P5, P6, P7, P8, P9, R0, R1, R2, R3, R4, R5, R6, R7, R8, R9, S0, S1, S2, S3, S4, S5, S6, S7, S8, S9, T0, T1, T2, T3, T4, T5, T6, T7, T8, T9, U0, U1, U2, U3, U4, U5, U6, U7, U8, U9, V0, V1, V2, V3, V4, V5, V6, V7, V8, V9, W0, W1, W2, W3, W4, W5, W6, W7, W8, W9, X0, X1, X2, X3, X4, X5, X6, X7, X8, X9, Y0, Y1, Y2, Y3, Y4, Y5, Y6, Y7, Y8, Y9, Z0, Z1, Z2, Z3, Z4, Z5, Z6, Z7, Z8, Z9, x0, x1, x2, x3, x4, x5, x6, x7, x8, x9, z0, z1, z2, z3, z4, z5, z6, z7], []⟩ wr := by
  obtain ⟨hlb, hb, ⟨k, hk, _⟩, hl⟩ := h
  have HX := Lib.hid (show X = .told out by rw [← hk]; cases k <;> rfl)
  have HL := Lib.hid (show out.length ≤ 70368744177664 by simp at hl; omega)
  have hz := bs_size []
  have HB := Lib.hid hb
  have HLB := Lib.hid hlb
  clear hlb hb hk hl
  conv => arg 2; whnf
  go_wp2_with fail
  unfold MainX
  exact ⟨_, _, _, _, _, _, _, _, _, _, _, _, _, _, _, _, _, _, _, _, _, _, _, _, _, _, _, _, _, _, _, _, _, _, _, _, _, _, _, _, _, _, _, _, _, _, _, _, _, _, _, _, _, _, _, _, _, _, _, _, _, _, _, _, _, _, _, _, _, _, _, _, _, _, _, _, _, _, _, _, _, _, _, _, _, _, _, _, _, _, _, _, _, _, _, _, _, _, _, _, _, _, _, _, _, _, _, _, _, _, _, _, _, _, _, _, _, _, _, _, _, _, _, _, _, _, _, _, _, _, _, _, _, _, _, _, _, _, _, _, _, _, _, _, _, _, _, _, _, _, _, _, _, _, _, _, _, _, _, _, _, _, _, _, _, _, _, _, _, _, _, _, _, _, _, _, _, _, _, _, _, _, _, _, _, _, _, _, _, _, _, _, _, _, _, ⟨out, HLB.out, HB.out, HX.out, HL.out⟩, rfl⟩
set_option maxHeartbeats 8000000 in
set_option maxRecDepth 1000000 in
theorem main_cut (c : UInt8) (r out : List UInt8) (wr : World) (B5 B6 B7 B8 B9 C0 C1 C2 C3 C4 C5 C6 C7 H4 H5 H6 H7 H8 H9 I0 I1 I2 I3 I4 I5 I6 I7 I8 I9 J0 J1 J2 J3 J4 J5 J6 J7 J8 J9 K0 K1 K2 K3 K4 K5 K6 K7 K8 K9 L0 L1 L2 L3 L4 L5 L6 L7 L8 L9 M0 M1 M2 M3 M4 M5 M6 M7 M8 M9 N0 N1 N2 N3 N4 N5 N6 N7 N8 N9 O0 O1 O2 O3 O4 O5 O6 O7 O8 O9 P0 P1 P2 P3 P4 P5 P6 P7 P8 P9 R0 R1 R2 R3 R4 R5 R6 R7 R8 R9 S0 S1 S2 S3 S4 S5 S6 S7 S8 S9 T0 T1 T2 T3 T4 T5 T6 T7 T8 T9 U0 U1 U2 U3 U4 U5 U6 U7 U8 U9 V0 V1 V2 V3 V4 V5 V6 V7 V8 V9 W0 W1 W2 W3 W4 W5 W6 W7 W8 W9 X0 X1 X2 X3 X4 X5 X6 X7 X8 X9 Y0 Y1 Y2 Y3 Y4 Y5 Y6 Y7 Y8 Y9 Z0 Z1 Z2 Z3 Z4 Z5 Z6 Z7 Z8 Z9 x0 x1 x2 x3 x4 : Value) (Q0 : Exit → Act → World → Prop) (h : MainR b w0 mx X (c :: r) out wr) (h0 : 0 < mx) (h1 : mx < (out.length : Int)) (hexit : ∀ a' w'', MainX b w0 mx X A1 A2 A3 A4 A5 A7 A8 B0 B1 B2 B3 C8 C9 D0 D1 D2 D3 D4 D5 D6 D7 D8 D9 E0 E1 E2 E3 E4 E5 E6 E7 E8 E9 F0 F1 F2 F3 F4 F5 F6 F7 F8 F9 G0 G1 G2 G3 G4 G5 G6 G7 G8 G9 H0 H1 H2 H3 x5 x6 x7 x8 x9 z0 z1 z2 z3 z4 z5 z6 z7 a' w'' → Q0 (.exit 4) a' w'') (NX : Act → World → Prop) :
    Code.wp Tryd.prog mainBody (Exit.then NX Q0) ⟨#[.string (bs (c :: r)), A1, A2, A3, A4, A5, .int .i64 mx, A7, A8, HF, B0, B1, B2, B3, .pointer (some ⟨b, 0, none⟩), B5, B6, B7, B8, B9, C0, C1, C2, C3, C4, C5, C6, C7, C8, C9, D0, D1, D2, D3, D4, D5, D6, D7, D8, D9, E0, E1, E2, E3, E4, E5, E6, E7, E8, E9, F0, F1, F2, F3, F4, F5, F6, F7, F8, F9, G0, G1, G2, G3, G4, G5, G6, G7, G8, G9, H0, H1, H2, H3, H4, H5, H6, H7, H8, H9, I0, I1, I2, I3, I4, I5, I6, I7, I8, I9, J0, J1, J2, J3, J4, J5, J6, J7, J8, J9, K0, K1, K2, K3, K4, K5, K6, K7, K8, K9, L0, L1, L2, L3, L4, L5, L6, L7, L8, L9, M0, M1, M2, M3, M4, M5, M6, M7, M8, M9, N0, N1, N2, N3, N4, N5, N6, N7, N8, N9, O0, O1, O2, O3, O4, O5, O6, O7, O8, O9, P0, P1, P2, P3, P4, P5, P6, P7, P8, P9, R0, R1, R2, R3, R4, R5, R6, R7, R8, R9, S0, S1, S2, S3, S4, S5, S6, S7, S8, S9, T0, T1, T2, T3, T4, T5, T6, T7, T8, T9, U0, U1, U2, U3, U4, U5, U6, U7, U8, U9, V0, V1, V2, V3, V4, V5, V6, V7, V8, V9, W0, W1, W2, W3, W4, W5, W6, W7, W8, W9, X0, X1, X2, X3, X4, X5, X6, X7, X8, X9, Y0, Y1, Y2, Y3, Y4, Y5, Y6, Y7, Y8, Y9, Z0, Z1, Z2, Z3, Z4, Z5, Z6, Z7, Z8, Z9, x0, x1, x2, x3, x4, x5, x6, x7, x8, x9, z0, z1, z2, z3, z4, z5, z6, z7], []⟩ wr := by
  obtain ⟨hlb, hb, ⟨k, hk, hkl⟩, hl⟩ := h
  have HX := Lib.hid (show X = .told out by
    rw [← hk]
    obtain ⟨k, rfl⟩ : ∃ m, k = m + 1 := ⟨k - 1, by simp at hkl; omega⟩
    simp only [Dm.lgMain]; rw [if_pos ⟨h0, h1⟩])
  have HL := Lib.hid (show out.length ≤ 70368744177664 by simp at hl; omega)
  have hz := bs_size (c :: r)
  have i0 : (bs (c :: r))[0]'(by rw [hz]; simp) = c := rfl
  have lz0 : (0 : Int) < ((bs (c :: r)).size : Int) := by rw [hz]; simp <;> omega
  have ly0 : (0 : Int) < (r.length : Int) + 1 := by omega
  have HLEN := Lib.hid (lbLen_calls b out wr hlb)
  have HB := Lib.hid hb
  have HLB := Lib.hid hlb
  clear hlb hb hk hkl hl
  conv => arg 2; whnf
  go_wp2_with fail
  go_step3
  go_wp2_with (first | (go_at_call 91; refine HLEN.out.mono ?_; rintro e wx ⟨rfl, rfl⟩) | fail)
  refine (hexit _ _ ?_ : Q0 (Exit.exit 4) _ _)
  unfold MainX
  exact ⟨_, _, _, _, _, _, _, _, _, _, _, _, _, _, _, _, _, _, _, _, _, _, _, _, _, _, _, _, _, _, _, _, _, _, _, _, _, _, _, _, _, _, _, _, _, _, _, _, _, _, _, _, _, _, _, _, _, _, _, _, _, _, _, _, _, _, _, _, _, _, _, _, _, _, _, _, _, _, _, _, _, _, _, _, _, _, _, _, _, _, _, _, _, _, _, _, _, _, _, _, _, _, _, _, _, _, _, _, _, _, _, _, _, _, _, _, _, _, _, _, _, _, _, _, _, _, _, _, _, _, _, _, _, _, _, _, _, _, _, _, _, _, _, _, _, _, _, _, _, _, _, _, _, _, _, _, _, _, _, _, _, _, _, _, _, _, _, _, _, _, _, _, _, _, _, _, _, _, _, _, _, _, _, _, _, _, _, _, _, _, _, _, _, _, _, ⟨out, HLB.out, HB.out, HX.out, HL.out⟩, rfl⟩
set_option maxHeartbeats 8000000 in
set_option maxRecDepth 1000000 in
theorem main_nodig (c : UInt8) (r out : List UInt8) (wr : World) (B5 B6 B7 B8 B9 C0 C1 C2 C3 C4 C5 C6 C7 H4 H5 H6 H7 H8 H9 I0 I1 I2 I3 I4 I5 I6 I7 I8 I9 J0 J1 J2 J3 J4 J5 J6 J7 J8 J9 K0 K1 K2 K3 K4 K5 K6 K7 K8 K9 L0 L1 L2 L3 L4 L5 L6 L7 L8 L9 M0 M1 M2 M3 M4 M5 M6 M7 M8 M9 N0 N1 N2 N3 N4 N5 N6 N7 N8 N9 O0 O1 O2 O3 O4 O5 O6 O7 O8 O9 P0 P1 P2 P3 P4 P5 P6 P7 P8 P9 R0 R1 R2 R3 R4 R5 R6 R7 R8 R9 S0 S1 S2 S3 S4 S5 S6 S7 S8 S9 T0 T1 T2 T3 T4 T5 T6 T7 T8 T9 U0 U1 U2 U3 U4 U5 U6 U7 U8 U9 V0 V1 V2 V3 V4 V5 V6 V7 V8 V9 W0 W1 W2 W3 W4 W5 W6 W7 W8 W9 X0 X1 X2 X3 X4 X5 X6 X7 X8 X9 Y0 Y1 Y2 Y3 Y4 Y5 Y6 Y7 Y8 Y9 Z0 Z1 Z2 Z3 Z4 Z5 Z6 Z7 Z8 Z9 x0 x1 x2 x3 x4 : Value) (Q0 : Exit → Act → World → Prop) (h : MainR b w0 mx X (c :: r) out wr) (hm : mx ≤ 0 ∨ (0 < mx ∧ ¬ mx < (out.length : Int))) (hd : Dm.isDig c = false) (hret : ∀ a' w'', MainB b w0 mx X A1 A2 A3 A4 A5 A7 A8 B0 B1 B2 B3 C8 C9 D0 D1 D2 D3 D4 D5 D6 D7 D8 D9 E0 E1 E2 E3 E4 E5 E6 E7 E8 E9 F0 F1 F2 F3 F4 F5 F6 F7 F8 F9 G0 G1 G2 G3 G4 G5 G6 G7 G8 G9 H0 H1 H2 H3 x5 x6 x7 x8 x9 z0 z1 z2 z3 z4 z5 z6 z7 a' w'' → Q0 .ret a' w'') (NX : Act → World → Prop) :
    Code.wp Tryd.prog mainBody (Exit.then NX Q0) ⟨#[.string (bs (c :: r)), A1, A2, A3, A4, A5, .int .i64 mx, A7, A8, HF, B0, B1, B2, B3, .pointer (some ⟨b, 0, none⟩), B5, B6, B7, B8, B9, C0, C1, C2, C3, C4, C5, C6, C7, C8, C9, D0, D1, D2, D3, D4, D5, D6, D7, D8, D9, E0, E1, E2, E3, E4, E5, E6, E7, E8, E9, F0, F1, F2, F3, F4, F5, F6, F7, F8, F9, G0, G1, G2, G3, G4, G5, G6, G7, G8, G9, H0, H1, H2, H3, H4, H5, H6, H7, H8, H9, I0, I1, I2, I3, I4, I5, I6, I7, I8, I9, J0, J1, J2, J3, J4, J5, J6, J7, J8, J9, K0, K1, K2, K3, K4, K5, K6, K7, K8, K9, L0, L1, L2, L3, L4, L5, L6, L7, L8, L9, M0, M1, M2, M3, M4, M5, M6, M7, M8, M9, N0, N1, N2, N3, N4, N5, N6, N7, N8, N9, O0, O1, O2, O3, O4, O5, O6, O7, O8, O9, P0, P1, P2, P3, P4, P5, P6, P7, P8, P9, R0, R1, R2, R3, R4, R5, R6, R7, R8, R9, S0, S1, S2, S3, S4, S5, S6, S7, S8, S9, T0, T1, T2, T3, T4, T5, T6, T7, T8, T9, U0, U1, U2, U3, U4, U5, U6, U7, U8, U9, V0, V1, V2, V3, V4, V5, V6, V7, V8, V9, W0, W1, W2, W3, W4, W5, W6, W7, W8, W9, X0, X1, X2, X3, X4, X5, X6, X7, X8, X9, Y0, Y1, Y2, Y3, Y4, Y5, Y6, Y7, Y8, Y9, Z0, Z1, Z2, Z3, Z4, Z5, Z6, Z7, Z8, Z9, x0, x1, x2, x3, x4, x5, x6, x7, x8, x9, z0, z1, z2, z3, z4, z5, z6, z7], []⟩ wr := by
  obtain ⟨hlb, hb, ⟨k, hk, hkl⟩, hl⟩ := h
  have HX : Hid (X = .bad) := Lib.hid (by
    obtain ⟨k, rfl⟩ : ∃ m, k = m + 1 := ⟨k - 1, by simp at hkl; omega⟩
    simp only [Dm.lgMain] at hk
    rw [if_neg (by rintro ⟨g1, g2⟩; rcases hm with hm | ⟨_, hm⟩; (exact absurd g1 (by omega)); exact hm g2)] at hk
    rw [if_pos hd] at hk
    exact hk.symm)
  have hz := bs_size (c :: r)
  have i0 : (bs (c :: r))[0]'(by rw [hz]; simp) = c := rfl
  have lz0 : (0 : Int) < ((bs (c :: r)).size : Int) := by rw [hz]; simp <;> omega
  have ly0 : (0 : Int) < (r.length : Int) + 1 := by omega
  have HLEN := Lib.hid (lbLen_calls b out wr hlb)
  have HDC : Hid (∀ w, Calls Tryd.prog 92 #[.int .u8 c.toNat] w fun e w' => e = .returned (.bool false) ∧ w = w') := Lib.hid (fun w => by have h_ := isDigit_calls (c.toNat : Int) w; rw [show (decide (48 ≤ (c.toNat : Int)) && decide ((c.toNat : Int) ≤ 57)) = false from hd] at h_; exact h_)
  have HB := Lib.hid hb
  clear hlb hb hk hkl hl hd
  rcases hm with hm | ⟨hm, hm2⟩
  · have hm3 : ¬ 0 < mx := by omega
    conv => arg 2; whnf
    go_wp2_with fail
    go_step3
    go_wp2_with (first | (go_at_call 91; refine HLEN.out.mono ?_; rintro e wx ⟨rfl, rfl⟩) | (go_at_call 92; refine (HDC.out _).mono ?_; rintro e wx ⟨rfl, rfl⟩))
    refine (hret _ _ ?_ : Q0 Exit.ret _ _)
    unfold MainB
    exact ⟨_, _, _, _, _, _, _, _, _, _, _, _, _, _, _, _, _, _, _, _, _, _, _, _, _, _, _, _, _, _, _, _, _, _, _, _, _, _, _, _, _, _, _, _, _, _, _, _, _, _, _, _, _, _, _, _, _, _, _, _, _, _, _, _, _, _, _, _, _, _, _, _, _, _, _, _, _, _, _, _, _, _, _, _, _, _, _, _, _, _, _, _, _, _, _, _, _, _, _, _, _, _, _, _, _, _, _, _, _, _, _, _, _, _, _, _, _, _, _, _, _, _, _, _, _, _, _, _, _, _, _, _, _, _, _, _, _, _, _, _, _, _, _, _, _, _, _, _, _, _, _, _, _, _, _, _, _, _, _, _, _, _, _, _, _, _, _, _, _, _, _, _, _, _, _, _, _, _, _, _, _, _, _, _, _, _, _, _, _, _, _, _, _, _, _, ⟨HB.out, HX.out⟩, rfl⟩
  · conv => arg 2; whnf
    go_wp2_with fail
    go_step3
    go_wp2_with (first | (go_at_call 91; refine HLEN.out.mono ?_; rintro e wx ⟨rfl, rfl⟩) | (go_at_call 92; refine (HDC.out _).mono ?_; rintro e wx ⟨rfl, rfl⟩))
    refine (hret _ _ ?_ : Q0 Exit.ret _ _)
    unfold MainB
    exact ⟨_, _, _, _, _, _, _, _, _, _, _, _, _, _, _, _, _, _, _, _, _, _, _, _, _, _, _, _, _, _, _, _, _, _, _, _, _, _, _, _, _, _, _, _, _, _, _, _, _, _, _, _, _, _, _, _, _, _, _, _, _, _, _, _, _, _, _, _, _, _, _, _, _, _, _, _, _, _, _, _, _, _, _, _, _, _, _, _, _, _, _, _, _, _, _, _, _, _, _, _, _, _, _, _, _, _, _, _, _, _, _, _, _, _, _, _, _, _, _, _, _, _, _, _, _, _, _, _, _, _, _, _, _, _, _, _, _, _, _, _, _, _, _, _, _, _, _, _, _, _, _, _, _, _, _, _, _, _, _, _, _, _, _, _, _, _, _, _, _, _, _, _, _, _, _, _, _, _, _, _, _, _, _, _, _, _, _, _, _, _, _, _, _, _, _, ⟨HB.out, HX.out⟩, rfl⟩
set_option maxHeartbeats 8000000 in
set_option maxRecDepth 1000000 in
theorem main_dnone (c : UInt8) (r out : List UInt8) (wr : World) (B5 B6 B7 B8 B9 C0 C1 C2 C3 C4 C5 C6 C7 H4 H5 H6 H7 H8 H9 I0 I1 I2 I3 I4 I5 I6 I7 I8 I9 J0 J1 J2 J3 J4 J5 J6 J7 J8 J9 K0 K1 K2 K3 K4 K5 K6 K7 K8 K9 L0 L1 L2 L3 L4 L5 L6 L7 L8 L9 M0 M1 M2 M3 M4 M5 M6 M7 M8 M9 N0 N1 N2 N3 N4 N5 N6 N7 N8 N9 O0 O1 O2 O3 O4 O5 O6 O7 O8 O9 P0 P1 P2 P3 P4 P5 P6 P7 P8 P9 R0 R1 R2 R3 R4 R5 R6 R7 R8 R9 S0 S1 S2 S3 S4 S5 S6 S7 S8 S9 T0 T1 T2 T3 T4 T5 T6 T7 T8 T9 U0 U1 U2 U3 U4 U5 U6 U7 U8 U9 V0 V1 V2 V3 V4 V5 V6 V7 V8 V9 W0 W1 W2 W3 W4 W5 W6 W7 W8 W9 X0 X1 X2 X3 X4 X5 X6 X7 X8 X9 Y0 Y1 Y2 Y3 Y4 Y5 Y6 Y7 Y8 Y9 Z0 Z1 Z2 Z3 Z4 Z5 Z6 Z7 Z8 Z9 x0 x1 x2 x3 x4 : Value) (Q0 : Exit → Act → World → Prop) (h : MainR b w0 mx X (c :: r) out wr) (hm : mx ≤ 0 ∨ (0 < mx ∧ ¬ mx < (out.length : Int))) (hd : Dm.isDig c = true) (hx : Dm.dec 0 (c :: r) = none) (hret : ∀ a' w'', MainB b w0 mx X A1 A2 A3 A4 A5 A7 A8 B0 B1 B2 B3 C8 C9 D0 D1 D2 D3 D4 D5 D6 D7 D8 D9 E0 E1 E2 E3 E4 E5 E6 E7 E8 E9 F0 F1 F2 F3 F4 F5 F6 F7 F8 F9 G0 G1 G2 G3 G4 G5 G6 G7 G8 G9 H0 H1 H2 H3 x5 x6 x7 x8 x9 z0 z1 z2 z3 z4 z5 z6 z7 a' w'' → Q0 .ret a' w'') (NX : Act → World → Prop) :
    Code.wp Tryd.prog mainBody (Exit.then NX Q0) ⟨#[.string (bs (c :: r)), A1, A2, A3, A4, A5, .int .i64 mx, A7, A8, HF, B0, B1, B2, B3, .pointer (some ⟨b, 0, none⟩), B5, B6, B7, B8, B9, C0, C1, C2, C3, C4, C5, C6, C7, C8, C9, D0, D1, D2, D3, D4, D5, D6, D7, D8, D9, E0, E1, E2, E3, E4, E5, E6, E7, E8, E9, F0, F1, F2, F3, F4, F5, F6, F7, F8, F9, G0, G1, G2, G3, G4, G5, G6, G7, G8, G9, H0, H1, H2, H3, H4, H5, H6, H7, H8, H9, I0, I1, I2, I3, I4, I5, I6, I7, I8, I9, J0, J1, J2, J3, J4, J5, J6, J7, J8, J9, K0, K1, K2, K3, K4, K5, K6, K7, K8, K9, L0, L1, L2, L3, L4, L5, L6, L7, L8, L9, M0, M1, M2, M3, M4, M5, M6, M7, M8, M9, N0, N1, N2, N3, N4, N5, N6, N7, N8, N9, O0, O1, O2, O3, O4, O5, O6, O7, O8, O9, P0, P1, P2, P3, P4, P5, P6, P7, P8, P9, R0, R1, R2, R3, R4, R5, R6, R7, R8, R9, S0, S1, S2, S3, S4, S5, S6, S7, S8, S9, T0, T1, T2, T3, T4, T5, T6, T7, T8, T9, U0, U1, U2, U3, U4, U5, U6, U7, U8, U9, V0, V1, V2, V3, V4, V5, V6, V7, V8, V9, W0, W1, W2, W3, W4, W5, W6, W7, W8, W9, X0, X1, X2, X3, X4, X5, X6, X7, X8, X9, Y0, Y1, Y2, Y3, Y4, Y5, Y6, Y7, Y8, Y9, Z0, Z1, Z2, Z3, Z4, Z5, Z6, Z7, Z8, Z9, x0, x1, x2, x3, x4, x5, x6, x7, x8, x9, z0, z1, z2, z3, z4, z5, z6, z7], []⟩ wr := by
  obtain ⟨hlb, hb, ⟨k, hk, hkl⟩, hl⟩ := h
  have HX : Hid (X = .bad) := Lib.hid (by
    obtain ⟨k, rfl⟩ : ∃ m, k = m + 1 := ⟨k - 1, by simp at hkl; omega⟩
    simp only [Dm.lgMain] at hk
    rw [if_neg (by rintro ⟨g1, g2⟩; rcases hm with hm | ⟨_, hm⟩; (exact absurd g1 (by omega)); exact hm g2)] at hk
    rw [if_neg (by rw [hd]; decide), hx] at hk
    exact hk.symm)
  have HLN := Lib.hid (show (c :: r).length ≤ 4611686018427387904 by omega)
  have HDEC := Lib.hid hx
  have hz := bs_size (c :: r)
  have i0 : (bs (c :: r))[0]'(by rw [hz]; simp) = c := rfl
  have lz0 : (0 : Int) < ((bs (c :: r)).size : Int) := by rw [hz]; simp <;> omega
  have ly0 : (0 : Int) < (r.length : Int) + 1 := by omega
  have HLEN := Lib.hid (lbLen_calls b out wr hlb)
  have HDC : Hid (∀ w, Calls Tryd.prog 92 #[.int .u8 c.toNat] w fun e w' => e = .returned (.bool true) ∧ w = w') := Lib.hid (fun w => by have h_ := isDigit_calls (c.toNat : Int) w; rw [show (decide (48 ≤ (c.toNat : Int)) && decide ((c.toNat : Int) ≤ 57)) = true from hd] at h_; exact h_)
  have HB := Lib.hid hb
  clear hlb hb hk hkl hl hd hx
  have hmc : (¬ 0 < mx) ∨ (0 < mx ∧ ¬ mx < (out.length : Int)) := by omega
  clear hm
  rcases hmc with hm3 | ⟨hm3, hm4⟩
  all_goals conv => arg 2; whnf
  all_goals go_wp2_with fail
  all_goals go_step3
  all_goals go_wp2_with (first | (go_at_call 91; refine HLEN.out.mono ?_; rintro e wx ⟨rfl, rfl⟩) | (go_at_call 92; refine (HDC.out _).mono ?_; rintro e wx ⟨rfl, rfl⟩))
  all_goals refine dig_loop (c :: r) 0 _ _ _ _ _ _ _ _ _ _ _ _ _ _ _ _ _ _ _ _ _ _ _ _ _ HDEC.out (by decide) (by decide) HLN.out ?_ ?_
  all_goals first
    | (intro a' w'' hX; exact absurd (digX_none hX) id)
    | skip
  all_goals
    intro a' w'' hX
    unfold DigB at hX
    iterate 24 (obtain ⟨_, hX⟩ := hX)
    obtain ⟨v0, v15, ⟨rfl, _⟩, rfl⟩ := hX
    go_wp2_with fail
    unfold MainB
    exact ⟨_, _, _, _, _, _, _, _, _, _, _, _, _, _, _, _, _, _, _, _, _, _, _, _, _, _, _, _, _, _, _, _, _, _, _, _, _, _, _, _, _, _, _, _, _, _, _, _, _, _, _, _, _, _, _, _, _, _, _, _, _, _, _, _, _, _, _, _, _, _, _, _, _, _, _, _, _, _, _, _, _, _, _, _, _, _, _, _, _, _, _, _, _, _, _, _, _, _, _, _, _, _, _, _, _, _, _, _, _, _, _, _, _, _, _, _, _, _, _, _, _, _, _, _, _, _, _, _, _, _, _, _, _, _, _, _, _, _, _, _, _, _, _, _, _, _, _, _, _, _, _, _, _, _, _, _, _, _, _, _, _, _, _, _, _, _, _, _, _, _, _, _, _, _, _, _, _, _, _, _, _, _, _, _, _, _, _, _, _, _, _, _, _, _, _, ⟨HB.out, HX.out⟩, rfl⟩
end
end Go.Proofs.YtpmlnhddkbgefaaDoor
namespace Go.Proofs.YtpmlnhddkbgefaaDoor
set_option linter.unusedVariables false
set_option linter.unusedSimpArgs false
open Go.RowKit

theorem lg_step {k : Nat} {mx : Int} {out : List UInt8} {c : UInt8} {r q : List UInt8} {v : Int} (hm : mx ≤ 0 ∨ (0 < mx ∧ ¬ mx < (out.length : Int))) (hd : Dm.isDig c = true) (hx : Dm.dec 0 (c :: r) = some (v, q)) :
    Dm.lgMain (k + 1) mx out (c :: r) = if (if q.head? = some 95 then v - 1 else v) < 0 then .unsaid else if ((Dm.usl q).length : Int) < (if q.head? = some 95 then v - 1 else v) then .bad
      else Dm.lgMain k mx ((if out = [] then [] else out ++ [58, 58]) ++ Dm.tl (Dm.unbar ((Dm.usl q).take (if q.head? = some 95 then v - 1 else v).toNat))) ((Dm.usl q).drop (if q.head? = some 95 then v - 1 else v).toNat) := by
  simp only [Dm.lgMain]
  rw [if_neg (by rintro ⟨g1, g2⟩; rcases hm with hm | ⟨_, hm⟩; (exact absurd g1 (by omega)); exact hm g2), if_neg (by rw [hd]; decide), hx]
  simp only
  rw [Dm.esc_unbar]
theorem pre_cases (id : List UInt8) : (isPre2 95 36 id = false ∧ Dm.unbar id = id) ∨ (isPre2 95 36 id = true ∧ bs (Dm.unbar id) = (bs id).extract 1 id.length ∧ 1 ≤ id.length) := by
  unfold Dm.unbar
  split
  · rename_i t
    exact .inr ⟨rfl, (bs_extract (95 :: 36 :: t) 1).symm, by simp⟩
  · rename_i h
    refine .inl ⟨?_, rfl⟩
    rcases id with _ | ⟨a, _ | ⟨d, t⟩⟩
    · rfl
    · rfl
    · unfold isPre2
      rw [decide_eq_false_iff_not]
      rintro ⟨rfl, rfl⟩
      exact h t rfl
end Go.Proofs.YtpmlnhddkbgefaaDoor
