/- oldRustToString's loop over the names, joined. Printed by tools/gold5.py. The list of options that the thin package makes. Printed by tools/gold8.py. The options' list, and the limit that it names. oldRustToString's loops over the options and over the digits of the hash. Printed by tools/gold6.py. oldRustToString: what it tells of an old-style name. Printed by tools/gold7.py. The thin package's Old, in the form of a printed function. -/
import Derived.Test.YtpmlnhddkbgefaaDoorOldG0
import Derived.Test.YtpmlnhddkbgefaaDoorOldG1
import Derived.Test.YtpmlnhddkbgefaaDoorOldG2
import Derived.Test.YtpmlnhddkbgefaaDoorN2
import Derived.Test.YtpmlnhddkbgefaaDoorExtMx
import Derived.Test.YtpmlnhddkbgefaaDoorM6
import Derived.Test.YtpmlnhddkbgefaaDoorM1
import Derived.Test.YtpmlnhddkbgefaaDoorN5
namespace Go.Proofs.YtpmlnhddkbgefaaDoor
set_option linter.unusedVariables false
set_option linter.unusedSimpArgs false
open Go.RowKit
section
variable {b : Nat} {w0 : World} {mx : Int} {X : Dm.LR} {A1 A2 A3 A4 A5 A7 A8 B0 B1 B2 B3 C8 C9 D0 D1 D2 D3 D4 D5 D6 D7 D8 D9 E0 E1 E2 E3 E4 E5 E6 E7 E8 E9 F0 F1 F2 F3 F4 F5 F6 F7 F8 F9 G0 G1 G2 G3 G4 G5 G6 G7 G8 G9 H0 H1 H2 H3 x5 x6 x7 x8 x9 z0 z1 z2 z3 z4 z5 z6 z7 : Value}
set_option maxHeartbeats 8000000 in
set_option maxRecDepth 1000000 in
theorem main_round (Q0 : Exit → Act → World → Prop) (a : Act) (wr : World) (hI : MainI b w0 mx X A1 A2 A3 A4 A5 A7 A8 B0 B1 B2 B3 C8 C9 D0 D1 D2 D3 D4 D5 D6 D7 D8 D9 E0 E1 E2 E3 E4 E5 E6 E7 E8 E9 F0 F1 F2 F3 F4 F5 F6 F7 F8 F9 G0 G1 G2 G3 G4 G5 G6 G7 G8 G9 H0 H1 H2 H3 x5 x6 x7 x8 x9 z0 z1 z2 z3 z4 z5 z6 z7 a wr) (hU : X ≠ .unsaid) (hexit : ∀ a' w'', MainX b w0 mx X A1 A2 A3 A4 A5 A7 A8 B0 B1 B2 B3 C8 C9 D0 D1 D2 D3 D4 D5 D6 D7 D8 D9 E0 E1 E2 E3 E4 E5 E6 E7 E8 E9 F0 F1 F2 F3 F4 F5 F6 F7 F8 F9 G0 G1 G2 G3 G4 G5 G6 G7 G8 G9 H0 H1 H2 H3 x5 x6 x7 x8 x9 z0 z1 z2 z3 z4 z5 z6 z7 a' w'' → Q0 (.exit 4) a' w'') (hret : ∀ a' w'', MainB b w0 mx X A1 A2 A3 A4 A5 A7 A8 B0 B1 B2 B3 C8 C9 D0 D1 D2 D3 D4 D5 D6 D7 D8 D9 E0 E1 E2 E3 E4 E5 E6 E7 E8 E9 F0 F1 F2 F3 F4 F5 F6 F7 F8 F9 G0 G1 G2 G3 G4 G5 G6 G7 G8 G9 H0 H1 H2 H3 x5 x6 x7 x8 x9 z0 z1 z2 z3 z4 z5 z6 z7 a' w'' → Q0 .ret a' w'') :
    Code.wp Tryd.prog mainBody (Exit.then (fun a' w'' => MainI b w0 mx X A1 A2 A3 A4 A5 A7 A8 B0 B1 B2 B3 C8 C9 D0 D1 D2 D3 D4 D5 D6 D7 D8 D9 E0 E1 E2 E3 E4 E5 E6 E7 E8 E9 F0 F1 F2 F3 F4 F5 F6 F7 F8 F9 G0 G1 G2 G3 G4 G5 G6 G7 G8 G9 H0 H1 H2 H3 x5 x6 x7 x8 x9 z0 z1 z2 z3 z4 z5 z6 z7 a' w'' ∧ mainMu a' < mainMu a) Q0) a wr := by
  unfold MainI at hI
  obtain ⟨B5, hI⟩ := hI
  obtain ⟨B6, hI⟩ := hI
  obtain ⟨B7, hI⟩ := hI
  obtain ⟨B8, hI⟩ := hI
  obtain ⟨B9, hI⟩ := hI
  obtain ⟨C0, hI⟩ := hI
  obtain ⟨C1, hI⟩ := hI
  obtain ⟨C2, hI⟩ := hI
  obtain ⟨C3, hI⟩ := hI
  obtain ⟨C4, hI⟩ := hI
  obtain ⟨C5, hI⟩ := hI
  obtain ⟨C6, hI⟩ := hI
  obtain ⟨C7, hI⟩ := hI
  obtain ⟨H4, hI⟩ := hI
  obtain ⟨H5, hI⟩ := hI
  obtain ⟨H6, hI⟩ := hI
  obtain ⟨H7, hI⟩ := hI
  obtain ⟨H8, hI⟩ := hI
  obtain ⟨H9, hI⟩ := hI
  obtain ⟨I0, hI⟩ := hI
  obtain ⟨I1, hI⟩ := hI
  obtain ⟨I2, hI⟩ := hI
  obtain ⟨I3, hI⟩ := hI
  obtain ⟨I4, hI⟩ := hI
  obtain ⟨I5, hI⟩ := hI
  obtain ⟨I6, hI⟩ := hI
  obtain ⟨I7, hI⟩ := hI
  obtain ⟨I8, hI⟩ := hI
  obtain ⟨I9, hI⟩ := hI
  obtain ⟨J0, hI⟩ := hI
  obtain ⟨J1, hI⟩ := hI
  obtain ⟨J2, hI⟩ := hI
  obtain ⟨J3, hI⟩ := hI
  obtain ⟨J4, hI⟩ := hI
  obtain ⟨J5, hI⟩ := hI
  obtain ⟨J6, hI⟩ := hI
  obtain ⟨J7, hI⟩ := hI
  obtain ⟨J8, hI⟩ := hI
  obtain ⟨J9, hI⟩ := hI
  obtain ⟨K0, hI⟩ := hI
  obtain ⟨K1, hI⟩ := hI
  obtain ⟨K2, hI⟩ := hI
  obtain ⟨K3, hI⟩ := hI
  obtain ⟨K4, hI⟩ := hI
  obtain ⟨K5, hI⟩ := hI
  obtain ⟨K6, hI⟩ := hI
  obtain ⟨K7, hI⟩ := hI
  obtain ⟨K8, hI⟩ := hI
  obtain ⟨K9, hI⟩ := hI
  obtain ⟨L0, hI⟩ := hI
  obtain ⟨L1, hI⟩ := hI
  obtain ⟨L2, hI⟩ := hI
  obtain ⟨L3, hI⟩ := hI
  obtain ⟨L4, hI⟩ := hI
  obtain ⟨L5, hI⟩ := hI
  obtain ⟨L6, hI⟩ := hI
  obtain ⟨L7, hI⟩ := hI
  obtain ⟨L8, hI⟩ := hI
  obtain ⟨L9, hI⟩ := hI
  obtain ⟨M0, hI⟩ := hI
  obtain ⟨M1, hI⟩ := hI
  obtain ⟨M2, hI⟩ := hI
  obtain ⟨M3, hI⟩ := hI
  obtain ⟨M4, hI⟩ := hI
  obtain ⟨M5, hI⟩ := hI
  obtain ⟨M6, hI⟩ := hI
  obtain ⟨M7, hI⟩ := hI
  obtain ⟨M8, hI⟩ := hI
  obtain ⟨M9, hI⟩ := hI
  obtain ⟨N0, hI⟩ := hI
  obtain ⟨N1, hI⟩ := hI
  obtain ⟨N2, hI⟩ := hI
  obtain ⟨N3, hI⟩ := hI
  obtain ⟨N4, hI⟩ := hI
  obtain ⟨N5, hI⟩ := hI
  obtain ⟨N6, hI⟩ := hI
  obtain ⟨N7, hI⟩ := hI
  obtain ⟨N8, hI⟩ := hI
  obtain ⟨N9, hI⟩ := hI
  obtain ⟨O0, hI⟩ := hI
  obtain ⟨O1, hI⟩ := hI
  obtain ⟨O2, hI⟩ := hI
  obtain ⟨O3, hI⟩ := hI
  obtain ⟨O4, hI⟩ := hI
  obtain ⟨O5, hI⟩ := hI
  obtain ⟨O6, hI⟩ := hI
  obtain ⟨O7, hI⟩ := hI
  obtain ⟨O8, hI⟩ := hI
  obtain ⟨O9, hI⟩ := hI
  obtain ⟨P0, hI⟩ := hI
  obtain ⟨P1, hI⟩ := hI
  obtain ⟨P2, hI⟩ := hI
  obtain ⟨P3, hI⟩ := hI
  obtain ⟨P4, hI⟩ := hI
  obtain ⟨P5, hI⟩ := hI
  obtain ⟨P6, hI⟩ := hI
  obtain ⟨P7, hI⟩ := hI
  obtain ⟨P8, hI⟩ := hI
  obtain ⟨P9, hI⟩ := hI
  obtain ⟨R0, hI⟩ := hI
  obtain ⟨R1, hI⟩ := hI
  obtain ⟨R2, hI⟩ := hI
  obtain ⟨R3, hI⟩ := hI
  obtain ⟨R4, hI⟩ := hI
  obtain ⟨R5, hI⟩ := hI
  obtain ⟨R6, hI⟩ := hI
  obtain ⟨R7, hI⟩ := hI
  obtain ⟨R8, hI⟩ := hI
  obtain ⟨R9, hI⟩ := hI
  obtain ⟨S0, hI⟩ := hI
  obtain ⟨S1, hI⟩ := hI
  obtain ⟨S2, hI⟩ := hI
  obtain ⟨S3, hI⟩ := hI
  obtain ⟨S4, hI⟩ := hI
  obtain ⟨S5, hI⟩ := hI
  obtain ⟨S6, hI⟩ := hI
  obtain ⟨S7, hI⟩ := hI
  obtain ⟨S8, hI⟩ := hI
  obtain ⟨S9, hI⟩ := hI
  obtain ⟨T0, hI⟩ := hI
  obtain ⟨T1, hI⟩ := hI
  obtain ⟨T2, hI⟩ := hI
  obtain ⟨T3, hI⟩ := hI
  obtain ⟨T4, hI⟩ := hI
  obtain ⟨T5, hI⟩ := hI
  obtain ⟨T6, hI⟩ := hI
  obtain ⟨T7, hI⟩ := hI
  obtain ⟨T8, hI⟩ := hI
  obtain ⟨T9, hI⟩ := hI
  obtain ⟨U0, hI⟩ := hI
  obtain ⟨U1, hI⟩ := hI
  obtain ⟨U2, hI⟩ := hI
  obtain ⟨U3, hI⟩ := hI
  obtain ⟨U4, hI⟩ := hI
  obtain ⟨U5, hI⟩ := hI
  obtain ⟨U6, hI⟩ := hI
  obtain ⟨U7, hI⟩ := hI
  obtain ⟨U8, hI⟩ := hI
  obtain ⟨U9, hI⟩ := hI
  obtain ⟨V0, hI⟩ := hI
  obtain ⟨V1, hI⟩ := hI
  obtain ⟨V2, hI⟩ := hI
  obtain ⟨V3, hI⟩ := hI
  obtain ⟨V4, hI⟩ := hI
  obtain ⟨V5, hI⟩ := hI
  obtain ⟨V6, hI⟩ := hI
  obtain ⟨V7, hI⟩ := hI
  obtain ⟨V8, hI⟩ := hI
  obtain ⟨V9, hI⟩ := hI
  obtain ⟨W0, hI⟩ := hI
  obtain ⟨W1, hI⟩ := hI
  obtain ⟨W2, hI⟩ := hI
  obtain ⟨W3, hI⟩ := hI
  obtain ⟨W4, hI⟩ := hI
  obtain ⟨W5, hI⟩ := hI
  obtain ⟨W6, hI⟩ := hI
  obtain ⟨W7, hI⟩ := hI
  obtain ⟨W8, hI⟩ := hI
  obtain ⟨W9, hI⟩ := hI
  obtain ⟨X0, hI⟩ := hI
  obtain ⟨X1, hI⟩ := hI
  obtain ⟨X2, hI⟩ := hI
  obtain ⟨X3, hI⟩ := hI
  obtain ⟨X4, hI⟩ := hI
  obtain ⟨X5, hI⟩ := hI
  obtain ⟨X6, hI⟩ := hI
  obtain ⟨X7, hI⟩ := hI
  obtain ⟨X8, hI⟩ := hI
  obtain ⟨X9, hI⟩ := hI
  obtain ⟨Y0, hI⟩ := hI
  obtain ⟨Y1, hI⟩ := hI
  obtain ⟨Y2, hI⟩ := hI
  obtain ⟨Y3, hI⟩ := hI
  obtain ⟨Y4, hI⟩ := hI
  obtain ⟨Y5, hI⟩ := hI
  obtain ⟨Y6, hI⟩ := hI
  obtain ⟨Y7, hI⟩ := hI
  obtain ⟨Y8, hI⟩ := hI
  obtain ⟨Y9, hI⟩ := hI
  obtain ⟨Z0, hI⟩ := hI
  obtain ⟨Z1, hI⟩ := hI
  obtain ⟨Z2, hI⟩ := hI
  obtain ⟨Z3, hI⟩ := hI
  obtain ⟨Z4, hI⟩ := hI
  obtain ⟨Z5, hI⟩ := hI
  obtain ⟨Z6, hI⟩ := hI
  obtain ⟨Z7, hI⟩ := hI
  obtain ⟨Z8, hI⟩ := hI
  obtain ⟨Z9, hI⟩ := hI
  obtain ⟨x0, hI⟩ := hI
  obtain ⟨x1, hI⟩ := hI
  obtain ⟨x2, hI⟩ := hI
  obtain ⟨x3, hI⟩ := hI
  obtain ⟨x4, hI⟩ := hI
  obtain ⟨n, out, h, rfl⟩ := hI
  rcases n with _ | ⟨c, r⟩
  · exact main_nil out wr B5 B6 B7 B8 B9 C0 C1 C2 C3 C4 C5 C6 C7 H4 H5 H6 H7 H8 H9 I0 I1 I2 I3 I4 I5 I6 I7 I8 I9 J0 J1 J2 J3 J4 J5 J6 J7 J8 J9 K0 K1 K2 K3 K4 K5 K6 K7 K8 K9 L0 L1 L2 L3 L4 L5 L6 L7 L8 L9 M0 M1 M2 M3 M4 M5 M6 M7 M8 M9 N0 N1 N2 N3 N4 N5 N6 N7 N8 N9 O0 O1 O2 O3 O4 O5 O6 O7 O8 O9 P0 P1 P2 P3 P4 P5 P6 P7 P8 P9 R0 R1 R2 R3 R4 R5 R6 R7 R8 R9 S0 S1 S2 S3 S4 S5 S6 S7 S8 S9 T0 T1 T2 T3 T4 T5 T6 T7 T8 T9 U0 U1 U2 U3 U4 U5 U6 U7 U8 U9 V0 V1 V2 V3 V4 V5 V6 V7 V8 V9 W0 W1 W2 W3 W4 W5 W6 W7 W8 W9 X0 X1 X2 X3 X4 X5 X6 X7 X8 X9 Y0 Y1 Y2 Y3 Y4 Y5 Y6 Y7 Y8 Y9 Z0 Z1 Z2 Z3 Z4 Z5 Z6 Z7 Z8 Z9 x0 x1 x2 x3 x4 Q0 h hexit _
  by_cases hc : 0 < mx ∧ mx < (out.length : Int)
  · exact main_cut c r out wr B5 B6 B7 B8 B9 C0 C1 C2 C3 C4 C5 C6 C7 H4 H5 H6 H7 H8 H9 I0 I1 I2 I3 I4 I5 I6 I7 I8 I9 J0 J1 J2 J3 J4 J5 J6 J7 J8 J9 K0 K1 K2 K3 K4 K5 K6 K7 K8 K9 L0 L1 L2 L3 L4 L5 L6 L7 L8 L9 M0 M1 M2 M3 M4 M5 M6 M7 M8 M9 N0 N1 N2 N3 N4 N5 N6 N7 N8 N9 O0 O1 O2 O3 O4 O5 O6 O7 O8 O9 P0 P1 P2 P3 P4 P5 P6 P7 P8 P9 R0 R1 R2 R3 R4 R5 R6 R7 R8 R9 S0 S1 S2 S3 S4 S5 S6 S7 S8 S9 T0 T1 T2 T3 T4 T5 T6 T7 T8 T9 U0 U1 U2 U3 U4 U5 U6 U7 U8 U9 V0 V1 V2 V3 V4 V5 V6 V7 V8 V9 W0 W1 W2 W3 W4 W5 W6 W7 W8 W9 X0 X1 X2 X3 X4 X5 X6 X7 X8 X9 Y0 Y1 Y2 Y3 Y4 Y5 Y6 Y7 Y8 Y9 Z0 Z1 Z2 Z3 Z4 Z5 Z6 Z7 Z8 Z9 x0 x1 x2 x3 x4 Q0 h hc.1 hc.2 hexit _
  have hm : mx ≤ 0 ∨ (0 < mx ∧ ¬ mx < (out.length : Int)) := by omega
  cases hd : Dm.isDig c with
  | false => exact main_nodig c r out wr B5 B6 B7 B8 B9 C0 C1 C2 C3 C4 C5 C6 C7 H4 H5 H6 H7 H8 H9 I0 I1 I2 I3 I4 I5 I6 I7 I8 I9 J0 J1 J2 J3 J4 J5 J6 J7 J8 J9 K0 K1 K2 K3 K4 K5 K6 K7 K8 K9 L0 L1 L2 L3 L4 L5 L6 L7 L8 L9 M0 M1 M2 M3 M4 M5 M6 M7 M8 M9 N0 N1 N2 N3 N4 N5 N6 N7 N8 N9 O0 O1 O2 O3 O4 O5 O6 O7 O8 O9 P0 P1 P2 P3 P4 P5 P6 P7 P8 P9 R0 R1 R2 R3 R4 R5 R6 R7 R8 R9 S0 S1 S2 S3 S4 S5 S6 S7 S8 S9 T0 T1 T2 T3 T4 T5 T6 T7 T8 T9 U0 U1 U2 U3 U4 U5 U6 U7 U8 U9 V0 V1 V2 V3 V4 V5 V6 V7 V8 V9 W0 W1 W2 W3 W4 W5 W6 W7 W8 W9 X0 X1 X2 X3 X4 X5 X6 X7 X8 X9 Y0 Y1 Y2 Y3 Y4 Y5 Y6 Y7 Y8 Y9 Z0 Z1 Z2 Z3 Z4 Z5 Z6 Z7 Z8 Z9 x0 x1 x2 x3 x4 Q0 h hm hd hret _
  | true =>
    cases hx : Dm.dec 0 (c :: r) with
    | none => exact main_dnone c r out wr B5 B6 B7 B8 B9 C0 C1 C2 C3 C4 C5 C6 C7 H4 H5 H6 H7 H8 H9 I0 I1 I2 I3 I4 I5 I6 I7 I8 I9 J0 J1 J2 J3 J4 J5 J6 J7 J8 J9 K0 K1 K2 K3 K4 K5 K6 K7 K8 K9 L0 L1 L2 L3 L4 L5 L6 L7 L8 L9 M0 M1 M2 M3 M4 M5 M6 M7 M8 M9 N0 N1 N2 N3 N4 N5 N6 N7 N8 N9 O0 O1 O2 O3 O4 O5 O6 O7 O8 O9 P0 P1 P2 P3 P4 P5 P6 P7 P8 P9 R0 R1 R2 R3 R4 R5 R6 R7 R8 R9 S0 S1 S2 S3 S4 S5 S6 S7 S8 S9 T0 T1 T2 T3 T4 T5 T6 T7 T8 T9 U0 U1 U2 U3 U4 U5 U6 U7 U8 U9 V0 V1 V2 V3 V4 V5 V6 V7 V8 V9 W0 W1 W2 W3 W4 W5 W6 W7 W8 W9 X0 X1 X2 X3 X4 X5 X6 X7 X8 X9 Y0 Y1 Y2 Y3 Y4 Y5 Y6 Y7 Y8 Y9 Z0 Z1 Z2 Z3 Z4 Z5 Z6 Z7 Z8 Z9 x0 x1 x2 x3 x4 Q0 h hm hd hx hret _
    | some p =>
      obtain ⟨v, q⟩ := p
      have hnn : 0 ≤ (if q.head? = some 95 then v - 1 else v) := by
        obtain ⟨_, _, ⟨k, hk, hkl⟩, _⟩ := h
        obtain ⟨k, rfl⟩ : ∃ m, k = m + 1 := ⟨k - 1, by simp at hkl; omega⟩
        rw [lg_step hm hd hx] at hk
        by_cases hz : (if q.head? = some 95 then v - 1 else v) < 0
        · rw [if_pos hz] at hk; exact absurd hk.symm hU
        · omega
      rcases q with _ | ⟨x, q1⟩
      · by_cases hs : (([] : List UInt8).length : Int) < v
        · exact main_short0 c r out [] v wr B5 B6 B7 B8 B9 C0 C1 C2 C3 C4 C5 C6 C7 H4 H5 H6 H7 H8 H9 I0 I1 I2 I3 I4 I5 I6 I7 I8 I9 J0 J1 J2 J3 J4 J5 J6 J7 J8 J9 K0 K1 K2 K3 K4 K5 K6 K7 K8 K9 L0 L1 L2 L3 L4 L5 L6 L7 L8 L9 M0 M1 M2 M3 M4 M5 M6 M7 M8 M9 N0 N1 N2 N3 N4 N5 N6 N7 N8 N9 O0 O1 O2 O3 O4 O5 O6 O7 O8 O9 P0 P1 P2 P3 P4 P5 P6 P7 P8 P9 R0 R1 R2 R3 R4 R5 R6 R7 R8 R9 S0 S1 S2 S3 S4 S5 S6 S7 S8 S9 T0 T1 T2 T3 T4 T5 T6 T7 T8 T9 U0 U1 U2 U3 U4 U5 U6 U7 U8 U9 V0 V1 V2 V3 V4 V5 V6 V7 V8 V9 W0 W1 W2 W3 W4 W5 W6 W7 W8 W9 X0 X1 X2 X3 X4 X5 X6 X7 X8 X9 Y0 Y1 Y2 Y3 Y4 Y5 Y6 Y7 Y8 Y9 Z0 Z1 Z2 Z3 Z4 Z5 Z6 Z7 Z8 Z9 x0 x1 x2 x3 x4 Q0 h hm hd hx rfl hs hret _
        · exact main_go0 c r out [] v wr B5 B6 B7 B8 B9 C0 C1 C2 C3 C4 C5 C6 C7 H4 H5 H6 H7 H8 H9 I0 I1 I2 I3 I4 I5 I6 I7 I8 I9 J0 J1 J2 J3 J4 J5 J6 J7 J8 J9 K0 K1 K2 K3 K4 K5 K6 K7 K8 K9 L0 L1 L2 L3 L4 L5 L6 L7 L8 L9 M0 M1 M2 M3 M4 M5 M6 M7 M8 M9 N0 N1 N2 N3 N4 N5 N6 N7 N8 N9 O0 O1 O2 O3 O4 O5 O6 O7 O8 O9 P0 P1 P2 P3 P4 P5 P6 P7 P8 P9 R0 R1 R2 R3 R4 R5 R6 R7 R8 R9 S0 S1 S2 S3 S4 S5 S6 S7 S8 S9 T0 T1 T2 T3 T4 T5 T6 T7 T8 T9 U0 U1 U2 U3 U4 U5 U6 U7 U8 U9 V0 V1 V2 V3 V4 V5 V6 V7 V8 V9 W0 W1 W2 W3 W4 W5 W6 W7 W8 W9 X0 X1 X2 X3 X4 X5 X6 X7 X8 X9 Y0 Y1 Y2 Y3 Y4 Y5 Y6 Y7 Y8 Y9 Z0 Z1 Z2 Z3 Z4 Z5 Z6 Z7 Z8 Z9 x0 x1 x2 x3 x4 Q0 h hm hd hx rfl hs (by simpa using hnn)
      · by_cases h95 : x = 95
        · subst h95
          by_cases hs : (q1.length : Int) < v - 1
          · exact main_short2 c r out (95 :: q1) v wr B5 B6 B7 B8 B9 C0 C1 C2 C3 C4 C5 C6 C7 H4 H5 H6 H7 H8 H9 I0 I1 I2 I3 I4 I5 I6 I7 I8 I9 J0 J1 J2 J3 J4 J5 J6 J7 J8 J9 K0 K1 K2 K3 K4 K5 K6 K7 K8 K9 L0 L1 L2 L3 L4 L5 L6 L7 L8 L9 M0 M1 M2 M3 M4 M5 M6 M7 M8 M9 N0 N1 N2 N3 N4 N5 N6 N7 N8 N9 O0 O1 O2 O3 O4 O5 O6 O7 O8 O9 P0 P1 P2 P3 P4 P5 P6 P7 P8 P9 R0 R1 R2 R3 R4 R5 R6 R7 R8 R9 S0 S1 S2 S3 S4 S5 S6 S7 S8 S9 T0 T1 T2 T3 T4 T5 T6 T7 T8 T9 U0 U1 U2 U3 U4 U5 U6 U7 U8 U9 V0 V1 V2 V3 V4 V5 V6 V7 V8 V9 W0 W1 W2 W3 W4 W5 W6 W7 W8 W9 X0 X1 X2 X3 X4 X5 X6 X7 X8 X9 Y0 Y1 Y2 Y3 Y4 Y5 Y6 Y7 Y8 Y9 Z0 Z1 Z2 Z3 Z4 Z5 Z6 Z7 Z8 Z9 x0 x1 x2 x3 x4 Q0 h hm hd hx q1 (v - 1) rfl rfl rfl hs hret _
          · exact main_go2 c r out (95 :: q1) v wr B5 B6 B7 B8 B9 C0 C1 C2 C3 C4 C5 C6 C7 H4 H5 H6 H7 H8 H9 I0 I1 I2 I3 I4 I5 I6 I7 I8 I9 J0 J1 J2 J3 J4 J5 J6 J7 J8 J9 K0 K1 K2 K3 K4 K5 K6 K7 K8 K9 L0 L1 L2 L3 L4 L5 L6 L7 L8 L9 M0 M1 M2 M3 M4 M5 M6 M7 M8 M9 N0 N1 N2 N3 N4 N5 N6 N7 N8 N9 O0 O1 O2 O3 O4 O5 O6 O7 O8 O9 P0 P1 P2 P3 P4 P5 P6 P7 P8 P9 R0 R1 R2 R3 R4 R5 R6 R7 R8 R9 S0 S1 S2 S3 S4 S5 S6 S7 S8 S9 T0 T1 T2 T3 T4 T5 T6 T7 T8 T9 U0 U1 U2 U3 U4 U5 U6 U7 U8 U9 V0 V1 V2 V3 V4 V5 V6 V7 V8 V9 W0 W1 W2 W3 W4 W5 W6 W7 W8 W9 X0 X1 X2 X3 X4 X5 X6 X7 X8 X9 Y0 Y1 Y2 Y3 Y4 Y5 Y6 Y7 Y8 Y9 Z0 Z1 Z2 Z3 Z4 Z5 Z6 Z7 Z8 Z9 x0 x1 x2 x3 x4 Q0 h hm hd hx q1 (v - 1) rfl rfl rfl hs (by simpa using hnn)
        · by_cases hs : ((x :: q1).length : Int) < v
          · exact main_short1 c r out (x :: q1) v wr B5 B6 B7 B8 B9 C0 C1 C2 C3 C4 C5 C6 C7 H4 H5 H6 H7 H8 H9 I0 I1 I2 I3 I4 I5 I6 I7 I8 I9 J0 J1 J2 J3 J4 J5 J6 J7 J8 J9 K0 K1 K2 K3 K4 K5 K6 K7 K8 K9 L0 L1 L2 L3 L4 L5 L6 L7 L8 L9 M0 M1 M2 M3 M4 M5 M6 M7 M8 M9 N0 N1 N2 N3 N4 N5 N6 N7 N8 N9 O0 O1 O2 O3 O4 O5 O6 O7 O8 O9 P0 P1 P2 P3 P4 P5 P6 P7 P8 P9 R0 R1 R2 R3 R4 R5 R6 R7 R8 R9 S0 S1 S2 S3 S4 S5 S6 S7 S8 S9 T0 T1 T2 T3 T4 T5 T6 T7 T8 T9 U0 U1 U2 U3 U4 U5 U6 U7 U8 U9 V0 V1 V2 V3 V4 V5 V6 V7 V8 V9 W0 W1 W2 W3 W4 W5 W6 W7 W8 W9 X0 X1 X2 X3 X4 X5 X6 X7 X8 X9 Y0 Y1 Y2 Y3 Y4 Y5 Y6 Y7 Y8 Y9 Z0 Z1 Z2 Z3 Z4 Z5 Z6 Z7 Z8 Z9 x0 x1 x2 x3 x4 Q0 h hm hd hx x rfl h95 hs hret _
          · exact main_go1 c r out (x :: q1) v wr B5 B6 B7 B8 B9 C0 C1 C2 C3 C4 C5 C6 C7 H4 H5 H6 H7 H8 H9 I0 I1 I2 I3 I4 I5 I6 I7 I8 I9 J0 J1 J2 J3 J4 J5 J6 J7 J8 J9 K0 K1 K2 K3 K4 K5 K6 K7 K8 K9 L0 L1 L2 L3 L4 L5 L6 L7 L8 L9 M0 M1 M2 M3 M4 M5 M6 M7 M8 M9 N0 N1 N2 N3 N4 N5 N6 N7 N8 N9 O0 O1 O2 O3 O4 O5 O6 O7 O8 O9 P0 P1 P2 P3 P4 P5 P6 P7 P8 P9 R0 R1 R2 R3 R4 R5 R6 R7 R8 R9 S0 S1 S2 S3 S4 S5 S6 S7 S8 S9 T0 T1 T2 T3 T4 T5 T6 T7 T8 T9 U0 U1 U2 U3 U4 U5 U6 U7 U8 U9 V0 V1 V2 V3 V4 V5 V6 V7 V8 V9 W0 W1 W2 W3 W4 W5 W6 W7 W8 W9 X0 X1 X2 X3 X4 X5 X6 X7 X8 X9 Y0 Y1 Y2 Y3 Y4 Y5 Y6 Y7 Y8 Y9 Z0 Z1 Z2 Z3 Z4 Z5 Z6 Z7 Z8 Z9 x0 x1 x2 x3 x4 Q0 h hm hd hx x rfl h95 hs (by rw [if_neg (by intro e; exact h95 (Option.some.inj e))] at hnn; exact hnn)
set_option maxHeartbeats 8000000 in
set_option maxRecDepth 1000000 in
theorem main_loop (n : List UInt8) (wr : World) (B5 B6 B7 B8 B9 C0 C1 C2 C3 C4 C5 C6 C7 H4 H5 H6 H7 H8 H9 I0 I1 I2 I3 I4 I5 I6 I7 I8 I9 J0 J1 J2 J3 J4 J5 J6 J7 J8 J9 K0 K1 K2 K3 K4 K5 K6 K7 K8 K9 L0 L1 L2 L3 L4 L5 L6 L7 L8 L9 M0 M1 M2 M3 M4 M5 M6 M7 M8 M9 N0 N1 N2 N3 N4 N5 N6 N7 N8 N9 O0 O1 O2 O3 O4 O5 O6 O7 O8 O9 P0 P1 P2 P3 P4 P5 P6 P7 P8 P9 R0 R1 R2 R3 R4 R5 R6 R7 R8 R9 S0 S1 S2 S3 S4 S5 S6 S7 S8 S9 T0 T1 T2 T3 T4 T5 T6 T7 T8 T9 U0 U1 U2 U3 U4 U5 U6 U7 U8 U9 V0 V1 V2 V3 V4 V5 V6 V7 V8 V9 W0 W1 W2 W3 W4 W5 W6 W7 W8 W9 X0 X1 X2 X3 X4 X5 X6 X7 X8 X9 Y0 Y1 Y2 Y3 Y4 Y5 Y6 Y7 Y8 Y9 Z0 Z1 Z2 Z3 Z4 Z5 Z6 Z7 Z8 Z9 x0 x1 x2 x3 x4 : Value) (Q0 : Exit → Act → World → Prop) (h : MainR b w0 mx X n [] wr) (hU : X ≠ .unsaid) (hexit : ∀ a' w'', MainX b w0 mx X A1 A2 A3 A4 A5 A7 A8 B0 B1 B2 B3 C8 C9 D0 D1 D2 D3 D4 D5 D6 D7 D8 D9 E0 E1 E2 E3 E4 E5 E6 E7 E8 E9 F0 F1 F2 F3 F4 F5 F6 F7 F8 F9 G0 G1 G2 G3 G4 G5 G6 G7 G8 G9 H0 H1 H2 H3 x5 x6 x7 x8 x9 z0 z1 z2 z3 z4 z5 z6 z7 a' w'' → Q0 (.exit 4) a' w'') (hret : ∀ a' w'', MainB b w0 mx X A1 A2 A3 A4 A5 A7 A8 B0 B1 B2 B3 C8 C9 D0 D1 D2 D3 D4 D5 D6 D7 D8 D9 E0 E1 E2 E3 E4 E5 E6 E7 E8 E9 F0 F1 F2 F3 F4 F5 F6 F7 F8 F9 G0 G1 G2 G3 G4 G5 G6 G7 G8 G9 H0 H1 H2 H3 x5 x6 x7 x8 x9 z0 z1 z2 z3 z4 z5 z6 z7 a' w'' → Q0 .ret a' w'') :
    Code.wp Tryd.prog (Code.loop mainBody) Q0 ⟨#[.string (bs n), A1, A2, A3, A4, A5, .int .i64 mx, A7, A8, HF, B0, B1, B2, B3, .pointer (some ⟨b, 0, none⟩), B5, B6, B7, B8, B9, C0, C1, C2, C3, C4, C5, C6, C7, C8, C9, D0, D1, D2, D3, D4, D5, D6, D7, D8, D9, E0, E1, E2, E3, E4, E5, E6, E7, E8, E9, F0, F1, F2, F3, F4, F5, F6, F7, F8, F9, G0, G1, G2, G3, G4, G5, G6, G7, G8, G9, H0, H1, H2, H3, H4, H5, H6, H7, H8, H9, I0, I1, I2, I3, I4, I5, I6, I7, I8, I9, J0, J1, J2, J3, J4, J5, J6, J7, J8, J9, K0, K1, K2, K3, K4, K5, K6, K7, K8, K9, L0, L1, L2, L3, L4, L5, L6, L7, L8, L9, M0, M1, M2, M3, M4, M5, M6, M7, M8, M9, N0, N1, N2, N3, N4, N5, N6, N7, N8, N9, O0, O1, O2, O3, O4, O5, O6, O7, O8, O9, P0, P1, P2, P3, P4, P5, P6, P7, P8, P9, R0, R1, R2, R3, R4, R5, R6, R7, R8, R9, S0, S1, S2, S3, S4, S5, S6, S7, S8, S9, T0, T1, T2, T3, T4, T5, T6, T7, T8, T9, U0, U1, U2, U3, U4, U5, U6, U7, U8, U9, V0, V1, V2, V3, V4, V5, V6, V7, V8, V9, W0, W1, W2, W3, W4, W5, W6, W7, W8, W9, X0, X1, X2, X3, X4, X5, X6, X7, X8, X9, Y0, Y1, Y2, Y3, Y4, Y5, Y6, Y7, Y8, Y9, Z0, Z1, Z2, Z3, Z4, Z5, Z6, Z7, Z8, Z9, x0, x1, x2, x3, x4, x5, x6, x7, x8, x9, z0, z1, z2, z3, z4, z5, z6, z7], []⟩ wr := by
  refine wp_loop (fun a w => MainI b w0 mx X A1 A2 A3 A4 A5 A7 A8 B0 B1 B2 B3 C8 C9 D0 D1 D2 D3 D4 D5 D6 D7 D8 D9 E0 E1 E2 E3 E4 E5 E6 E7 E8 E9 F0 F1 F2 F3 F4 F5 F6 F7 F8 F9 G0 G1 G2 G3 G4 G5 G6 G7 G8 G9 H0 H1 H2 H3 x5 x6 x7 x8 x9 z0 z1 z2 z3 z4 z5 z6 z7 a w) (fun a _ => mainMu a) ?_ (fun a w hI => main_round Q0 a w hI hU hexit hret)
  unfold MainI
  exact ⟨_, _, _, _, _, _, _, _, _, _, _, _, _, _, _, _, _, _, _, _, _, _, _, _, _, _, _, _, _, _, _, _, _, _, _, _, _, _, _, _, _, _, _, _, _, _, _, _, _, _, _, _, _, _, _, _, _, _, _, _, _, _, _, _, _, _, _, _, _, _, _, _, _, _, _, _, _, _, _, _, _, _, _, _, _, _, _, _, _, _, _, _, _, _, _, _, _, _, _, _, _, _, _, _, _, _, _, _, _, _, _, _, _, _, _, _, _, _, _, _, _, _, _, _, _, _, _, _, _, _, _, _, _, _, _, _, _, _, _, _, _, _, _, _, _, _, _, _, _, _, _, _, _, _, _, _, _, _, _, _, _, _, _, _, _, _, _, _, _, _, _, _, _, _, _, _, _, _, _, _, _, _, _, _, _, _, _, _, _, _, _, _, _, _, n, [], h, rfl⟩
end
end Go.Proofs.YtpmlnhddkbgefaaDoor
namespace Go.Proofs.YtpmlnhddkbgefaaDoor
set_option linter.unusedVariables false
set_option linter.unusedSimpArgs false
open Go.RowKit Go.Proofs.YtpmlnhddkbgefaaDoorW.PrintWords Go.Proofs.YtpmlnhddkbgefaaDoorW.PrintLast Go.Proofs.YtpmlnhddkbgefaaDoorW.PrintMore
def one (b : Bool) (c : Int) : List Int := if b then [c] else []
def optL (o0 o1 o2 o3 o4 o5 o6 : Bool) (mx : Int) : List Int :=
  one o0 0 ++ (one o1 1 ++ (one o2 2 ++ (one o3 3 ++ (one o4 4 ++ (one o5 5 ++ (one o6 6 ++ (if mx = 0 then [] else [mx * 65536])))))))
theorem one_len (b : Bool) (c : Int) : (one b c).length ≤ 1 := by unfold one; split <;> simp
theorem opt_info : (Tryd.prog.info? 108).map (fun i => (i.zero, i.size, i.bytes)) = some (some (.int .i64 0), 1, 8) := by kernel_rfl
/-- The list as it is made: its own row above the block of the options. -/
def OL (O : Array Value) (w0 : World) (xs : List Int) (v : Value) (w : World) : Prop :=
  w.ownsRow (w0.heap.size + 1) 108 1 v xs.length (xs.map (Value.int .i64)) ∧ Below w0.heap.size w0 w ∧ w.heap[w0.heap.size]? = some (.cells O 67 (0, 0)) ∧ xs.length ≤ 100 ∧ w0.heap.size + 1 ≤ w.heap.size
theorem OL.next {O : Array Value} {w0 w w2 : World} {xs : List Int} {v v' : Value} {x : Int} {o : Obj} (h : OL O w0 xs v w) (hown : w2.ownsRow (w0.heap.size + 1) 108 1 v' (xs.length + 1) (xs.map (Value.int .i64) ++ [.int .i64 x])) (hg : (w.alloc o).grownBy w2 v.ownBlock) (hl : xs.length + 1 ≤ 100) :
    OL O w0 (xs ++ [x]) v' w2 := by
  obtain ⟨h1, h2, h3, h4, h5⟩ := h
  have hlt : w0.heap.size < w.heap.size := by omega
  refine ⟨by simpa using hown, (h2.alloc h2.size o).grown hg (by rw [World.size_alloc]; omega) (fun k hk => Nat.le_of_lt (h1.lt k hk).1), ?_, by simpa using hl, ?_⟩
  · rw [hg.block w0.heap.size (by rw [World.size_alloc]; omega) (fun e => by have := (h1.lt _ e.symm).1; omega), Lib.alloc_old w o _ hlt]
    exact h3
  · have := hg.size; rw [World.size_alloc] at this; omega
theorem OL.same {O : Array Value} {w0 w : World} {xs : List Int} {v : Value} {b : Bool} {c : Int} (h : OL O w0 xs v w) (hb : b = false) : OL O w0 (xs ++ one b c) v w := by subst hb; simpa [one] using h
theorem OL.cell {O : Array Value} {w0 w : World} {xs : List Int} {v : Value} (h : OL O w0 xs v w) (k : Nat) : w.cell? ⟨w0.heap.size, k, none⟩ = O[k]? := Lib.cell_of_heap h.2.2.1 k
theorem OL.form {O : Array Value} {w0 w : World} {xs : List Int} {v : Value} (h : OL O w0 xs v w) : ∃ a n c, v = .slice a n c := by
  rcases h.1.2 with ⟨hv, _⟩ | ⟨g, cap, cur, hv, _⟩
  · exact ⟨_, _, _, hv⟩
  · exact ⟨_, _, _, hv⟩
theorem ol_end {O : Array Value} {w0 w : World} {xs : List Int} {v : Value} (h : OL O w0 xs v w) : ∃ A c, v = .slice A xs.length c ∧ (Kd.int .i64).C w A xs.length xs ∧ Below w0.heap.size w0 w := by
  obtain ⟨h1, h2, _, h4, _⟩ := h
  rcases h1.2 with ⟨hv, hn⟩ | ⟨g, cap, cur, hv, _⟩
  · refine ⟨none, 0, by rw [hv, hn], Kd.C_of_reads (enc := Value.int .i64) (d := 0) (h1 := fun _ => rfl) ⟨rfl, by omega, fun hp => by omega⟩, h2⟩
  · refine ⟨some ⟨g, 0, none⟩, cap, hv, Kd.C_of_reads (enc := Value.int .i64) (d := 0) (h1 := fun _ => rfl) ⟨rfl, by omega, fun hp => ⟨_, rfl, fun j hj => ?_⟩⟩, h2⟩
    rw [hv] at h1
    have := h1.cellAt j (by omega)
    rw [show ((⟨g, 0, none⟩ : Addr).add j) = ⟨g, j, none⟩ by simp [Addr.add]; omega, this, List.getElem?_map, List.getD_eq_getElem?_getD, List.getElem?_eq_getElem hj]
    rfl
set_option maxHeartbeats 4000000 in
set_option maxRecDepth 100000 in
theorem list_calls (o0 o1 o2 o3 o4 o5 o6 : Bool) (o7 : Int) (h : 0 ≤ o7 ∧ o7 ≤ 30) (w : World) :
    Calls Tryd.prog 49 #[.agg #[.bool o0, .bool o1, .bool o2, .bool o3, .bool o4, .bool o5, .bool o6, .int .i64 o7]] w fun e w' =>
      ∃ A c, e = .returned (.slice A (optL o0 o1 o2 o3 o4 o5 o6 o7).length c) ∧ (Kd.int .i64).C w' A (optL o0 o1 o2 o3 o4 o5 o6 o7).length (optL o0 o1 o2 o3 o4 o5 o6 o7) ∧ Below w.heap.size w w' := by
  have hu := Tryd.underlying67
  obtain ⟨i0, hi, hz0, hz1, hz2⟩ := info_parts opt_info
  have HO := Lib.hid (show OL #[.bool o0, .bool o1, .bool o2, .bool o3, .bool o4, .bool o5, .bool o6, .int .i64 o7] w [] (.slice none 0 0) (w.alloc (.cells #[.bool o0, .bool o1, .bool o2, .bool o3, .bool o4, .bool o5, .bool o6, .int .i64 o7] 67)) from ⟨World.ownsRow_nil _ _ _ _, (Below.refl _ w).alloc (Nat.le_refl _) _, heap_alloc_new w _, by simp, by simp⟩)
  go_enter Tryd.func49, Tryd.ntmps49
  go_upto_region 2 with (fail)
  generalize w.alloc (.cells #[.bool o0, .bool o1, .bool o2, .bool o3, .bool o4, .bool o5, .bool o6, .int .i64 o7] 67) = wc at HO ⊢

  obtain ⟨b0, hb0⟩ : ∃ b, o0 = b := ⟨_, rfl⟩
  have ho := HO.out
  obtain ⟨X0, hX0⟩ : ∃ x : List Int, (([] : List Int)) = x := ⟨_, rfl⟩
  rw [hX0] at ho
  have hc0 : _ = some (Value.bool b0) := (ho.cell 0).trans (by rw [← hb0]; rfl)
  go_upto_if 5 with (fail)
  go_cut [3] from 6 to 8 (fun v3 wc => Hid (OL #[.bool o0, .bool o1, .bool o2, .bool o3, .bool o4, .bool o5, .bool o6, .int .i64 o7] w (([] : List Int) ++ one o0 0) v3 wc))
  case first =>
    have HE : Hid (X0 ++ one b0 0 = (([] : List Int) ++ one o0 0)) := Lib.hid (by rw [← hX0, hb0])
    cases b0 with
    | true =>
      have hlm : X0.length + 1 ≤ 100 := by rw [← hX0]; have := one_len o0 0; have := one_len o1 1; have := one_len o2 2; have := one_len o3 3; have := one_len o4 4; have := one_len o5 5; simp only [List.length_append, List.length_nil]; omega
      have hsz := ho.2.2.2.2
      clear hb0 hX0
      go_wp2_with (at_builtin; refine wpList_append_own _ rfl _ _ 91 rfl (w.heap.size + 1) 108 i0 (.int .i64 0) 1 8 Tryd.underlying91 hi hz0 hz1 hz2 rfl (by decide) _ _ _ rfl (ho.1.alloc _) ⟨wc.heap.size, 0, none⟩ 1 1 [.int .i64 0] rfl rfl ?c1 ?c2 ?c3 ?c4 ?c5 ?_)
      case c1 =>
        intro j u hj
        match j, hj with
        | 0, hj => simp at hj; subst hj; simp [Addr.add]
      case c2 => intro u hu; simp at hu; subst hu; rfl
      case c3 => unfold maxLen; omega
      case c4 => omega
      case c5 => rw [World.size_alloc]; omega
      intro v2 w2 hown hg _
      have HS : Hid (OL #[.bool o0, .bool o1, .bool o2, .bool o3, .bool o4, .bool o5, .bool o6, .int .i64 o7] w (([] : List Int) ++ one o0 0) v2 w2) := Lib.hid (by rw [← HE.out]; exact ho.next hown hg hlm)
      obtain ⟨a9, n9, c9, rfl⟩ := HS.out.form
      clear ho hown hg
      go_wp2_with fail
      go_meet
      case rel => exact HS
    | false =>
      have HS : Hid (OL #[.bool o0, .bool o1, .bool o2, .bool o3, .bool o4, .bool o5, .bool o6, .int .i64 o7] w (([] : List Int) ++ one o0 0) _ wc) := Lib.hid (by rw [← HE.out]; exact ho.same rfl)
      clear ho hb0 hX0
      go_wp2_with fail
      go_meet
      case rel => exact HS
  case rest =>
  clear ho hb0 hc0 hX0 HO
  have HO1 := hcut
  clear hcut
  obtain ⟨a0, n0, c0, rfl⟩ := HO1.out.form
  obtain ⟨b1, hb1⟩ : ∃ b, o1 = b := ⟨_, rfl⟩
  have ho := HO1.out
  obtain ⟨X1, hX1⟩ : ∃ x : List Int, (([] : List Int) ++ one o0 0) = x := ⟨_, rfl⟩
  rw [hX1] at ho
  have hc1 : _ = some (Value.bool b1) := (ho.cell 1).trans (by rw [← hb1]; rfl)
  go_upto_if 10 with (fail)
  go_cut [3] from 11 to 13 (fun v3 wc => Hid (OL #[.bool o0, .bool o1, .bool o2, .bool o3, .bool o4, .bool o5, .bool o6, .int .i64 o7] w (([] : List Int) ++ one o0 0 ++ one o1 1) v3 wc))
  case first =>
    have HE : Hid (X1 ++ one b1 1 = (([] : List Int) ++ one o0 0 ++ one o1 1)) := Lib.hid (by rw [← hX1, hb1])
    cases b1 with
    | true =>
      have hlm : X1.length + 1 ≤ 100 := by rw [← hX1]; have := one_len o0 0; have := one_len o1 1; have := one_len o2 2; have := one_len o3 3; have := one_len o4 4; have := one_len o5 5; simp only [List.length_append, List.length_nil]; omega
      have hsz := ho.2.2.2.2
      clear hb1 hX1
      go_wp2_with (at_builtin; refine wpList_append_own _ rfl _ _ 91 rfl (w.heap.size + 1) 108 i0 (.int .i64 0) 1 8 Tryd.underlying91 hi hz0 hz1 hz2 rfl (by decide) _ _ _ rfl (ho.1.alloc _) ⟨wc.heap.size, 0, none⟩ 1 1 [.int .i64 1] rfl rfl ?c1 ?c2 ?c3 ?c4 ?c5 ?_)
      case c1 =>
        intro j u hj
        match j, hj with
        | 0, hj => simp at hj; subst hj; simp [Addr.add]
      case c2 => intro u hu; simp at hu; subst hu; rfl
      case c3 => unfold maxLen; omega
      case c4 => omega
      case c5 => rw [World.size_alloc]; omega
      intro v2 w2 hown hg _
      have HS : Hid (OL #[.bool o0, .bool o1, .bool o2, .bool o3, .bool o4, .bool o5, .bool o6, .int .i64 o7] w (([] : List Int) ++ one o0 0 ++ one o1 1) v2 w2) := Lib.hid (by rw [← HE.out]; exact ho.next hown hg hlm)
      obtain ⟨a9, n9, c9, rfl⟩ := HS.out.form
      clear ho hown hg
      go_wp2_with fail
      go_meet
      case rel => exact HS
    | false =>
      have HS : Hid (OL #[.bool o0, .bool o1, .bool o2, .bool o3, .bool o4, .bool o5, .bool o6, .int .i64 o7] w (([] : List Int) ++ one o0 0 ++ one o1 1) _ wc) := Lib.hid (by rw [← HE.out]; exact ho.same rfl)
      clear ho hb1 hX1
      go_wp2_with fail
      go_meet
      case rel => exact HS
  case rest =>
  clear ho hb1 hc1 hX1 HO1
  have HO2 := hcut
  clear hcut
  obtain ⟨a1, n1, c1, rfl⟩ := HO2.out.form
  obtain ⟨b2, hb2⟩ : ∃ b, o2 = b := ⟨_, rfl⟩
  have ho := HO2.out
  obtain ⟨X2, hX2⟩ : ∃ x : List Int, (([] : List Int) ++ one o0 0 ++ one o1 1) = x := ⟨_, rfl⟩
  rw [hX2] at ho
  have hc2 : _ = some (Value.bool b2) := (ho.cell 2).trans (by rw [← hb2]; rfl)
  go_upto_if 15 with (fail)
  go_cut [3] from 16 to 18 (fun v3 wc => Hid (OL #[.bool o0, .bool o1, .bool o2, .bool o3, .bool o4, .bool o5, .bool o6, .int .i64 o7] w (([] : List Int) ++ one o0 0 ++ one o1 1 ++ one o2 2) v3 wc))
  case first =>
    have HE : Hid (X2 ++ one b2 2 = (([] : List Int) ++ one o0 0 ++ one o1 1 ++ one o2 2)) := Lib.hid (by rw [← hX2, hb2])
    cases b2 with
    | true =>
      have hlm : X2.length + 1 ≤ 100 := by rw [← hX2]; have := one_len o0 0; have := one_len o1 1; have := one_len o2 2; have := one_len o3 3; have := one_len o4 4; have := one_len o5 5; simp only [List.length_append, List.length_nil]; omega
      have hsz := ho.2.2.2.2
      clear hb2 hX2
      go_wp2_with (at_builtin; refine wpList_append_own _ rfl _ _ 91 rfl (w.heap.size + 1) 108 i0 (.int .i64 0) 1 8 Tryd.underlying91 hi hz0 hz1 hz2 rfl (by decide) _ _ _ rfl (ho.1.alloc _) ⟨wc.heap.size, 0, none⟩ 1 1 [.int .i64 2] rfl rfl ?c1 ?c2 ?c3 ?c4 ?c5 ?_)
      case c1 =>
        intro j u hj
        match j, hj with
        | 0, hj => simp at hj; subst hj; simp [Addr.add]
      case c2 => intro u hu; simp at hu; subst hu; rfl
      case c3 => unfold maxLen; omega
      case c4 => omega
      case c5 => rw [World.size_alloc]; omega
      intro v2 w2 hown hg _
      have HS : Hid (OL #[.bool o0, .bool o1, .bool o2, .bool o3, .bool o4, .bool o5, .bool o6, .int .i64 o7] w (([] : List Int) ++ one o0 0 ++ one o1 1 ++ one o2 2) v2 w2) := Lib.hid (by rw [← HE.out]; exact ho.next hown hg hlm)
      obtain ⟨a9, n9, c9, rfl⟩ := HS.out.form
      clear ho hown hg
      go_wp2_with fail
      go_meet
      case rel => exact HS
    | false =>
      have HS : Hid (OL #[.bool o0, .bool o1, .bool o2, .bool o3, .bool o4, .bool o5, .bool o6, .int .i64 o7] w (([] : List Int) ++ one o0 0 ++ one o1 1 ++ one o2 2) _ wc) := Lib.hid (by rw [← HE.out]; exact ho.same rfl)
      clear ho hb2 hX2
      go_wp2_with fail
      go_meet
      case rel => exact HS
  case rest =>
  clear ho hb2 hc2 hX2 HO2
  have HO3 := hcut
  clear hcut
  obtain ⟨a2, n2, c2, rfl⟩ := HO3.out.form
  obtain ⟨b3, hb3⟩ : ∃ b, o3 = b := ⟨_, rfl⟩
  have ho := HO3.out
  obtain ⟨X3, hX3⟩ : ∃ x : List Int, (([] : List Int) ++ one o0 0 ++ one o1 1 ++ one o2 2) = x := ⟨_, rfl⟩
  rw [hX3] at ho
  have hc3 : _ = some (Value.bool b3) := (ho.cell 3).trans (by rw [← hb3]; rfl)
  go_upto_if 20 with (fail)
  go_cut [3] from 21 to 23 (fun v3 wc => Hid (OL #[.bool o0, .bool o1, .bool o2, .bool o3, .bool o4, .bool o5, .bool o6, .int .i64 o7] w (([] : List Int) ++ one o0 0 ++ one o1 1 ++ one o2 2 ++ one o3 3) v3 wc))
  case first =>
    have HE : Hid (X3 ++ one b3 3 = (([] : List Int) ++ one o0 0 ++ one o1 1 ++ one o2 2 ++ one o3 3)) := Lib.hid (by rw [← hX3, hb3])
    cases b3 with
    | true =>
      have hlm : X3.length + 1 ≤ 100 := by rw [← hX3]; have := one_len o0 0; have := one_len o1 1; have := one_len o2 2; have := one_len o3 3; have := one_len o4 4; have := one_len o5 5; simp only [List.length_append, List.length_nil]; omega
      have hsz := ho.2.2.2.2
      clear hb3 hX3
      go_wp2_with (at_builtin; refine wpList_append_own _ rfl _ _ 91 rfl (w.heap.size + 1) 108 i0 (.int .i64 0) 1 8 Tryd.underlying91 hi hz0 hz1 hz2 rfl (by decide) _ _ _ rfl (ho.1.alloc _) ⟨wc.heap.size, 0, none⟩ 1 1 [.int .i64 3] rfl rfl ?c1 ?c2 ?c3 ?c4 ?c5 ?_)
      case c1 =>
        intro j u hj
        match j, hj with
        | 0, hj => simp at hj; subst hj; simp [Addr.add]
      case c2 => intro u hu; simp at hu; subst hu; rfl
      case c3 => unfold maxLen; omega
      case c4 => omega
      case c5 => rw [World.size_alloc]; omega
      intro v2 w2 hown hg _
      have HS : Hid (OL #[.bool o0, .bool o1, .bool o2, .bool o3, .bool o4, .bool o5, .bool o6, .int .i64 o7] w (([] : List Int) ++ one o0 0 ++ one o1 1 ++ one o2 2 ++ one o3 3) v2 w2) := Lib.hid (by rw [← HE.out]; exact ho.next hown hg hlm)
      obtain ⟨a9, n9, c9, rfl⟩ := HS.out.form
      clear ho hown hg
      go_wp2_with fail
      go_meet
      case rel => exact HS
    | false =>
      have HS : Hid (OL #[.bool o0, .bool o1, .bool o2, .bool o3, .bool o4, .bool o5, .bool o6, .int .i64 o7] w (([] : List Int) ++ one o0 0 ++ one o1 1 ++ one o2 2 ++ one o3 3) _ wc) := Lib.hid (by rw [← HE.out]; exact ho.same rfl)
      clear ho hb3 hX3
      go_wp2_with fail
      go_meet
      case rel => exact HS
  case rest =>
  clear ho hb3 hc3 hX3 HO3
  have HO4 := hcut
  clear hcut
  obtain ⟨a3, n3, c3, rfl⟩ := HO4.out.form
  obtain ⟨b4, hb4⟩ : ∃ b, o4 = b := ⟨_, rfl⟩
  have ho := HO4.out
  obtain ⟨X4, hX4⟩ : ∃ x : List Int, (([] : List Int) ++ one o0 0 ++ one o1 1 ++ one o2 2 ++ one o3 3) = x := ⟨_, rfl⟩
  rw [hX4] at ho
  have hc4 : _ = some (Value.bool b4) := (ho.cell 4).trans (by rw [← hb4]; rfl)
  go_upto_if 25 with (fail)
  go_cut [3] from 26 to 28 (fun v3 wc => Hid (OL #[.bool o0, .bool o1, .bool o2, .bool o3, .bool o4, .bool o5, .bool o6, .int .i64 o7] w (([] : List Int) ++ one o0 0 ++ one o1 1 ++ one o2 2 ++ one o3 3 ++ one o4 4) v3 wc))
  case first =>
    have HE : Hid (X4 ++ one b4 4 = (([] : List Int) ++ one o0 0 ++ one o1 1 ++ one o2 2 ++ one o3 3 ++ one o4 4)) := Lib.hid (by rw [← hX4, hb4])
    cases b4 with
    | true =>
      have hlm : X4.length + 1 ≤ 100 := by rw [← hX4]; have := one_len o0 0; have := one_len o1 1; have := one_len o2 2; have := one_len o3 3; have := one_len o4 4; have := one_len o5 5; simp only [List.length_append, List.length_nil]; omega
      have hsz := ho.2.2.2.2
      clear hb4 hX4
      go_wp2_with (at_builtin; refine wpList_append_own _ rfl _ _ 91 rfl (w.heap.size + 1) 108 i0 (.int .i64 0) 1 8 Tryd.underlying91 hi hz0 hz1 hz2 rfl (by decide) _ _ _ rfl (ho.1.alloc _) ⟨wc.heap.size, 0, none⟩ 1 1 [.int .i64 4] rfl rfl ?c1 ?c2 ?c3 ?c4 ?c5 ?_)
      case c1 =>
        intro j u hj
        match j, hj with
        | 0, hj => simp at hj; subst hj; simp [Addr.add]
      case c2 => intro u hu; simp at hu; subst hu; rfl
      case c3 => unfold maxLen; omega
      case c4 => omega
      case c5 => rw [World.size_alloc]; omega
      intro v2 w2 hown hg _
      have HS : Hid (OL #[.bool o0, .bool o1, .bool o2, .bool o3, .bool o4, .bool o5, .bool o6, .int .i64 o7] w (([] : List Int) ++ one o0 0 ++ one o1 1 ++ one o2 2 ++ one o3 3 ++ one o4 4) v2 w2) := Lib.hid (by rw [← HE.out]; exact ho.next hown hg hlm)
      obtain ⟨a9, n9, c9, rfl⟩ := HS.out.form
      clear ho hown hg
      go_wp2_with fail
      go_meet
      case rel => exact HS
    | false =>
      have HS : Hid (OL #[.bool o0, .bool o1, .bool o2, .bool o3, .bool o4, .bool o5, .bool o6, .int .i64 o7] w (([] : List Int) ++ one o0 0 ++ one o1 1 ++ one o2 2 ++ one o3 3 ++ one o4 4) _ wc) := Lib.hid (by rw [← HE.out]; exact ho.same rfl)
      clear ho hb4 hX4
      go_wp2_with fail
      go_meet
      case rel => exact HS
  case rest =>
  clear ho hb4 hc4 hX4 HO4
  have HO5 := hcut
  clear hcut
  obtain ⟨a4, n4, c4, rfl⟩ := HO5.out.form
  obtain ⟨b5, hb5⟩ : ∃ b, o5 = b := ⟨_, rfl⟩
  have ho := HO5.out
  obtain ⟨X5, hX5⟩ : ∃ x : List Int, (([] : List Int) ++ one o0 0 ++ one o1 1 ++ one o2 2 ++ one o3 3 ++ one o4 4) = x := ⟨_, rfl⟩
  rw [hX5] at ho
  have hc5 : _ = some (Value.bool b5) := (ho.cell 5).trans (by rw [← hb5]; rfl)
  go_upto_if 30 with (fail)
  go_cut [3] from 31 to 33 (fun v3 wc => Hid (OL #[.bool o0, .bool o1, .bool o2, .bool o3, .bool o4, .bool o5, .bool o6, .int .i64 o7] w (([] : List Int) ++ one o0 0 ++ one o1 1 ++ one o2 2 ++ one o3 3 ++ one o4 4 ++ one o5 5) v3 wc))
  case first =>
    have HE : Hid (X5 ++ one b5 5 = (([] : List Int) ++ one o0 0 ++ one o1 1 ++ one o2 2 ++ one o3 3 ++ one o4 4 ++ one o5 5)) := Lib.hid (by rw [← hX5, hb5])
    cases b5 with
    | true =>
      have hlm : X5.length + 1 ≤ 100 := by rw [← hX5]; have := one_len o0 0; have := one_len o1 1; have := one_len o2 2; have := one_len o3 3; have := one_len o4 4; have := one_len o5 5; simp only [List.length_append, List.length_nil]; omega
      have hsz := ho.2.2.2.2
      clear hb5 hX5
      go_wp2_with (at_builtin; refine wpList_append_own _ rfl _ _ 91 rfl (w.heap.size + 1) 108 i0 (.int .i64 0) 1 8 Tryd.underlying91 hi hz0 hz1 hz2 rfl (by decide) _ _ _ rfl (ho.1.alloc _) ⟨wc.heap.size, 0, none⟩ 1 1 [.int .i64 5] rfl rfl ?c1 ?c2 ?c3 ?c4 ?c5 ?_)
      case c1 =>
        intro j u hj
        match j, hj with
        | 0, hj => simp at hj; subst hj; simp [Addr.add]
      case c2 => intro u hu; simp at hu; subst hu; rfl
      case c3 => unfold maxLen; omega
      case c4 => omega
      case c5 => rw [World.size_alloc]; omega
      intro v2 w2 hown hg _
      have HS : Hid (OL #[.bool o0, .bool o1, .bool o2, .bool o3, .bool o4, .bool o5, .bool o6, .int .i64 o7] w (([] : List Int) ++ one o0 0 ++ one o1 1 ++ one o2 2 ++ one o3 3 ++ one o4 4 ++ one o5 5) v2 w2) := Lib.hid (by rw [← HE.out]; exact ho.next hown hg hlm)
      obtain ⟨a9, n9, c9, rfl⟩ := HS.out.form
      clear ho hown hg
      go_wp2_with fail
      go_meet
      case rel => exact HS
    | false =>
      have HS : Hid (OL #[.bool o0, .bool o1, .bool o2, .bool o3, .bool o4, .bool o5, .bool o6, .int .i64 o7] w (([] : List Int) ++ one o0 0 ++ one o1 1 ++ one o2 2 ++ one o3 3 ++ one o4 4 ++ one o5 5) _ wc) := Lib.hid (by rw [← HE.out]; exact ho.same rfl)
      clear ho hb5 hX5
      go_wp2_with fail
      go_meet
      case rel => exact HS
  case rest =>
  clear ho hb5 hc5 hX5 HO5
  have HO6 := hcut
  clear hcut
  obtain ⟨a5, n5, c5, rfl⟩ := HO6.out.form
  obtain ⟨b6, hb6⟩ : ∃ b, o6 = b := ⟨_, rfl⟩
  have ho := HO6.out
  obtain ⟨X6, hX6⟩ : ∃ x : List Int, (([] : List Int) ++ one o0 0 ++ one o1 1 ++ one o2 2 ++ one o3 3 ++ one o4 4 ++ one o5 5) = x := ⟨_, rfl⟩
  rw [hX6] at ho
  have hc6 : _ = some (Value.bool b6) := (ho.cell 6).trans (by rw [← hb6]; rfl)
  go_upto_if 35 with (fail)
  go_cut [3] from 36 to 38 (fun v3 wc => Hid (OL #[.bool o0, .bool o1, .bool o2, .bool o3, .bool o4, .bool o5, .bool o6, .int .i64 o7] w (([] : List Int) ++ one o0 0 ++ one o1 1 ++ one o2 2 ++ one o3 3 ++ one o4 4 ++ one o5 5 ++ one o6 6) v3 wc))
  case first =>
    have HE : Hid (X6 ++ one b6 6 = (([] : List Int) ++ one o0 0 ++ one o1 1 ++ one o2 2 ++ one o3 3 ++ one o4 4 ++ one o5 5 ++ one o6 6)) := Lib.hid (by rw [← hX6, hb6])
    cases b6 with
    | true =>
      have hlm : X6.length + 1 ≤ 100 := by rw [← hX6]; have := one_len o0 0; have := one_len o1 1; have := one_len o2 2; have := one_len o3 3; have := one_len o4 4; have := one_len o5 5; simp only [List.length_append, List.length_nil]; omega
      have hsz := ho.2.2.2.2
      clear hb6 hX6
      go_wp2_with (at_builtin; refine wpList_append_own _ rfl _ _ 91 rfl (w.heap.size + 1) 108 i0 (.int .i64 0) 1 8 Tryd.underlying91 hi hz0 hz1 hz2 rfl (by decide) _ _ _ rfl (ho.1.alloc _) ⟨wc.heap.size, 0, none⟩ 1 1 [.int .i64 6] rfl rfl ?c1 ?c2 ?c3 ?c4 ?c5 ?_)
      case c1 =>
        intro j u hj
        match j, hj with
        | 0, hj => simp at hj; subst hj; simp [Addr.add]
      case c2 => intro u hu; simp at hu; subst hu; rfl
      case c3 => unfold maxLen; omega
      case c4 => omega
      case c5 => rw [World.size_alloc]; omega
      intro v2 w2 hown hg _
      have HS : Hid (OL #[.bool o0, .bool o1, .bool o2, .bool o3, .bool o4, .bool o5, .bool o6, .int .i64 o7] w (([] : List Int) ++ one o0 0 ++ one o1 1 ++ one o2 2 ++ one o3 3 ++ one o4 4 ++ one o5 5 ++ one o6 6) v2 w2) := Lib.hid (by rw [← HE.out]; exact ho.next hown hg hlm)
      obtain ⟨a9, n9, c9, rfl⟩ := HS.out.form
      clear ho hown hg
      go_wp2_with fail
      go_meet
      case rel => exact HS
    | false =>
      have HS : Hid (OL #[.bool o0, .bool o1, .bool o2, .bool o3, .bool o4, .bool o5, .bool o6, .int .i64 o7] w (([] : List Int) ++ one o0 0 ++ one o1 1 ++ one o2 2 ++ one o3 3 ++ one o4 4 ++ one o5 5 ++ one o6 6) _ wc) := Lib.hid (by rw [← HE.out]; exact ho.same rfl)
      clear ho hb6 hX6
      go_wp2_with fail
      go_meet
      case rel => exact HS
  case rest =>
  clear ho hb6 hc6 hX6 HO6
  have HO7 := hcut
  clear hcut
  obtain ⟨a6, n6, c6, rfl⟩ := HO7.out.form
  have ho := HO7.out
  obtain ⟨X7, hX7⟩ : ∃ x : List Int, (([] : List Int) ++ one o0 0 ++ one o1 1 ++ one o2 2 ++ one o3 3 ++ one o4 4 ++ one o5 5 ++ one o6 6) = x := ⟨_, rfl⟩
  rw [hX7] at ho
  have hc7 : _ = some (Value.int .i64 o7) := (ho.cell 7).trans rfl
  have hoL : X7 ++ (if o7 = 0 then [] else [o7 * 65536]) = optL o0 o1 o2 o3 o4 o5 o6 o7 := by rw [← hX7]; simp [optL]
  by_cases h0 : o7 = 0
  · rw [if_pos h0, List.append_nil] at hoL
    rw [hoL] at ho
    obtain ⟨A, c, hv, hcc, hbb⟩ := ol_end ho
    have HF := Lib.hid (And.intro hcc hbb)
    rw [hv]
    have hn1 : (o7 != 0) = false := by simp [h0]
    clear h0 hv ho hcc hbb HO7
    go_wp2_with fail
    go_ret
    exact ⟨A, c, rfl, HF.out.1, HF.out.2⟩
  · rw [if_neg h0] at hoL
    have hn1 : (o7 != 0) = true := by simp [h0]
    have hmx : demangle_MaxLength.f o7 = some (o7 * 65536) := by unfold demangle_MaxLength.f; rw [if_pos (by omega)]
    have HM := Lib.hid (fun w' => demangle_MaxLength.calls o7 _ w' hmx)
    have hlm : X7.length + 1 ≤ 100 := by rw [← hX7]; have := one_len o0 0; have := one_len o1 1; have := one_len o2 2; have := one_len o3 3; have := one_len o4 4; have := one_len o5 5; have := one_len o6 6; simp only [List.length_append, List.length_nil]; omega
    have hsz := ho.2.2.2.2
    clear h0 hmx hX7
    go_wp2_with (first | (go_at_call 64; refine (HM.out _).mono ?_; rintro e wm ⟨rfl, rfl⟩) | (at_builtin; refine wpList_append_own _ rfl _ _ 91 rfl (w.heap.size + 1) 108 i0 (.int .i64 0) 1 8 Tryd.underlying91 hi hz0 hz1 hz2 rfl (by decide) _ _ _ rfl (ho.1.alloc _) ⟨wc.heap.size, 0, none⟩ 1 1 [.int .i64 (o7 * 65536)] rfl rfl ?c1 ?c2 ?c3 ?c4 ?c5 ?_))
    case c1 =>
      intro j u hj
      match j, hj with
      | 0, hj => simp at hj; subst hj; simp [Addr.add]
    case c2 => intro u hu; simp at hu; subst hu; rfl
    case c3 => unfold maxLen; omega
    case c4 => omega
    case c5 => rw [World.size_alloc]; omega
    intro v2 w2 hown hg _
    obtain ⟨A, c, hv, hcc, hbb⟩ := ol_end (ho.next hown hg hlm)
    rw [hoL] at hv hcc
    have HF := Lib.hid (And.intro hcc hbb)
    subst hv
    clear hcc hbb ho hown hg HO7
    go_wp2_with fail
    go_ret
    exact ⟨A, c, rfl, HF.out.1, HF.out.2⟩
end Go.Proofs.YtpmlnhddkbgefaaDoor
namespace Go.Proofs.YtpmlnhddkbgefaaDoor
set_option linter.unusedVariables false
set_option linter.unusedSimpArgs false
open Go.RowKit Go.Proofs.YtpmlnhddkbgefaaDoorW.PrintWords Go.Proofs.YtpmlnhddkbgefaaDoorW.PrintLast Go.Proofs.YtpmlnhddkbgefaaDoorW.PrintMore

theorem mem_one {b : Bool} {c x : Int} (h : x ∈ one b c) : x = c := by
  unfold one at h
  split at h
  · simpa using h
  · cases h
theorem optL_mem {o0 o1 o2 o3 o4 o5 o6 : Bool} {mx x : Int} (h : x ∈ optL o0 o1 o2 o3 o4 o5 o6 mx) : (0 ≤ x ∧ x < 7 ∧ (x = 6 → o6 = true)) ∨ (x = mx * 65536 ∧ mx ≠ 0) := by
  unfold optL at h
  simp only [List.mem_append] at h
  rcases h with h | h | h | h | h | h | h | h
  all_goals first
    | (have := mem_one h; subst this; refine .inl ⟨by decide, by decide, ?_⟩; intro e; first | (exact absurd e (by decide)) | (unfold one at h; cases o6 with | true => rfl | false => cases h))
    | (split at h
       · cases h
       · rename_i h0; exact .inr ⟨by simpa using h, h0⟩)
theorem optL_ok (o0 o1 o2 o3 o4 o5 o6 : Bool) (mx : Int) (h : 0 ≤ mx ∧ mx ≤ 30) : ∀ x ∈ optL o0 o1 o2 o3 o4 o5 o6 mx, x ≠ 1 → isMx x = true → 0 ≤ bits .and .i64 x 2031616 / 65536 ∧ bits .and .i64 x 2031616 / 65536 ≤ 64 := by
  intro x hx _ hm
  rcases optL_mem hx with ⟨h1, h2, _⟩ | ⟨rfl, h0⟩
  · obtain ⟨k, rfl⟩ : ∃ k : Nat, x = (k : Int) := ⟨x.toNat, by omega⟩
    rw [small_fin ⟨k, by omega⟩] at hm; cases hm
  · obtain ⟨_, k2, _⟩ := mx_facts (p := mx) (by omega) h.2
    rw [k2]; omega

/-- The limit that a list of options names. -/
def mxStep (m x : Int) : Int := if isMx x then mxLen x else m
def mxFold (L : List Int) : Int := L.foldl mxStep 0
theorem mxFold_dull (b : Bool) (c m : Int) (h : isMx c = false) : (one b c).foldl mxStep m = m := by
  unfold one
  split
  · show mxStep m c = m
    unfold mxStep; rw [h]; rfl
  · rfl
theorem mxFold_L (o0 o1 o2 o3 o4 o5 o6 : Bool) (mx : Int) (h : 0 ≤ mx ∧ mx ≤ 30) : mxFold (optL o0 o1 o2 o3 o4 o5 o6 mx) = mxOf mx := by
  have s0 : isMx 0 = false := small_fin ⟨0, by decide⟩
  have s1 : isMx 1 = false := small_fin ⟨1, by decide⟩
  have s2 : isMx 2 = false := small_fin ⟨2, by decide⟩
  have s3 : isMx 3 = false := small_fin ⟨3, by decide⟩
  have s4 : isMx 4 = false := small_fin ⟨4, by decide⟩
  have s5 : isMx 5 = false := small_fin ⟨5, by decide⟩
  have s6 : isMx 6 = false := small_fin ⟨6, by decide⟩
  unfold optL mxFold
  rw [List.foldl_append, mxFold_dull _ _ _ s0, List.foldl_append, mxFold_dull _ _ _ s1, List.foldl_append, mxFold_dull _ _ _ s2, List.foldl_append, mxFold_dull _ _ _ s3, List.foldl_append, mxFold_dull _ _ _ s4, List.foldl_append, mxFold_dull _ _ _ s5, List.foldl_append, mxFold_dull _ _ _ s6]
  by_cases h0 : mx = 0
  · rw [if_pos h0, h0]; rfl
  · rw [if_neg h0]
    obtain ⟨k1, k2, k3⟩ := mx_facts (p := mx) (by omega) h.2
    show mxStep _ _ = _
    unfold mxStep
    rw [if_pos k1, k3]
theorem mxFold_take {L : List Int} {i : Nat} (h : i < L.length) : mxFold (L.take (i + 1)) = mxStep (mxFold (L.take i)) L[i] := by
  unfold mxFold
  rw [List.take_succ_eq_append_getElem h, List.foldl_append]
  rfl
end Go.Proofs.YtpmlnhddkbgefaaDoor
namespace Go.Proofs.YtpmlnhddkbgefaaDoor
set_option linter.unusedVariables false
set_option linter.unusedSimpArgs false
open Go.RowKit Go.Proofs.YtpmlnhddkbgefaaDoorW.PrintWords Go.Proofs.YtpmlnhddkbgefaaDoorW.PrintLast Go.Proofs.YtpmlnhddkbgefaaDoorW.PrintMore
theorem rd_at {L : List Int} {i : Nat} (h : i < L.length) : rd L (i : Int) = L[i] := by
  unfold rd
  rw [Int.toNat_natCast, List.getD_eq_getElem?_getD, List.getElem?_eq_getElem h]; rfl
noncomputable def optBody : Code := oldLoops.getD 0 .skip
noncomputable def hashBody : Code := oldLoops.getD 1 .skip
section
variable {w0 : World} {L : List Int} {A : Option Addr} {c : Nat} {A0 A1 A2 A3 A4 A5 A7 A9 B0 B1 B2 B3 B4 B5 B6 B7 B8 B9 C0 C1 C2 C3 C4 C5 C6 C7 C8 E0 E1 E2 E3 E4 E5 E6 E7 E8 E9 F0 F1 F2 F3 F4 F5 F6 F7 F8 F9 G0 G1 G2 G3 G4 G5 G6 G7 G8 G9 H0 H1 H2 H3 H4 H5 H6 H7 H8 H9 I0 I1 I2 I3 I4 I5 I6 I7 I8 I9 J0 J1 J2 J3 J4 J5 J6 J7 J8 J9 K0 K1 K2 K3 K4 K5 K6 K7 K8 K9 L0 L1 L2 L3 L4 L5 L6 L7 L8 L9 M0 M1 M2 M3 M4 M5 M6 M7 M8 M9 N0 N1 N2 N3 N4 N5 N6 N7 N8 N9 O0 O1 O2 O3 O4 O5 O6 O7 O8 O9 P0 P1 P2 P3 P4 P5 P6 P7 P8 P9 R0 R1 R2 R3 R4 R5 R6 R7 R8 R9 S0 S1 S2 S3 S4 S5 S6 S7 S8 S9 T0 T1 T2 T3 T4 T5 T6 T7 T8 T9 U0 U1 U2 U3 U4 U5 U6 U7 U8 U9 V0 V1 V2 V3 V4 V5 V6 V7 V8 V9 W0 W1 W2 W3 W4 W5 W6 W7 W8 W9 X0 X1 X2 X3 X4 X5 X6 X7 X8 X9 Y0 Y1 Y2 Y3 Y4 Y5 Y6 Y7 Y8 Y9 Z0 Z1 Z2 Z3 Z4 Z5 Z6 Z7 Z8 Z9 x0 x1 x2 x3 x4 x5 x6 x7 x8 x9 z0 z1 z2 z3 z4 z5 z6 z7 : Value}
set_option maxRecDepth 1000000 in
def OptI (w0 : World) (L : List Int) (A : Option Addr) (c : Nat) (A0 A1 A2 A3 A4 A5 A7 A9 B0 B1 B2 B3 B4 B5 B6 B7 B8 B9 C0 C1 C2 C3 C4 C5 C6 C7 C8 E0 E1 E2 E3 E4 E5 E6 E7 E8 E9 F0 F1 F2 F3 F4 F5 F6 F7 F8 F9 G0 G1 G2 G3 G4 G5 G6 G7 G8 G9 H0 H1 H2 H3 H4 H5 H6 H7 H8 H9 I0 I1 I2 I3 I4 I5 I6 I7 I8 I9 J0 J1 J2 J3 J4 J5 J6 J7 J8 J9 K0 K1 K2 K3 K4 K5 K6 K7 K8 K9 L0 L1 L2 L3 L4 L5 L6 L7 L8 L9 M0 M1 M2 M3 M4 M5 M6 M7 M8 M9 N0 N1 N2 N3 N4 N5 N6 N7 N8 N9 O0 O1 O2 O3 O4 O5 O6 O7 O8 O9 P0 P1 P2 P3 P4 P5 P6 P7 P8 P9 R0 R1 R2 R3 R4 R5 R6 R7 R8 R9 S0 S1 S2 S3 S4 S5 S6 S7 S8 S9 T0 T1 T2 T3 T4 T5 T6 T7 T8 T9 U0 U1 U2 U3 U4 U5 U6 U7 U8 U9 V0 V1 V2 V3 V4 V5 V6 V7 V8 V9 W0 W1 W2 W3 W4 W5 W6 W7 W8 W9 X0 X1 X2 X3 X4 X5 X6 X7 X8 X9 Y0 Y1 Y2 Y3 Y4 Y5 Y6 Y7 Y8 Y9 Z0 Z1 Z2 Z3 Z4 Z5 Z6 Z7 Z8 Z9 x0 x1 x2 x3 x4 x5 x6 x7 x8 x9 z0 z1 z2 z3 z4 z5 z6 z7 : Value) (a : Act) (w' : World) : Prop :=
  ∃ A8 D2 D3 D4 D5 D6 D7 D8 D9 : Value, ∃ i : Nat, (w' = w0 ∧ i ≤ L.length) ∧ a = ⟨#[A0, A1, A2, A3, A4, A5, .int .i64 (mxFold (L.take i)), A7, A8, A9, B0, B1, B2, B3, B4, B5, B6, B7, B8, B9, C0, C1, C2, C3, C4, C5, C6, C7, C8, .slice A L.length c, .int .i64 L.length, .int .i64 i, D2, D3, D4, D5, D6, D7, D8, D9, E0, E1, E2, E3, E4, E5, E6, E7, E8, E9, F0, F1, F2, F3, F4, F5, F6, F7, F8, F9, G0, G1, G2, G3, G4, G5, G6, G7, G8, G9, H0, H1, H2, H3, H4, H5, H6, H7, H8, H9, I0, I1, I2, I3, I4, I5, I6, I7, I8, I9, J0, J1, J2, J3, J4, J5, J6, J7, J8, J9, K0, K1, K2, K3, K4, K5, K6, K7, K8, K9, L0, L1, L2, L3, L4, L5, L6, L7, L8, L9, M0, M1, M2, M3, M4, M5, M6, M7, M8, M9, N0, N1, N2, N3, N4, N5, N6, N7, N8, N9, O0, O1, O2, O3, O4, O5, O6, O7, O8, O9, P0, P1, P2, P3, P4, P5, P6, P7, P8, P9, R0, R1, R2, R3, R4, R5, R6, R7, R8, R9, S0, S1, S2, S3, S4, S5, S6, S7, S8, S9, T0, T1, T2, T3, T4, T5, T6, T7, T8, T9, U0, U1, U2, U3, U4, U5, U6, U7, U8, U9, V0, V1, V2, V3, V4, V5, V6, V7, V8, V9, W0, W1, W2, W3, W4, W5, W6, W7, W8, W9, X0, X1, X2, X3, X4, X5, X6, X7, X8, X9, Y0, Y1, Y2, Y3, Y4, Y5, Y6, Y7, Y8, Y9, Z0, Z1, Z2, Z3, Z4, Z5, Z6, Z7, Z8, Z9, x0, x1, x2, x3, x4, x5, x6, x7, x8, x9, z0, z1, z2, z3, z4, z5, z6, z7], []⟩
set_option maxRecDepth 1000000 in
def OptX (w0 : World) (L : List Int) (A : Option Addr) (c : Nat) (A0 A1 A2 A3 A4 A5 A7 A9 B0 B1 B2 B3 B4 B5 B6 B7 B8 B9 C0 C1 C2 C3 C4 C5 C6 C7 C8 E0 E1 E2 E3 E4 E5 E6 E7 E8 E9 F0 F1 F2 F3 F4 F5 F6 F7 F8 F9 G0 G1 G2 G3 G4 G5 G6 G7 G8 G9 H0 H1 H2 H3 H4 H5 H6 H7 H8 H9 I0 I1 I2 I3 I4 I5 I6 I7 I8 I9 J0 J1 J2 J3 J4 J5 J6 J7 J8 J9 K0 K1 K2 K3 K4 K5 K6 K7 K8 K9 L0 L1 L2 L3 L4 L5 L6 L7 L8 L9 M0 M1 M2 M3 M4 M5 M6 M7 M8 M9 N0 N1 N2 N3 N4 N5 N6 N7 N8 N9 O0 O1 O2 O3 O4 O5 O6 O7 O8 O9 P0 P1 P2 P3 P4 P5 P6 P7 P8 P9 R0 R1 R2 R3 R4 R5 R6 R7 R8 R9 S0 S1 S2 S3 S4 S5 S6 S7 S8 S9 T0 T1 T2 T3 T4 T5 T6 T7 T8 T9 U0 U1 U2 U3 U4 U5 U6 U7 U8 U9 V0 V1 V2 V3 V4 V5 V6 V7 V8 V9 W0 W1 W2 W3 W4 W5 W6 W7 W8 W9 X0 X1 X2 X3 X4 X5 X6 X7 X8 X9 Y0 Y1 Y2 Y3 Y4 Y5 Y6 Y7 Y8 Y9 Z0 Z1 Z2 Z3 Z4 Z5 Z6 Z7 Z8 Z9 x0 x1 x2 x3 x4 x5 x6 x7 x8 x9 z0 z1 z2 z3 z4 z5 z6 z7 : Value) (a : Act) (w' : World) : Prop :=
  ∃ A8 D2 D3 D4 D5 D6 D7 D8 D9 D1 : Value, w' = w0 ∧ a = ⟨#[A0, A1, A2, A3, A4, A5, .int .i64 (mxFold L), A7, A8, A9, B0, B1, B2, B3, B4, B5, B6, B7, B8, B9, C0, C1, C2, C3, C4, C5, C6, C7, C8, .slice A L.length c, .int .i64 L.length, D1, D2, D3, D4, D5, D6, D7, D8, D9, E0, E1, E2, E3, E4, E5, E6, E7, E8, E9, F0, F1, F2, F3, F4, F5, F6, F7, F8, F9, G0, G1, G2, G3, G4, G5, G6, G7, G8, G9, H0, H1, H2, H3, H4, H5, H6, H7, H8, H9, I0, I1, I2, I3, I4, I5, I6, I7, I8, I9, J0, J1, J2, J3, J4, J5, J6, J7, J8, J9, K0, K1, K2, K3, K4, K5, K6, K7, K8, K9, L0, L1, L2, L3, L4, L5, L6, L7, L8, L9, M0, M1, M2, M3, M4, M5, M6, M7, M8, M9, N0, N1, N2, N3, N4, N5, N6, N7, N8, N9, O0, O1, O2, O3, O4, O5, O6, O7, O8, O9, P0, P1, P2, P3, P4, P5, P6, P7, P8, P9, R0, R1, R2, R3, R4, R5, R6, R7, R8, R9, S0, S1, S2, S3, S4, S5, S6, S7, S8, S9, T0, T1, T2, T3, T4, T5, T6, T7, T8, T9, U0, U1, U2, U3, U4, U5, U6, U7, U8, U9, V0, V1, V2, V3, V4, V5, V6, V7, V8, V9, W0, W1, W2, W3, W4, W5, W6, W7, W8, W9, X0, X1, X2, X3, X4, X5, X6, X7, X8, X9, Y0, Y1, Y2, Y3, Y4, Y5, Y6, Y7, Y8, Y9, Z0, Z1, Z2, Z3, Z4, Z5, Z6, Z7, Z8, Z9, x0, x1, x2, x3, x4, x5, x6, x7, x8, x9, z0, z1, z2, z3, z4, z5, z6, z7], []⟩
def optMu (n : Nat) (a : Act) : Nat := n - (intOf (a.tmps.getD 31 undef)).toNat
set_option maxHeartbeats 4000000 in
set_option maxRecDepth 1000000 in
theorem opt_end (i : Nat) (A8 D2 D3 D4 D5 D6 D7 D8 D9 : Value) (Q0 : Exit → Act → World → Prop) (hi : i = L.length) (hexit : ∀ a' w'', OptX w0 L A c A0 A1 A2 A3 A4 A5 A7 A9 B0 B1 B2 B3 B4 B5 B6 B7 B8 B9 C0 C1 C2 C3 C4 C5 C6 C7 C8 E0 E1 E2 E3 E4 E5 E6 E7 E8 E9 F0 F1 F2 F3 F4 F5 F6 F7 F8 F9 G0 G1 G2 G3 G4 G5 G6 G7 G8 G9 H0 H1 H2 H3 H4 H5 H6 H7 H8 H9 I0 I1 I2 I3 I4 I5 I6 I7 I8 I9 J0 J1 J2 J3 J4 J5 J6 J7 J8 J9 K0 K1 K2 K3 K4 K5 K6 K7 K8 K9 L0 L1 L2 L3 L4 L5 L6 L7 L8 L9 M0 M1 M2 M3 M4 M5 M6 M7 M8 M9 N0 N1 N2 N3 N4 N5 N6 N7 N8 N9 O0 O1 O2 O3 O4 O5 O6 O7 O8 O9 P0 P1 P2 P3 P4 P5 P6 P7 P8 P9 R0 R1 R2 R3 R4 R5 R6 R7 R8 R9 S0 S1 S2 S3 S4 S5 S6 S7 S8 S9 T0 T1 T2 T3 T4 T5 T6 T7 T8 T9 U0 U1 U2 U3 U4 U5 U6 U7 U8 U9 V0 V1 V2 V3 V4 V5 V6 V7 V8 V9 W0 W1 W2 W3 W4 W5 W6 W7 W8 W9 X0 X1 X2 X3 X4 X5 X6 X7 X8 X9 Y0 Y1 Y2 Y3 Y4 Y5 Y6 Y7 Y8 Y9 Z0 Z1 Z2 Z3 Z4 Z5 Z6 Z7 Z8 Z9 x0 x1 x2 x3 x4 x5 x6 x7 x8 x9 z0 z1 z2 z3 z4 z5 z6 z7 a' w'' → Q0 (.exit 0) a' w'') (NX : Act → World → Prop) :
    Code.wp Tryd.prog optBody (Exit.then NX Q0) ⟨#[A0, A1, A2, A3, A4, A5, .int .i64 (mxFold (L.take i)), A7, A8, A9, B0, B1, B2, B3, B4, B5, B6, B7, B8, B9, C0, C1, C2, C3, C4, C5, C6, C7, C8, .slice A L.length c, .int .i64 L.length, .int .i64 i, D2, D3, D4, D5, D6, D7, D8, D9, E0, E1, E2, E3, E4, E5, E6, E7, E8, E9, F0, F1, F2, F3, F4, F5, F6, F7, F8, F9, G0, G1, G2, G3, G4, G5, G6, G7, G8, G9, H0, H1, H2, H3, H4, H5, H6, H7, H8, H9, I0, I1, I2, I3, I4, I5, I6, I7, I8, I9, J0, J1, J2, J3, J4, J5, J6, J7, J8, J9, K0, K1, K2, K3, K4, K5, K6, K7, K8, K9, L0, L1, L2, L3, L4, L5, L6, L7, L8, L9, M0, M1, M2, M3, M4, M5, M6, M7, M8, M9, N0, N1, N2, N3, N4, N5, N6, N7, N8, N9, O0, O1, O2, O3, O4, O5, O6, O7, O8, O9, P0, P1, P2, P3, P4, P5, P6, P7, P8, P9, R0, R1, R2, R3, R4, R5, R6, R7, R8, R9, S0, S1, S2, S3, S4, S5, S6, S7, S8, S9, T0, T1, T2, T3, T4, T5, T6, T7, T8, T9, U0, U1, U2, U3, U4, U5, U6, U7, U8, U9, V0, V1, V2, V3, V4, V5, V6, V7, V8, V9, W0, W1, W2, W3, W4, W5, W6, W7, W8, W9, X0, X1, X2, X3, X4, X5, X6, X7, X8, X9, Y0, Y1, Y2, Y3, Y4, Y5, Y6, Y7, Y8, Y9, Z0, Z1, Z2, Z3, Z4, Z5, Z6, Z7, Z8, Z9, x0, x1, x2, x3, x4, x5, x6, x7, x8, x9, z0, z1, z2, z3, z4, z5, z6, z7], []⟩ w0 := by
  conv => arg 2; whnf
  have hm : mxFold (L.take i) = mxFold L := by rw [hi, List.take_of_length_le (Nat.le_refl _)]
  rw [hm]
  have hnl : ¬ (i : Int) < (L.length : Int) := by omega
  clear hi hm
  go_wp2_with fail
  unfold OptX
  exact ⟨_, _, _, _, _, _, _, _, _, _, rfl, rfl⟩
set_option maxHeartbeats 4000000 in
set_option maxRecDepth 1000000 in
theorem opt_step (i : Nat) (A8 D2 D3 D4 D5 D6 D7 D8 D9 : Value) (Q0 : Exit → Act → World → Prop) (hC : (Kd.int .i64).C w0 A L.length L) (hO : ∀ x ∈ L, isMx x = true → 0 ≤ bits .and .i64 x 2031616 / 65536 ∧ bits .and .i64 x 2031616 / 65536 ≤ 64) (hlt : i < L.length) (NX : Act → World → Prop) (hn : NX = fun a' w'' => OptI w0 L A c A0 A1 A2 A3 A4 A5 A7 A9 B0 B1 B2 B3 B4 B5 B6 B7 B8 B9 C0 C1 C2 C3 C4 C5 C6 C7 C8 E0 E1 E2 E3 E4 E5 E6 E7 E8 E9 F0 F1 F2 F3 F4 F5 F6 F7 F8 F9 G0 G1 G2 G3 G4 G5 G6 G7 G8 G9 H0 H1 H2 H3 H4 H5 H6 H7 H8 H9 I0 I1 I2 I3 I4 I5 I6 I7 I8 I9 J0 J1 J2 J3 J4 J5 J6 J7 J8 J9 K0 K1 K2 K3 K4 K5 K6 K7 K8 K9 L0 L1 L2 L3 L4 L5 L6 L7 L8 L9 M0 M1 M2 M3 M4 M5 M6 M7 M8 M9 N0 N1 N2 N3 N4 N5 N6 N7 N8 N9 O0 O1 O2 O3 O4 O5 O6 O7 O8 O9 P0 P1 P2 P3 P4 P5 P6 P7 P8 P9 R0 R1 R2 R3 R4 R5 R6 R7 R8 R9 S0 S1 S2 S3 S4 S5 S6 S7 S8 S9 T0 T1 T2 T3 T4 T5 T6 T7 T8 T9 U0 U1 U2 U3 U4 U5 U6 U7 U8 U9 V0 V1 V2 V3 V4 V5 V6 V7 V8 V9 W0 W1 W2 W3 W4 W5 W6 W7 W8 W9 X0 X1 X2 X3 X4 X5 X6 X7 X8 X9 Y0 Y1 Y2 Y3 Y4 Y5 Y6 Y7 Y8 Y9 Z0 Z1 Z2 Z3 Z4 Z5 Z6 Z7 Z8 Z9 x0 x1 x2 x3 x4 x5 x6 x7 x8 x9 z0 z1 z2 z3 z4 z5 z6 z7 a' w'' ∧ optMu L.length a' < optMu L.length ⟨#[A0, A1, A2, A3, A4, A5, .int .i64 (mxFold (L.take i)), A7, A8, A9, B0, B1, B2, B3, B4, B5, B6, B7, B8, B9, C0, C1, C2, C3, C4, C5, C6, C7, C8, .slice A L.length c, .int .i64 L.length, .int .i64 i, D2, D3, D4, D5, D6, D7, D8, D9, E0, E1, E2, E3, E4, E5, E6, E7, E8, E9, F0, F1, F2, F3, F4, F5, F6, F7, F8, F9, G0, G1, G2, G3, G4, G5, G6, G7, G8, G9, H0, H1, H2, H3, H4, H5, H6, H7, H8, H9, I0, I1, I2, I3, I4, I5, I6, I7, I8, I9, J0, J1, J2, J3, J4, J5, J6, J7, J8, J9, K0, K1, K2, K3, K4, K5, K6, K7, K8, K9, L0, L1, L2, L3, L4, L5, L6, L7, L8, L9, M0, M1, M2, M3, M4, M5, M6, M7, M8, M9, N0, N1, N2, N3, N4, N5, N6, N7, N8, N9, O0, O1, O2, O3, O4, O5, O6, O7, O8, O9, P0, P1, P2, P3, P4, P5, P6, P7, P8, P9, R0, R1, R2, R3, R4, R5, R6, R7, R8, R9, S0, S1, S2, S3, S4, S5, S6, S7, S8, S9, T0, T1, T2, T3, T4, T5, T6, T7, T8, T9, U0, U1, U2, U3, U4, U5, U6, U7, U8, U9, V0, V1, V2, V3, V4, V5, V6, V7, V8, V9, W0, W1, W2, W3, W4, W5, W6, W7, W8, W9, X0, X1, X2, X3, X4, X5, X6, X7, X8, X9, Y0, Y1, Y2, Y3, Y4, Y5, Y6, Y7, Y8, Y9, Z0, Z1, Z2, Z3, Z4, Z5, Z6, Z7, Z8, Z9, x0, x1, x2, x3, x4, x5, x6, x7, x8, x9, z0, z1, z2, z3, z4, z5, z6, z7], []⟩) :
    Code.wp Tryd.prog optBody (Exit.then NX Q0) ⟨#[A0, A1, A2, A3, A4, A5, .int .i64 (mxFold (L.take i)), A7, A8, A9, B0, B1, B2, B3, B4, B5, B6, B7, B8, B9, C0, C1, C2, C3, C4, C5, C6, C7, C8, .slice A L.length c, .int .i64 L.length, .int .i64 i, D2, D3, D4, D5, D6, D7, D8, D9, E0, E1, E2, E3, E4, E5, E6, E7, E8, E9, F0, F1, F2, F3, F4, F5, F6, F7, F8, F9, G0, G1, G2, G3, G4, G5, G6, G7, G8, G9, H0, H1, H2, H3, H4, H5, H6, H7, H8, H9, I0, I1, I2, I3, I4, I5, I6, I7, I8, I9, J0, J1, J2, J3, J4, J5, J6, J7, J8, J9, K0, K1, K2, K3, K4, K5, K6, K7, K8, K9, L0, L1, L2, L3, L4, L5, L6, L7, L8, L9, M0, M1, M2, M3, M4, M5, M6, M7, M8, M9, N0, N1, N2, N3, N4, N5, N6, N7, N8, N9, O0, O1, O2, O3, O4, O5, O6, O7, O8, O9, P0, P1, P2, P3, P4, P5, P6, P7, P8, P9, R0, R1, R2, R3, R4, R5, R6, R7, R8, R9, S0, S1, S2, S3, S4, S5, S6, S7, S8, S9, T0, T1, T2, T3, T4, T5, T6, T7, T8, T9, U0, U1, U2, U3, U4, U5, U6, U7, U8, U9, V0, V1, V2, V3, V4, V5, V6, V7, V8, V9, W0, W1, W2, W3, W4, W5, W6, W7, W8, W9, X0, X1, X2, X3, X4, X5, X6, X7, X8, X9, Y0, Y1, Y2, Y3, Y4, Y5, Y6, Y7, Y8, Y9, Z0, Z1, Z2, Z3, Z4, Z5, Z6, Z7, Z8, Z9, x0, x1, x2, x3, x4, x5, x6, x7, x8, x9, z0, z1, z2, z3, z4, z5, z6, z7], []⟩ w0 := by
  subst hn
  conv => arg 2; whnf
  have hlt2 : (i : Int) < (L.length : Int) := by omega
  have hmx := Kd.C_max hC
  obtain ⟨ad, rfl, hcell⟩ := Kd.at_int hC (i : Int) (by omega) hlt2
  rw [rd_at hlt, Int.toNat_natCast] at hcell
  have HS := Lib.hid (mxFold_take hlt)
  have hox := hO L[i] (List.getElem_mem hlt)
  have hw : IntKind.i64.wrap ((i : Int) + 1) = (i : Int) + 1 := IntWalk.i64_in _ (by omega)
  generalize L[i] = x at *
  have HIM := Lib.hid (fun w => isMax_calls x w)
  cases hm : isMx x with
  | true =>
    rw [hm] at HIM
    have HML := Lib.hid (fun w => maxLength_calls x (hox hm).1 (hox hm).2 w)
    have HT : Hid (mxLen x = mxFold (L.take (i + 1))) := Lib.hid (by rw [HS.out]; unfold mxStep; rw [if_pos hm])
    clear hox hm hC hO HS hmx
    go_wp2_with (first | (go_at_call 87; refine (HIM.out _).mono ?_; rintro e w1 ⟨rfl, rfl⟩) | (go_at_call 88; refine (HML.out _).mono ?_; rintro e w1 ⟨rfl, rfl⟩))
    refine ⟨?_, ?_⟩
    · rw [HT.out]
      unfold OptI
      exact ⟨_, _, _, _, _, _, _, _, _, i + 1, ⟨rfl, by omega⟩, rfl⟩
    · show L.length - ((i : Int) + 1).toNat < L.length - ((i : Nat) : Int).toNat
      omega
  | false =>
    rw [hm] at HIM
    have HT : Hid (mxFold (L.take (i + 1)) = mxFold (L.take i)) := Lib.hid (by rw [HS.out]; unfold mxStep; rw [if_neg (by rw [hm]; decide)])
    clear hox hm hC hO HS hmx
    go_wp2_with (go_at_call 87; refine (HIM.out _).mono ?_; rintro e w1 ⟨rfl, rfl⟩)
    refine ⟨?_, ?_⟩
    · rw [← HT.out]
      unfold OptI
      exact ⟨_, _, _, _, _, _, _, _, _, i + 1, ⟨rfl, by omega⟩, rfl⟩
    · show L.length - ((i : Int) + 1).toNat < L.length - ((i : Nat) : Int).toNat
      omega
set_option maxHeartbeats 4000000 in
set_option maxRecDepth 1000000 in
theorem opt_loop (A8 D2 D3 D4 D5 D6 D7 D8 D9 : Value) (Q0 : Exit → Act → World → Prop) (hC : (Kd.int .i64).C w0 A L.length L) (hO : ∀ x ∈ L, isMx x = true → 0 ≤ bits .and .i64 x 2031616 / 65536 ∧ bits .and .i64 x 2031616 / 65536 ≤ 64) (hexit : ∀ a' w'', OptX w0 L A c A0 A1 A2 A3 A4 A5 A7 A9 B0 B1 B2 B3 B4 B5 B6 B7 B8 B9 C0 C1 C2 C3 C4 C5 C6 C7 C8 E0 E1 E2 E3 E4 E5 E6 E7 E8 E9 F0 F1 F2 F3 F4 F5 F6 F7 F8 F9 G0 G1 G2 G3 G4 G5 G6 G7 G8 G9 H0 H1 H2 H3 H4 H5 H6 H7 H8 H9 I0 I1 I2 I3 I4 I5 I6 I7 I8 I9 J0 J1 J2 J3 J4 J5 J6 J7 J8 J9 K0 K1 K2 K3 K4 K5 K6 K7 K8 K9 L0 L1 L2 L3 L4 L5 L6 L7 L8 L9 M0 M1 M2 M3 M4 M5 M6 M7 M8 M9 N0 N1 N2 N3 N4 N5 N6 N7 N8 N9 O0 O1 O2 O3 O4 O5 O6 O7 O8 O9 P0 P1 P2 P3 P4 P5 P6 P7 P8 P9 R0 R1 R2 R3 R4 R5 R6 R7 R8 R9 S0 S1 S2 S3 S4 S5 S6 S7 S8 S9 T0 T1 T2 T3 T4 T5 T6 T7 T8 T9 U0 U1 U2 U3 U4 U5 U6 U7 U8 U9 V0 V1 V2 V3 V4 V5 V6 V7 V8 V9 W0 W1 W2 W3 W4 W5 W6 W7 W8 W9 X0 X1 X2 X3 X4 X5 X6 X7 X8 X9 Y0 Y1 Y2 Y3 Y4 Y5 Y6 Y7 Y8 Y9 Z0 Z1 Z2 Z3 Z4 Z5 Z6 Z7 Z8 Z9 x0 x1 x2 x3 x4 x5 x6 x7 x8 x9 z0 z1 z2 z3 z4 z5 z6 z7 a' w'' → Q0 (.exit 0) a' w'') :
    Code.wp Tryd.prog (Code.loop optBody) Q0 ⟨#[A0, A1, A2, A3, A4, A5, .int .i64 0, A7, A8, A9, B0, B1, B2, B3, B4, B5, B6, B7, B8, B9, C0, C1, C2, C3, C4, C5, C6, C7, C8, .slice A L.length c, .int .i64 L.length, .int .i64 0, D2, D3, D4, D5, D6, D7, D8, D9, E0, E1, E2, E3, E4, E5, E6, E7, E8, E9, F0, F1, F2, F3, F4, F5, F6, F7, F8, F9, G0, G1, G2, G3, G4, G5, G6, G7, G8, G9, H0, H1, H2, H3, H4, H5, H6, H7, H8, H9, I0, I1, I2, I3, I4, I5, I6, I7, I8, I9, J0, J1, J2, J3, J4, J5, J6, J7, J8, J9, K0, K1, K2, K3, K4, K5, K6, K7, K8, K9, L0, L1, L2, L3, L4, L5, L6, L7, L8, L9, M0, M1, M2, M3, M4, M5, M6, M7, M8, M9, N0, N1, N2, N3, N4, N5, N6, N7, N8, N9, O0, O1, O2, O3, O4, O5, O6, O7, O8, O9, P0, P1, P2, P3, P4, P5, P6, P7, P8, P9, R0, R1, R2, R3, R4, R5, R6, R7, R8, R9, S0, S1, S2, S3, S4, S5, S6, S7, S8, S9, T0, T1, T2, T3, T4, T5, T6, T7, T8, T9, U0, U1, U2, U3, U4, U5, U6, U7, U8, U9, V0, V1, V2, V3, V4, V5, V6, V7, V8, V9, W0, W1, W2, W3, W4, W5, W6, W7, W8, W9, X0, X1, X2, X3, X4, X5, X6, X7, X8, X9, Y0, Y1, Y2, Y3, Y4, Y5, Y6, Y7, Y8, Y9, Z0, Z1, Z2, Z3, Z4, Z5, Z6, Z7, Z8, Z9, x0, x1, x2, x3, x4, x5, x6, x7, x8, x9, z0, z1, z2, z3, z4, z5, z6, z7], []⟩ w0 := by
  refine wp_loop (fun a w => OptI w0 L A c A0 A1 A2 A3 A4 A5 A7 A9 B0 B1 B2 B3 B4 B5 B6 B7 B8 B9 C0 C1 C2 C3 C4 C5 C6 C7 C8 E0 E1 E2 E3 E4 E5 E6 E7 E8 E9 F0 F1 F2 F3 F4 F5 F6 F7 F8 F9 G0 G1 G2 G3 G4 G5 G6 G7 G8 G9 H0 H1 H2 H3 H4 H5 H6 H7 H8 H9 I0 I1 I2 I3 I4 I5 I6 I7 I8 I9 J0 J1 J2 J3 J4 J5 J6 J7 J8 J9 K0 K1 K2 K3 K4 K5 K6 K7 K8 K9 L0 L1 L2 L3 L4 L5 L6 L7 L8 L9 M0 M1 M2 M3 M4 M5 M6 M7 M8 M9 N0 N1 N2 N3 N4 N5 N6 N7 N8 N9 O0 O1 O2 O3 O4 O5 O6 O7 O8 O9 P0 P1 P2 P3 P4 P5 P6 P7 P8 P9 R0 R1 R2 R3 R4 R5 R6 R7 R8 R9 S0 S1 S2 S3 S4 S5 S6 S7 S8 S9 T0 T1 T2 T3 T4 T5 T6 T7 T8 T9 U0 U1 U2 U3 U4 U5 U6 U7 U8 U9 V0 V1 V2 V3 V4 V5 V6 V7 V8 V9 W0 W1 W2 W3 W4 W5 W6 W7 W8 W9 X0 X1 X2 X3 X4 X5 X6 X7 X8 X9 Y0 Y1 Y2 Y3 Y4 Y5 Y6 Y7 Y8 Y9 Z0 Z1 Z2 Z3 Z4 Z5 Z6 Z7 Z8 Z9 x0 x1 x2 x3 x4 x5 x6 x7 x8 x9 z0 z1 z2 z3 z4 z5 z6 z7 a w) (fun a _ => optMu L.length a) ?_ ?_
  · unfold OptI
    exact ⟨_, _, _, _, _, _, _, _, _, 0, ⟨rfl, Nat.zero_le _⟩, rfl⟩
  · intro a w hI
    unfold OptI at hI
    obtain ⟨A8, hI⟩ := hI
    obtain ⟨D2, hI⟩ := hI
    obtain ⟨D3, hI⟩ := hI
    obtain ⟨D4, hI⟩ := hI
    obtain ⟨D5, hI⟩ := hI
    obtain ⟨D6, hI⟩ := hI
    obtain ⟨D7, hI⟩ := hI
    obtain ⟨D8, hI⟩ := hI
    obtain ⟨D9, hI⟩ := hI
    obtain ⟨i, ⟨rfl, hi⟩, rfl⟩ := hI
    by_cases hlt : i < L.length
    · exact opt_step i A8 D2 D3 D4 D5 D6 D7 D8 D9 Q0 hC hO hlt _ rfl
    · exact opt_end i A8 D2 D3 D4 D5 D6 D7 D8 D9 Q0 (by omega) hexit _
end
section
variable {w0 : World} {n : List UInt8} {Y : Option Nat} {A1 A2 A3 A4 A5 A6 A7 A8 B4 B5 B6 B7 B8 B9 C0 C1 C2 C3 C4 C5 C6 C7 C8 C9 D0 D1 D2 D3 D4 D5 D6 D7 D8 D9 E0 E1 E2 E3 E4 G6 G7 G8 G9 H0 H1 H2 H3 H4 H5 H6 H7 H8 H9 I0 I1 I2 I3 I4 I5 I6 I7 I8 I9 J0 J1 J2 J3 J4 J5 J6 J7 J8 J9 K0 K1 K2 K3 K4 K5 K6 K7 K8 K9 L0 L1 L2 L3 L4 L5 L6 L7 L8 L9 M0 M1 M2 M3 M4 M5 M6 M7 M8 M9 N0 N1 N2 N3 N4 N5 N6 N7 N8 N9 O0 O1 O2 O3 O4 O5 O6 O7 O8 O9 P0 P1 P2 P3 P4 P5 P6 P7 P8 P9 R0 R1 R2 R3 R4 R5 R6 R7 R8 R9 S0 S1 S2 S3 S4 S5 S6 S7 S8 S9 T0 T1 T2 T3 T4 T5 T6 T7 T8 T9 U0 U1 U2 U3 U4 U5 U6 U7 U8 U9 V0 V1 V2 V3 V4 V5 V6 V7 V8 V9 W0 W1 W2 W3 W4 W5 W6 W7 W8 W9 X0 X1 X2 X3 X4 X5 X6 X7 X8 X9 Y0 Y1 Y2 Y3 Y4 Y5 Y6 Y7 Y8 Y9 Z0 Z1 Z2 Z3 Z4 Z5 Z6 Z7 Z8 Z9 x0 x1 x2 x3 x4 x5 x6 x7 x8 x9 z0 z1 z2 z3 z4 z5 z6 z7 : Value}
set_option maxRecDepth 1000000 in
def HashI (w0 : World) (n : List UInt8) (Y : Option Nat) (A1 A2 A3 A4 A5 A6 A7 A8 B4 B5 B6 B7 B8 B9 C0 C1 C2 C3 C4 C5 C6 C7 C8 C9 D0 D1 D2 D3 D4 D5 D6 D7 D8 D9 E0 E1 E2 E3 E4 G6 G7 G8 G9 H0 H1 H2 H3 H4 H5 H6 H7 H8 H9 I0 I1 I2 I3 I4 I5 I6 I7 I8 I9 J0 J1 J2 J3 J4 J5 J6 J7 J8 J9 K0 K1 K2 K3 K4 K5 K6 K7 K8 K9 L0 L1 L2 L3 L4 L5 L6 L7 L8 L9 M0 M1 M2 M3 M4 M5 M6 M7 M8 M9 N0 N1 N2 N3 N4 N5 N6 N7 N8 N9 O0 O1 O2 O3 O4 O5 O6 O7 O8 O9 P0 P1 P2 P3 P4 P5 P6 P7 P8 P9 R0 R1 R2 R3 R4 R5 R6 R7 R8 R9 S0 S1 S2 S3 S4 S5 S6 S7 S8 S9 T0 T1 T2 T3 T4 T5 T6 T7 T8 T9 U0 U1 U2 U3 U4 U5 U6 U7 U8 U9 V0 V1 V2 V3 V4 V5 V6 V7 V8 V9 W0 W1 W2 W3 W4 W5 W6 W7 W8 W9 X0 X1 X2 X3 X4 X5 X6 X7 X8 X9 Y0 Y1 Y2 Y3 Y4 Y5 Y6 Y7 Y8 Y9 Z0 Z1 Z2 Z3 Z4 Z5 Z6 Z7 Z8 Z9 x0 x1 x2 x3 x4 x5 x6 x7 x8 x9 z0 z1 z2 z3 z4 z5 z6 z7 : Value) (a : Act) (w' : World) : Prop :=
  ∃ B2 B3 E5 E6 E7 E8 E9 F0 F1 F2 F3 F4 F5 F6 F7 F8 F9 G0 G1 G2 G3 G4 G5 : Value, ∃ (i s : Nat), (w' = w0 ∧ i ≤ n.length - 1 ∧ s < 65536 ∧ Dm.seen s ((n.drop i).take (n.length - 1 - i)) = Y) ∧ a = ⟨#[.string (bs n), A1, A2, A3, A4, A5, A6, A7, A8, HF, .int .u16 (s : Nat), .int .i64 (i : Nat), B2, B3, B4, B5, B6, B7, B8, B9, C0, C1, C2, C3, C4, C5, C6, C7, C8, C9, D0, D1, D2, D3, D4, D5, D6, D7, D8, D9, E0, E1, E2, E3, E4, E5, E6, E7, E8, E9, F0, F1, F2, F3, F4, F5, F6, F7, F8, F9, G0, G1, G2, G3, G4, G5, G6, G7, G8, G9, H0, H1, H2, H3, H4, H5, H6, H7, H8, H9, I0, I1, I2, I3, I4, I5, I6, I7, I8, I9, J0, J1, J2, J3, J4, J5, J6, J7, J8, J9, K0, K1, K2, K3, K4, K5, K6, K7, K8, K9, L0, L1, L2, L3, L4, L5, L6, L7, L8, L9, M0, M1, M2, M3, M4, M5, M6, M7, M8, M9, N0, N1, N2, N3, N4, N5, N6, N7, N8, N9, O0, O1, O2, O3, O4, O5, O6, O7, O8, O9, P0, P1, P2, P3, P4, P5, P6, P7, P8, P9, R0, R1, R2, R3, R4, R5, R6, R7, R8, R9, S0, S1, S2, S3, S4, S5, S6, S7, S8, S9, T0, T1, T2, T3, T4, T5, T6, T7, T8, T9, U0, U1, U2, U3, U4, U5, U6, U7, U8, U9, V0, V1, V2, V3, V4, V5, V6, V7, V8, V9, W0, W1, W2, W3, W4, W5, W6, W7, W8, W9, X0, X1, X2, X3, X4, X5, X6, X7, X8, X9, Y0, Y1, Y2, Y3, Y4, Y5, Y6, Y7, Y8, Y9, Z0, Z1, Z2, Z3, Z4, Z5, Z6, Z7, Z8, Z9, x0, x1, x2, x3, x4, x5, x6, x7, x8, x9, z0, z1, z2, z3, z4, z5, z6, z7], []⟩
set_option maxRecDepth 1000000 in
def HashX (w0 : World) (n : List UInt8) (Y : Option Nat) (A1 A2 A3 A4 A5 A6 A7 A8 B4 B5 B6 B7 B8 B9 C0 C1 C2 C3 C4 C5 C6 C7 C8 C9 D0 D1 D2 D3 D4 D5 D6 D7 D8 D9 E0 E1 E2 E3 E4 G6 G7 G8 G9 H0 H1 H2 H3 H4 H5 H6 H7 H8 H9 I0 I1 I2 I3 I4 I5 I6 I7 I8 I9 J0 J1 J2 J3 J4 J5 J6 J7 J8 J9 K0 K1 K2 K3 K4 K5 K6 K7 K8 K9 L0 L1 L2 L3 L4 L5 L6 L7 L8 L9 M0 M1 M2 M3 M4 M5 M6 M7 M8 M9 N0 N1 N2 N3 N4 N5 N6 N7 N8 N9 O0 O1 O2 O3 O4 O5 O6 O7 O8 O9 P0 P1 P2 P3 P4 P5 P6 P7 P8 P9 R0 R1 R2 R3 R4 R5 R6 R7 R8 R9 S0 S1 S2 S3 S4 S5 S6 S7 S8 S9 T0 T1 T2 T3 T4 T5 T6 T7 T8 T9 U0 U1 U2 U3 U4 U5 U6 U7 U8 U9 V0 V1 V2 V3 V4 V5 V6 V7 V8 V9 W0 W1 W2 W3 W4 W5 W6 W7 W8 W9 X0 X1 X2 X3 X4 X5 X6 X7 X8 X9 Y0 Y1 Y2 Y3 Y4 Y5 Y6 Y7 Y8 Y9 Z0 Z1 Z2 Z3 Z4 Z5 Z6 Z7 Z8 Z9 x0 x1 x2 x3 x4 x5 x6 x7 x8 x9 z0 z1 z2 z3 z4 z5 z6 z7 : Value) (a : Act) (w' : World) : Prop :=
  ∃ B2 B3 E5 E6 E7 E8 E9 F0 F1 F2 F3 F4 F5 F6 F7 F8 F9 G0 G1 G2 G3 G4 G5 B1 : Value, ∃ s : Nat, (w' = w0 ∧ s < 65536 ∧ Y = some s) ∧ a = ⟨#[.string (bs n), A1, A2, A3, A4, A5, A6, A7, A8, HF, .int .u16 (s : Nat), B1, B2, B3, B4, B5, B6, B7, B8, B9, C0, C1, C2, C3, C4, C5, C6, C7, C8, C9, D0, D1, D2, D3, D4, D5, D6, D7, D8, D9, E0, E1, E2, E3, E4, E5, E6, E7, E8, E9, F0, F1, F2, F3, F4, F5, F6, F7, F8, F9, G0, G1, G2, G3, G4, G5, G6, G7, G8, G9, H0, H1, H2, H3, H4, H5, H6, H7, H8, H9, I0, I1, I2, I3, I4, I5, I6, I7, I8, I9, J0, J1, J2, J3, J4, J5, J6, J7, J8, J9, K0, K1, K2, K3, K4, K5, K6, K7, K8, K9, L0, L1, L2, L3, L4, L5, L6, L7, L8, L9, M0, M1, M2, M3, M4, M5, M6, M7, M8, M9, N0, N1, N2, N3, N4, N5, N6, N7, N8, N9, O0, O1, O2, O3, O4, O5, O6, O7, O8, O9, P0, P1, P2, P3, P4, P5, P6, P7, P8, P9, R0, R1, R2, R3, R4, R5, R6, R7, R8, R9, S0, S1, S2, S3, S4, S5, S6, S7, S8, S9, T0, T1, T2, T3, T4, T5, T6, T7, T8, T9, U0, U1, U2, U3, U4, U5, U6, U7, U8, U9, V0, V1, V2, V3, V4, V5, V6, V7, V8, V9, W0, W1, W2, W3, W4, W5, W6, W7, W8, W9, X0, X1, X2, X3, X4, X5, X6, X7, X8, X9, Y0, Y1, Y2, Y3, Y4, Y5, Y6, Y7, Y8, Y9, Z0, Z1, Z2, Z3, Z4, Z5, Z6, Z7, Z8, Z9, x0, x1, x2, x3, x4, x5, x6, x7, x8, x9, z0, z1, z2, z3, z4, z5, z6, z7], []⟩
set_option maxRecDepth 1000000 in
def HashB (w0 : World) (n : List UInt8) (Y : Option Nat) (A1 A2 A3 A4 A5 A6 A7 A8 B4 B5 B6 B7 B8 B9 C0 C1 C2 C3 C4 C5 C6 C7 C8 C9 D0 D1 D2 D3 D4 D5 D6 D7 D8 D9 E0 E1 E2 E3 E4 G6 G7 G8 G9 H0 H1 H2 H3 H4 H5 H6 H7 H8 H9 I0 I1 I2 I3 I4 I5 I6 I7 I8 I9 J0 J1 J2 J3 J4 J5 J6 J7 J8 J9 K0 K1 K2 K3 K4 K5 K6 K7 K8 K9 L0 L1 L2 L3 L4 L5 L6 L7 L8 L9 M0 M1 M2 M3 M4 M5 M6 M7 M8 M9 N0 N1 N2 N3 N4 N5 N6 N7 N8 N9 O0 O1 O2 O3 O4 O5 O6 O7 O8 O9 P0 P1 P2 P3 P4 P5 P6 P7 P8 P9 R0 R1 R2 R3 R4 R5 R6 R7 R8 R9 S0 S1 S2 S3 S4 S5 S6 S7 S8 S9 T0 T1 T2 T3 T4 T5 T6 T7 T8 T9 U0 U1 U2 U3 U4 U5 U6 U7 U8 U9 V0 V1 V2 V3 V4 V5 V6 V7 V8 V9 W0 W1 W2 W3 W4 W5 W6 W7 W8 W9 X0 X1 X2 X3 X4 X5 X6 X7 X8 X9 Y0 Y1 Y2 Y3 Y4 Y5 Y6 Y7 Y8 Y9 Z0 Z1 Z2 Z3 Z4 Z5 Z6 Z7 Z8 Z9 x0 x1 x2 x3 x4 x5 x6 x7 x8 x9 z0 z1 z2 z3 z4 z5 z6 z7 : Value) (a : Act) (w' : World) : Prop :=
  ∃ B2 B3 E5 E6 E7 E8 E9 F0 F1 F2 F3 F4 F5 F6 F7 F8 F9 G0 G1 G2 G3 G4 G5 B0 B1 : Value, (w' = w0 ∧ Y = none) ∧ a = ⟨#[.string (bs n), A1, A2, A3, .string ⟨#[]⟩, .bool false, A6, A7, A8, HF, B0, B1, B2, B3, B4, B5, B6, B7, B8, B9, C0, C1, C2, C3, C4, C5, C6, C7, C8, C9, D0, D1, D2, D3, D4, D5, D6, D7, D8, D9, E0, E1, E2, E3, E4, E5, E6, E7, E8, E9, F0, F1, F2, F3, F4, F5, F6, F7, F8, F9, G0, G1, G2, G3, G4, G5, G6, G7, G8, G9, H0, H1, H2, H3, H4, H5, H6, H7, H8, H9, I0, I1, I2, I3, I4, I5, I6, I7, I8, I9, J0, J1, J2, J3, J4, J5, J6, J7, J8, J9, K0, K1, K2, K3, K4, K5, K6, K7, K8, K9, L0, L1, L2, L3, L4, L5, L6, L7, L8, L9, M0, M1, M2, M3, M4, M5, M6, M7, M8, M9, N0, N1, N2, N3, N4, N5, N6, N7, N8, N9, O0, O1, O2, O3, O4, O5, O6, O7, O8, O9, P0, P1, P2, P3, P4, P5, P6, P7, P8, P9, R0, R1, R2, R3, R4, R5, R6, R7, R8, R9, S0, S1, S2, S3, S4, S5, S6, S7, S8, S9, T0, T1, T2, T3, T4, T5, T6, T7, T8, T9, U0, U1, U2, U3, U4, U5, U6, U7, U8, U9, V0, V1, V2, V3, V4, V5, V6, V7, V8, V9, W0, W1, W2, W3, W4, W5, W6, W7, W8, W9, X0, X1, X2, X3, X4, X5, X6, X7, X8, X9, Y0, Y1, Y2, Y3, Y4, Y5, Y6, Y7, Y8, Y9, Z0, Z1, Z2, Z3, Z4, Z5, Z6, Z7, Z8, Z9, x0, x1, x2, x3, x4, x5, x6, x7, x8, x9, z0, z1, z2, z3, z4, z5, z6, z7], []⟩
def hashMu (n : Nat) (a : Act) : Nat := n - (intOf (a.tmps.getD 11 undef)).toNat
theorem u16_or_fin : ∀ d : Fin 16, IntKind.u16.wrap (2 ^ d.val) = 2 ^ d.val := by decide +kernel
theorem u16_bit (s d : Nat) (hs : s < 65536) (hd : d < 16) : bits .or .u16 (s : Int) (2 ^ d) = ((s ||| 2 ^ d : Nat) : Int) := by
  have h2 : (2 : Nat) ^ d < 2 ^ 16 := Nat.pow_lt_pow_right (by decide) hd
  have := u16_or_nat s (2 ^ d) hs h2
  rw [← this]; norm_cast
theorem drop_head {n : List UInt8} {i : Nat} (h : i < n.length - 1) : (n.drop i).take (n.length - 1 - i) = n[i] :: (n.drop (i + 1)).take (n.length - 1 - (i + 1)) := by
  rw [List.drop_eq_getElem_cons (by omega : i < n.length), show n.length - 1 - i = (n.length - 1 - (i + 1)) + 1 by omega, List.take_succ_cons]
set_option maxHeartbeats 4000000 in
set_option maxRecDepth 1000000 in
theorem hash_end (i s : Nat) (B2 B3 E5 E6 E7 E8 E9 F0 F1 F2 F3 F4 F5 F6 F7 F8 F9 G0 G1 G2 G3 G4 G5 : Value) (Q0 : Exit → Act → World → Prop) (hi : i = n.length - 1) (h1 : 1 ≤ n.length) (hn : n.length ≤ 4611686018427387904) (hs : s < 65536) (hY : Dm.seen s ((n.drop i).take (n.length - 1 - i)) = Y) (hexit : ∀ a' w'', HashX w0 n Y A1 A2 A3 A4 A5 A6 A7 A8 B4 B5 B6 B7 B8 B9 C0 C1 C2 C3 C4 C5 C6 C7 C8 C9 D0 D1 D2 D3 D4 D5 D6 D7 D8 D9 E0 E1 E2 E3 E4 G6 G7 G8 G9 H0 H1 H2 H3 H4 H5 H6 H7 H8 H9 I0 I1 I2 I3 I4 I5 I6 I7 I8 I9 J0 J1 J2 J3 J4 J5 J6 J7 J8 J9 K0 K1 K2 K3 K4 K5 K6 K7 K8 K9 L0 L1 L2 L3 L4 L5 L6 L7 L8 L9 M0 M1 M2 M3 M4 M5 M6 M7 M8 M9 N0 N1 N2 N3 N4 N5 N6 N7 N8 N9 O0 O1 O2 O3 O4 O5 O6 O7 O8 O9 P0 P1 P2 P3 P4 P5 P6 P7 P8 P9 R0 R1 R2 R3 R4 R5 R6 R7 R8 R9 S0 S1 S2 S3 S4 S5 S6 S7 S8 S9 T0 T1 T2 T3 T4 T5 T6 T7 T8 T9 U0 U1 U2 U3 U4 U5 U6 U7 U8 U9 V0 V1 V2 V3 V4 V5 V6 V7 V8 V9 W0 W1 W2 W3 W4 W5 W6 W7 W8 W9 X0 X1 X2 X3 X4 X5 X6 X7 X8 X9 Y0 Y1 Y2 Y3 Y4 Y5 Y6 Y7 Y8 Y9 Z0 Z1 Z2 Z3 Z4 Z5 Z6 Z7 Z8 Z9 x0 x1 x2 x3 x4 x5 x6 x7 x8 x9 z0 z1 z2 z3 z4 z5 z6 z7 a' w'' → Q0 (.exit 2) a' w'') (NX : Act → World → Prop) :
    Code.wp Tryd.prog hashBody (Exit.then NX Q0) ⟨#[.string (bs n), A1, A2, A3, A4, A5, A6, A7, A8, HF, .int .u16 (s : Nat), .int .i64 (i : Nat), B2, B3, B4, B5, B6, B7, B8, B9, C0, C1, C2, C3, C4, C5, C6, C7, C8, C9, D0, D1, D2, D3, D4, D5, D6, D7, D8, D9, E0, E1, E2, E3, E4, E5, E6, E7, E8, E9, F0, F1, F2, F3, F4, F5, F6, F7, F8, F9, G0, G1, G2, G3, G4, G5, G6, G7, G8, G9, H0, H1, H2, H3, H4, H5, H6, H7, H8, H9, I0, I1, I2, I3, I4, I5, I6, I7, I8, I9, J0, J1, J2, J3, J4, J5, J6, J7, J8, J9, K0, K1, K2, K3, K4, K5, K6, K7, K8, K9, L0, L1, L2, L3, L4, L5, L6, L7, L8, L9, M0, M1, M2, M3, M4, M5, M6, M7, M8, M9, N0, N1, N2, N3, N4, N5, N6, N7, N8, N9, O0, O1, O2, O3, O4, O5, O6, O7, O8, O9, P0, P1, P2, P3, P4, P5, P6, P7, P8, P9, R0, R1, R2, R3, R4, R5, R6, R7, R8, R9, S0, S1, S2, S3, S4, S5, S6, S7, S8, S9, T0, T1, T2, T3, T4, T5, T6, T7, T8, T9, U0, U1, U2, U3, U4, U5, U6, U7, U8, U9, V0, V1, V2, V3, V4, V5, V6, V7, V8, V9, W0, W1, W2, W3, W4, W5, W6, W7, W8, W9, X0, X1, X2, X3, X4, X5, X6, X7, X8, X9, Y0, Y1, Y2, Y3, Y4, Y5, Y6, Y7, Y8, Y9, Z0, Z1, Z2, Z3, Z4, Z5, Z6, Z7, Z8, Z9, x0, x1, x2, x3, x4, x5, x6, x7, x8, x9, z0, z1, z2, z3, z4, z5, z6, z7], []⟩ w0 := by
  conv => arg 2; whnf
  have hz := bs_size n
  have HY : Hid (Y = some s) := Lib.hid (by rw [← hY, hi, Nat.sub_self, List.take_zero]; rfl)
  have hw : IntKind.i64.wrap ((n.length : Int) - 1) = (n.length : Int) - 1 := IntWalk.i64_in _ (by omega)
  have hnl : ¬ (i : Int) < (n.length : Int) - 1 := by omega
  clear hi hY
  go_wp2_with fail
  unfold HashX
  exact ⟨_, _, _, _, _, _, _, _, _, _, _, _, _, _, _, _, _, _, _, _, _, _, _, _, s, ⟨rfl, hs, HY.out⟩, rfl⟩
set_option maxHeartbeats 4000000 in
set_option maxRecDepth 1000000 in
theorem hash_bad (i s : Nat) (B2 B3 E5 E6 E7 E8 E9 F0 F1 F2 F3 F4 F5 F6 F7 F8 F9 G0 G1 G2 G3 G4 G5 : Value) (Q0 : Exit → Act → World → Prop) (hlt : i < n.length - 1) (hn : n.length ≤ 4611686018427387904) (hs : s < 65536) (hY : Dm.seen s ((n.drop i).take (n.length - 1 - i)) = Y) (hb : Dm.hexd (n[i]'(by omega)) = none) (hret : ∀ a' w'', HashB w0 n Y A1 A2 A3 A4 A5 A6 A7 A8 B4 B5 B6 B7 B8 B9 C0 C1 C2 C3 C4 C5 C6 C7 C8 C9 D0 D1 D2 D3 D4 D5 D6 D7 D8 D9 E0 E1 E2 E3 E4 G6 G7 G8 G9 H0 H1 H2 H3 H4 H5 H6 H7 H8 H9 I0 I1 I2 I3 I4 I5 I6 I7 I8 I9 J0 J1 J2 J3 J4 J5 J6 J7 J8 J9 K0 K1 K2 K3 K4 K5 K6 K7 K8 K9 L0 L1 L2 L3 L4 L5 L6 L7 L8 L9 M0 M1 M2 M3 M4 M5 M6 M7 M8 M9 N0 N1 N2 N3 N4 N5 N6 N7 N8 N9 O0 O1 O2 O3 O4 O5 O6 O7 O8 O9 P0 P1 P2 P3 P4 P5 P6 P7 P8 P9 R0 R1 R2 R3 R4 R5 R6 R7 R8 R9 S0 S1 S2 S3 S4 S5 S6 S7 S8 S9 T0 T1 T2 T3 T4 T5 T6 T7 T8 T9 U0 U1 U2 U3 U4 U5 U6 U7 U8 U9 V0 V1 V2 V3 V4 V5 V6 V7 V8 V9 W0 W1 W2 W3 W4 W5 W6 W7 W8 W9 X0 X1 X2 X3 X4 X5 X6 X7 X8 X9 Y0 Y1 Y2 Y3 Y4 Y5 Y6 Y7 Y8 Y9 Z0 Z1 Z2 Z3 Z4 Z5 Z6 Z7 Z8 Z9 x0 x1 x2 x3 x4 x5 x6 x7 x8 x9 z0 z1 z2 z3 z4 z5 z6 z7 a' w'' → Q0 .ret a' w'') (NX : Act → World → Prop) :
    Code.wp Tryd.prog hashBody (Exit.then NX Q0) ⟨#[.string (bs n), A1, A2, A3, A4, A5, A6, A7, A8, HF, .int .u16 (s : Nat), .int .i64 (i : Nat), B2, B3, B4, B5, B6, B7, B8, B9, C0, C1, C2, C3, C4, C5, C6, C7, C8, C9, D0, D1, D2, D3, D4, D5, D6, D7, D8, D9, E0, E1, E2, E3, E4, E5, E6, E7, E8, E9, F0, F1, F2, F3, F4, F5, F6, F7, F8, F9, G0, G1, G2, G3, G4, G5, G6, G7, G8, G9, H0, H1, H2, H3, H4, H5, H6, H7, H8, H9, I0, I1, I2, I3, I4, I5, I6, I7, I8, I9, J0, J1, J2, J3, J4, J5, J6, J7, J8, J9, K0, K1, K2, K3, K4, K5, K6, K7, K8, K9, L0, L1, L2, L3, L4, L5, L6, L7, L8, L9, M0, M1, M2, M3, M4, M5, M6, M7, M8, M9, N0, N1, N2, N3, N4, N5, N6, N7, N8, N9, O0, O1, O2, O3, O4, O5, O6, O7, O8, O9, P0, P1, P2, P3, P4, P5, P6, P7, P8, P9, R0, R1, R2, R3, R4, R5, R6, R7, R8, R9, S0, S1, S2, S3, S4, S5, S6, S7, S8, S9, T0, T1, T2, T3, T4, T5, T6, T7, T8, T9, U0, U1, U2, U3, U4, U5, U6, U7, U8, U9, V0, V1, V2, V3, V4, V5, V6, V7, V8, V9, W0, W1, W2, W3, W4, W5, W6, W7, W8, W9, X0, X1, X2, X3, X4, X5, X6, X7, X8, X9, Y0, Y1, Y2, Y3, Y4, Y5, Y6, Y7, Y8, Y9, Z0, Z1, Z2, Z3, Z4, Z5, Z6, Z7, Z8, Z9, x0, x1, x2, x3, x4, x5, x6, x7, x8, x9, z0, z1, z2, z3, z4, z5, z6, z7], []⟩ w0 := by
  conv => arg 2; whnf
  have hz := bs_size n
  have hw : IntKind.i64.wrap ((n.length : Int) - 1) = (n.length : Int) - 1 := IntWalk.i64_in _ (by omega)
  have hw2 : IntKind.i64.wrap ((i : Int) + 1) = (i : Int) + 1 := IntWalk.i64_in _ (by omega)
  have hnl : (i : Int) < (n.length : Int) - 1 := by omega
  have hil : i < n.length := by omega
  have li : (i : Int) < (n.length : Int) := by omega
  have lz : (i : Int) < ((bs n).size : Int) := by omega
  have ix : (bs n)[i]'(by omega) = n[i] := rfl
  rw [drop_head hlt] at hY
  generalize n[i] = c at *
  have HY : Hid (Y = none) := Lib.hid (by rw [← hY]; simp only [Dm.seen, hb])
  have rx : hexRes c = .tuple #[.int .u8 0, .bool false] := by unfold hexRes; rw [hb]
  clear hY hb
  go_wp2_with (go_at_call 89; refine (hexDigit_calls _ _).mono ?_; rintro e wx ⟨rfl, rfl⟩)
  unfold HashB
  exact ⟨_, _, _, _, _, _, _, _, _, _, _, _, _, _, _, _, _, _, _, _, _, _, _, _, _, ⟨rfl, HY.out⟩, rfl⟩
set_option maxHeartbeats 4000000 in
set_option maxRecDepth 1000000 in
theorem hash_step (i s : Nat) (d : Int) (B2 B3 E5 E6 E7 E8 E9 F0 F1 F2 F3 F4 F5 F6 F7 F8 F9 G0 G1 G2 G3 G4 G5 : Value) (Q0 : Exit → Act → World → Prop) (hlt : i < n.length - 1) (hn : n.length ≤ 4611686018427387904) (hs : s < 65536) (hY : Dm.seen s ((n.drop i).take (n.length - 1 - i)) = Y) (hb : Dm.hexd (n[i]'(by omega)) = some d) (NX : Act → World → Prop)
    (hNX : NX = fun a' w'' => HashI w0 n Y A1 A2 A3 A4 A5 A6 A7 A8 B4 B5 B6 B7 B8 B9 C0 C1 C2 C3 C4 C5 C6 C7 C8 C9 D0 D1 D2 D3 D4 D5 D6 D7 D8 D9 E0 E1 E2 E3 E4 G6 G7 G8 G9 H0 H1 H2 H3 H4 H5 H6 H7 H8 H9 I0 I1 I2 I3 I4 I5 I6 I7 I8 I9 J0 J1 J2 J3 J4 J5 J6 J7 J8 J9 K0 K1 K2 K3 K4 K5 K6 K7 K8 K9 L0 L1 L2 L3 L4 L5 L6 L7 L8 L9 M0 M1 M2 M3 M4 M5 M6 M7 M8 M9 N0 N1 N2 N3 N4 N5 N6 N7 N8 N9 O0 O1 O2 O3 O4 O5 O6 O7 O8 O9 P0 P1 P2 P3 P4 P5 P6 P7 P8 P9 R0 R1 R2 R3 R4 R5 R6 R7 R8 R9 S0 S1 S2 S3 S4 S5 S6 S7 S8 S9 T0 T1 T2 T3 T4 T5 T6 T7 T8 T9 U0 U1 U2 U3 U4 U5 U6 U7 U8 U9 V0 V1 V2 V3 V4 V5 V6 V7 V8 V9 W0 W1 W2 W3 W4 W5 W6 W7 W8 W9 X0 X1 X2 X3 X4 X5 X6 X7 X8 X9 Y0 Y1 Y2 Y3 Y4 Y5 Y6 Y7 Y8 Y9 Z0 Z1 Z2 Z3 Z4 Z5 Z6 Z7 Z8 Z9 x0 x1 x2 x3 x4 x5 x6 x7 x8 x9 z0 z1 z2 z3 z4 z5 z6 z7 a' w'' ∧ hashMu n.length a' < hashMu n.length ⟨#[.string (bs n), A1, A2, A3, A4, A5, A6, A7, A8, HF, .int .u16 (s : Nat), .int .i64 (i : Nat), B2, B3, B4, B5, B6, B7, B8, B9, C0, C1, C2, C3, C4, C5, C6, C7, C8, C9, D0, D1, D2, D3, D4, D5, D6, D7, D8, D9, E0, E1, E2, E3, E4, E5, E6, E7, E8, E9, F0, F1, F2, F3, F4, F5, F6, F7, F8, F9, G0, G1, G2, G3, G4, G5, G6, G7, G8, G9, H0, H1, H2, H3, H4, H5, H6, H7, H8, H9, I0, I1, I2, I3, I4, I5, I6, I7, I8, I9, J0, J1, J2, J3, J4, J5, J6, J7, J8, J9, K0, K1, K2, K3, K4, K5, K6, K7, K8, K9, L0, L1, L2, L3, L4, L5, L6, L7, L8, L9, M0, M1, M2, M3, M4, M5, M6, M7, M8, M9, N0, N1, N2, N3, N4, N5, N6, N7, N8, N9, O0, O1, O2, O3, O4, O5, O6, O7, O8, O9, P0, P1, P2, P3, P4, P5, P6, P7, P8, P9, R0, R1, R2, R3, R4, R5, R6, R7, R8, R9, S0, S1, S2, S3, S4, S5, S6, S7, S8, S9, T0, T1, T2, T3, T4, T5, T6, T7, T8, T9, U0, U1, U2, U3, U4, U5, U6, U7, U8, U9, V0, V1, V2, V3, V4, V5, V6, V7, V8, V9, W0, W1, W2, W3, W4, W5, W6, W7, W8, W9, X0, X1, X2, X3, X4, X5, X6, X7, X8, X9, Y0, Y1, Y2, Y3, Y4, Y5, Y6, Y7, Y8, Y9, Z0, Z1, Z2, Z3, Z4, Z5, Z6, Z7, Z8, Z9, x0, x1, x2, x3, x4, x5, x6, x7, x8, x9, z0, z1, z2, z3, z4, z5, z6, z7], []⟩) :
    Code.wp Tryd.prog hashBody (Exit.then NX Q0) ⟨#[.string (bs n), A1, A2, A3, A4, A5, A6, A7, A8, HF, .int .u16 (s : Nat), .int .i64 (i : Nat), B2, B3, B4, B5, B6, B7, B8, B9, C0, C1, C2, C3, C4, C5, C6, C7, C8, C9, D0, D1, D2, D3, D4, D5, D6, D7, D8, D9, E0, E1, E2, E3, E4, E5, E6, E7, E8, E9, F0, F1, F2, F3, F4, F5, F6, F7, F8, F9, G0, G1, G2, G3, G4, G5, G6, G7, G8, G9, H0, H1, H2, H3, H4, H5, H6, H7, H8, H9, I0, I1, I2, I3, I4, I5, I6, I7, I8, I9, J0, J1, J2, J3, J4, J5, J6, J7, J8, J9, K0, K1, K2, K3, K4, K5, K6, K7, K8, K9, L0, L1, L2, L3, L4, L5, L6, L7, L8, L9, M0, M1, M2, M3, M4, M5, M6, M7, M8, M9, N0, N1, N2, N3, N4, N5, N6, N7, N8, N9, O0, O1, O2, O3, O4, O5, O6, O7, O8, O9, P0, P1, P2, P3, P4, P5, P6, P7, P8, P9, R0, R1, R2, R3, R4, R5, R6, R7, R8, R9, S0, S1, S2, S3, S4, S5, S6, S7, S8, S9, T0, T1, T2, T3, T4, T5, T6, T7, T8, T9, U0, U1, U2, U3, U4, U5, U6, U7, U8, U9, V0, V1, V2, V3, V4, V5, V6, V7, V8, V9, W0, W1, W2, W3, W4, W5, W6, W7, W8, W9, X0, X1, X2, X3, X4, X5, X6, X7, X8, X9, Y0, Y1, Y2, Y3, Y4, Y5, Y6, Y7, Y8, Y9, Z0, Z1, Z2, Z3, Z4, Z5, Z6, Z7, Z8, Z9, x0, x1, x2, x3, x4, x5, x6, x7, x8, x9, z0, z1, z2, z3, z4, z5, z6, z7], []⟩ w0 := by
  subst hNX
  conv => arg 2; whnf
  have hz := bs_size n
  have hw : IntKind.i64.wrap ((n.length : Int) - 1) = (n.length : Int) - 1 := IntWalk.i64_in _ (by omega)
  have hw2 : IntKind.i64.wrap ((i : Int) + 1) = (i : Int) + 1 := IntWalk.i64_in _ (by omega)
  have hnl : (i : Int) < (n.length : Int) - 1 := by omega
  have hil : i < n.length := by omega
  have li : (i : Int) < (n.length : Int) := by omega
  have lz : (i : Int) < ((bs n).size : Int) := by omega
  have ix : (bs n)[i]'(by omega) = n[i] := rfl
  rw [drop_head hlt] at hY
  generalize n[i] = c at *
  have hd := Dm.hexd_range hb
  obtain ⟨d, rfl⟩ : ∃ k : Nat, d = (k : Int) := ⟨d.toNat, by omega⟩
  have hd16 : d < 16 := by omega
  have hdn : ¬ (d : Int) < 0 := by omega
  have HY : Hid (Dm.seen (s ||| 2 ^ d) ((n.drop (i + 1)).take (n.length - 1 - (i + 1))) = Y) := Lib.hid (by rw [← hY]; simp only [Dm.seen, hb, Int.toNat_natCast])
  have HS : Hid (s ||| 2 ^ d < 65536) := Lib.hid (Nat.or_lt_two_pow (n := 16) hs (Nat.pow_lt_pow_right (by decide) hd16))
  have rx : hexRes c = .tuple #[.int .u8 d, .bool true] := by unfold hexRes; rw [hb]
  have hsh : IntKind.u16.wrap (2 ^ d) = 2 ^ d := u16_or_fin ⟨d, hd16⟩
  have hor := u16_bit s d hs hd16
  clear hY hb hd
  go_wp2_with (go_at_call 89; refine (hexDigit_calls _ _).mono ?_; rintro e wx ⟨rfl, rfl⟩)
  refine ⟨?_, ?_⟩
  · unfold HashI
    exact ⟨_, _, _, _, _, _, _, _, _, _, _, _, _, _, _, _, _, _, _, _, _, _, _, i + 1, s ||| 2 ^ d, ⟨rfl, by omega, HS.out, HY.out⟩, rfl⟩
  · show n.length - ((i : Int) + 1).toNat < n.length - ((i : Nat) : Int).toNat
    omega
set_option maxHeartbeats 4000000 in
set_option maxRecDepth 1000000 in
theorem hash_loop (i : Nat) (B2 B3 E5 E6 E7 E8 E9 F0 F1 F2 F3 F4 F5 F6 F7 F8 F9 G0 G1 G2 G3 G4 G5 : Value) (Q0 : Exit → Act → World → Prop) (h17 : 17 ≤ n.length) (hi : i = n.length - 17) (hn : n.length ≤ 4611686018427387904) (hY : Dm.seen 0 ((n.drop i).take 16) = Y) (hexit : ∀ a' w'', HashX w0 n Y A1 A2 A3 A4 A5 A6 A7 A8 B4 B5 B6 B7 B8 B9 C0 C1 C2 C3 C4 C5 C6 C7 C8 C9 D0 D1 D2 D3 D4 D5 D6 D7 D8 D9 E0 E1 E2 E3 E4 G6 G7 G8 G9 H0 H1 H2 H3 H4 H5 H6 H7 H8 H9 I0 I1 I2 I3 I4 I5 I6 I7 I8 I9 J0 J1 J2 J3 J4 J5 J6 J7 J8 J9 K0 K1 K2 K3 K4 K5 K6 K7 K8 K9 L0 L1 L2 L3 L4 L5 L6 L7 L8 L9 M0 M1 M2 M3 M4 M5 M6 M7 M8 M9 N0 N1 N2 N3 N4 N5 N6 N7 N8 N9 O0 O1 O2 O3 O4 O5 O6 O7 O8 O9 P0 P1 P2 P3 P4 P5 P6 P7 P8 P9 R0 R1 R2 R3 R4 R5 R6 R7 R8 R9 S0 S1 S2 S3 S4 S5 S6 S7 S8 S9 T0 T1 T2 T3 T4 T5 T6 T7 T8 T9 U0 U1 U2 U3 U4 U5 U6 U7 U8 U9 V0 V1 V2 V3 V4 V5 V6 V7 V8 V9 W0 W1 W2 W3 W4 W5 W6 W7 W8 W9 X0 X1 X2 X3 X4 X5 X6 X7 X8 X9 Y0 Y1 Y2 Y3 Y4 Y5 Y6 Y7 Y8 Y9 Z0 Z1 Z2 Z3 Z4 Z5 Z6 Z7 Z8 Z9 x0 x1 x2 x3 x4 x5 x6 x7 x8 x9 z0 z1 z2 z3 z4 z5 z6 z7 a' w'' → Q0 (.exit 2) a' w'') (hret : ∀ a' w'', HashB w0 n Y A1 A2 A3 A4 A5 A6 A7 A8 B4 B5 B6 B7 B8 B9 C0 C1 C2 C3 C4 C5 C6 C7 C8 C9 D0 D1 D2 D3 D4 D5 D6 D7 D8 D9 E0 E1 E2 E3 E4 G6 G7 G8 G9 H0 H1 H2 H3 H4 H5 H6 H7 H8 H9 I0 I1 I2 I3 I4 I5 I6 I7 I8 I9 J0 J1 J2 J3 J4 J5 J6 J7 J8 J9 K0 K1 K2 K3 K4 K5 K6 K7 K8 K9 L0 L1 L2 L3 L4 L5 L6 L7 L8 L9 M0 M1 M2 M3 M4 M5 M6 M7 M8 M9 N0 N1 N2 N3 N4 N5 N6 N7 N8 N9 O0 O1 O2 O3 O4 O5 O6 O7 O8 O9 P0 P1 P2 P3 P4 P5 P6 P7 P8 P9 R0 R1 R2 R3 R4 R5 R6 R7 R8 R9 S0 S1 S2 S3 S4 S5 S6 S7 S8 S9 T0 T1 T2 T3 T4 T5 T6 T7 T8 T9 U0 U1 U2 U3 U4 U5 U6 U7 U8 U9 V0 V1 V2 V3 V4 V5 V6 V7 V8 V9 W0 W1 W2 W3 W4 W5 W6 W7 W8 W9 X0 X1 X2 X3 X4 X5 X6 X7 X8 X9 Y0 Y1 Y2 Y3 Y4 Y5 Y6 Y7 Y8 Y9 Z0 Z1 Z2 Z3 Z4 Z5 Z6 Z7 Z8 Z9 x0 x1 x2 x3 x4 x5 x6 x7 x8 x9 z0 z1 z2 z3 z4 z5 z6 z7 a' w'' → Q0 .ret a' w'') :
    Code.wp Tryd.prog (Code.loop hashBody) Q0 ⟨#[.string (bs n), A1, A2, A3, A4, A5, A6, A7, A8, HF, .int .u16 (0 : Nat), .int .i64 (i : Nat), B2, B3, B4, B5, B6, B7, B8, B9, C0, C1, C2, C3, C4, C5, C6, C7, C8, C9, D0, D1, D2, D3, D4, D5, D6, D7, D8, D9, E0, E1, E2, E3, E4, E5, E6, E7, E8, E9, F0, F1, F2, F3, F4, F5, F6, F7, F8, F9, G0, G1, G2, G3, G4, G5, G6, G7, G8, G9, H0, H1, H2, H3, H4, H5, H6, H7, H8, H9, I0, I1, I2, I3, I4, I5, I6, I7, I8, I9, J0, J1, J2, J3, J4, J5, J6, J7, J8, J9, K0, K1, K2, K3, K4, K5, K6, K7, K8, K9, L0, L1, L2, L3, L4, L5, L6, L7, L8, L9, M0, M1, M2, M3, M4, M5, M6, M7, M8, M9, N0, N1, N2, N3, N4, N5, N6, N7, N8, N9, O0, O1, O2, O3, O4, O5, O6, O7, O8, O9, P0, P1, P2, P3, P4, P5, P6, P7, P8, P9, R0, R1, R2, R3, R4, R5, R6, R7, R8, R9, S0, S1, S2, S3, S4, S5, S6, S7, S8, S9, T0, T1, T2, T3, T4, T5, T6, T7, T8, T9, U0, U1, U2, U3, U4, U5, U6, U7, U8, U9, V0, V1, V2, V3, V4, V5, V6, V7, V8, V9, W0, W1, W2, W3, W4, W5, W6, W7, W8, W9, X0, X1, X2, X3, X4, X5, X6, X7, X8, X9, Y0, Y1, Y2, Y3, Y4, Y5, Y6, Y7, Y8, Y9, Z0, Z1, Z2, Z3, Z4, Z5, Z6, Z7, Z8, Z9, x0, x1, x2, x3, x4, x5, x6, x7, x8, x9, z0, z1, z2, z3, z4, z5, z6, z7], []⟩ w0 := by
  refine wp_loop (fun a w => HashI w0 n Y A1 A2 A3 A4 A5 A6 A7 A8 B4 B5 B6 B7 B8 B9 C0 C1 C2 C3 C4 C5 C6 C7 C8 C9 D0 D1 D2 D3 D4 D5 D6 D7 D8 D9 E0 E1 E2 E3 E4 G6 G7 G8 G9 H0 H1 H2 H3 H4 H5 H6 H7 H8 H9 I0 I1 I2 I3 I4 I5 I6 I7 I8 I9 J0 J1 J2 J3 J4 J5 J6 J7 J8 J9 K0 K1 K2 K3 K4 K5 K6 K7 K8 K9 L0 L1 L2 L3 L4 L5 L6 L7 L8 L9 M0 M1 M2 M3 M4 M5 M6 M7 M8 M9 N0 N1 N2 N3 N4 N5 N6 N7 N8 N9 O0 O1 O2 O3 O4 O5 O6 O7 O8 O9 P0 P1 P2 P3 P4 P5 P6 P7 P8 P9 R0 R1 R2 R3 R4 R5 R6 R7 R8 R9 S0 S1 S2 S3 S4 S5 S6 S7 S8 S9 T0 T1 T2 T3 T4 T5 T6 T7 T8 T9 U0 U1 U2 U3 U4 U5 U6 U7 U8 U9 V0 V1 V2 V3 V4 V5 V6 V7 V8 V9 W0 W1 W2 W3 W4 W5 W6 W7 W8 W9 X0 X1 X2 X3 X4 X5 X6 X7 X8 X9 Y0 Y1 Y2 Y3 Y4 Y5 Y6 Y7 Y8 Y9 Z0 Z1 Z2 Z3 Z4 Z5 Z6 Z7 Z8 Z9 x0 x1 x2 x3 x4 x5 x6 x7 x8 x9 z0 z1 z2 z3 z4 z5 z6 z7 a w) (fun a _ => hashMu n.length a) ?_ ?_
  · unfold HashI
    exact ⟨_, _, _, _, _, _, _, _, _, _, _, _, _, _, _, _, _, _, _, _, _, _, _, i, 0, ⟨rfl, by omega, by decide, by rw [show n.length - 1 - i = 16 by omega]; exact hY⟩, rfl⟩
  · intro a w hI
    unfold HashI at hI
    obtain ⟨B2, hI⟩ := hI
    obtain ⟨B3, hI⟩ := hI
    obtain ⟨E5, hI⟩ := hI
    obtain ⟨E6, hI⟩ := hI
    obtain ⟨E7, hI⟩ := hI
    obtain ⟨E8, hI⟩ := hI
    obtain ⟨E9, hI⟩ := hI
    obtain ⟨F0, hI⟩ := hI
    obtain ⟨F1, hI⟩ := hI
    obtain ⟨F2, hI⟩ := hI
    obtain ⟨F3, hI⟩ := hI
    obtain ⟨F4, hI⟩ := hI
    obtain ⟨F5, hI⟩ := hI
    obtain ⟨F6, hI⟩ := hI
    obtain ⟨F7, hI⟩ := hI
    obtain ⟨F8, hI⟩ := hI
    obtain ⟨F9, hI⟩ := hI
    obtain ⟨G0, hI⟩ := hI
    obtain ⟨G1, hI⟩ := hI
    obtain ⟨G2, hI⟩ := hI
    obtain ⟨G3, hI⟩ := hI
    obtain ⟨G4, hI⟩ := hI
    obtain ⟨G5, hI⟩ := hI
    obtain ⟨i, s, ⟨rfl, hi, hs, hY⟩, rfl⟩ := hI
    by_cases hlt : i < n.length - 1
    · cases hb : Dm.hexd (n[i]'(by omega)) with
      | none => exact hash_bad i s B2 B3 E5 E6 E7 E8 E9 F0 F1 F2 F3 F4 F5 F6 F7 F8 F9 G0 G1 G2 G3 G4 G5 Q0 hlt hn hs hY hb hret _
      | some d => exact hash_step i s d B2 B3 E5 E6 E7 E8 E9 F0 F1 F2 F3 F4 F5 F6 F7 F8 F9 G0 G1 G2 G3 G4 G5 Q0 hlt hn hs hY hb _ rfl
    · exact hash_end i s B2 B3 E5 E6 E7 E8 E9 F0 F1 F2 F3 F4 F5 F6 F7 F8 F9 G0 G1 G2 G3 G4 G5 Q0 (by omega) (by omega) hn hs hY hexit _
end
end Go.Proofs.YtpmlnhddkbgefaaDoor
namespace Go.Proofs.YtpmlnhddkbgefaaDoor
set_option linter.unusedVariables false
set_option linter.unusedSimpArgs false
open Go.RowKit Go.Proofs.YtpmlnhddkbgefaaDoorW.PrintWords Go.Proofs.YtpmlnhddkbgefaaDoorW.PrintLast Go.Proofs.YtpmlnhddkbgefaaDoorW.PrintMore

/-- What oldRustToString leaves. -/
def OldPost (X : Dm.LR) (w : World) (e : Ending) (w' : World) : Prop :=
  match X with
  | .told t => e = .returned (.tuple #[.string (bs t), .bool true]) ∧ Below w.heap.size w w'
  | .bad => e = .returned (.tuple #[.string ⟨#[]⟩, .bool false]) ∧ Below w.heap.size w w'
  | .unsaid => True
theorem old_bad_post {X : Dm.LR} (h : X = .bad) {w w' : World} (hb : Below w.heap.size w w') : OldPost X w (.returned (.tuple #[.string ⟨#[]⟩, .bool false])) w' := by subst h; exact ⟨rfl, hb⟩
theorem old_told_post {X : Dm.LR} {t : List UInt8} (h : X = .told t) {w w' : World} (hb : Below w.heap.size w w') : OldPost X w (.returned (.tuple #[.string (bs t), .bool true])) w' := by subst h; exact ⟨rfl, hb⟩
/-- What is left of a name behind its hash. -/
def oldMain (mx : Int) (n : List UInt8) : Dm.LR := Dm.lgMain n.length mx [] (n.take (n.length - 20))
theorem old_eq (mx : Int) (n : List UInt8) (s : Nat) (hs : Dm.seen 0 ((n.drop (n.length - 17)).take 16) = some s) (h5 : ¬ Dm.ones16 s < 5) :
    Dm.old mx n = match oldMain mx n with
      | .told t => .told (Dm.cutMx mx t)
      | .bad => .bad
      | .unsaid => .unsaid := by
  unfold Dm.old oldMain
  rw [hs]; simp only; rw [if_neg h5]
  generalize Dm.lgMain n.length mx [] (n.take (n.length - 20)) = y
  cases y <;> rfl
theorem old_none (mx : Int) (n : List UInt8) (hs : Dm.seen 0 ((n.drop (n.length - 17)).take 16) = none) : Dm.old mx n = .bad := by
  unfold Dm.old; rw [hs]
theorem old_few (mx : Int) (n : List UInt8) (s : Nat) (hs : Dm.seen 0 ((n.drop (n.length - 17)).take 16) = some s) (h5 : Dm.ones16 s < 5) : Dm.old mx n = .bad := by
  unfold Dm.old; rw [hs]; simp only; rw [if_pos h5]
set_option maxHeartbeats 8000000 in
set_option maxRecDepth 1000000 in
theorem oldTo_calls (l : List UInt8) (L : List Int) (A : Option Addr) (c : Nat) (w : World) (h23 : 23 ≤ l.length) (hl : l.length ≤ 35184372088832) (hC : (Kd.int .i64).C w A L.length L)
    (hO : ∀ x ∈ L, isMx x = true → 0 ≤ bits .and .i64 x 2031616 / 65536 ∧ bits .and .i64 x 2031616 / 65536 ≤ 64) (X : Dm.LR) (hX : X = Dm.old (mxFold L) (l.drop 3)) (hU : X ≠ .unsaid) :
    Calls Tryd.prog 63 #[.string (bs l), .slice A L.length c] w fun e w' => OldPost X w e w' := by
  have hz := bs_size l
  have hx3 : (bs l).extract 3 l.length = bs (l.drop 3) := bs_extract l 3
  have h3 : 3 ≤ l.length := by omega
  have h3i : (3 : Int) ≤ (l.length : Int) := by omega
  have hln : (l.drop 3).length = l.length - 3 := by rw [List.length_drop]
  have HC := Lib.hid hC
  have HO := Lib.hid hO
  generalize l.drop 3 = n at *
  have hn20 : 20 ≤ n.length := by omega
  have hnl : n.length ≤ 35184372088832 := by omega
  clear h23 hl hln hC hO
  have HX := Lib.hid hX
  have HU := Lib.hid hU
  have hzn := bs_size n
  obtain ⟨i17, hi17⟩ : ∃ i, i = n.length - 17 := ⟨_, rfl⟩
  obtain ⟨i20, hi20⟩ : ∃ i, i = n.length - 20 := ⟨_, rfl⟩
  have hw17 : IntKind.i64.wrap ((n.length : Int) - 17) = (i17 : Int) := by rw [IntWalk.i64_in _ (by omega)]; omega
  have hw20 : IntKind.i64.wrap ((n.length : Int) - 20) = (i20 : Int) := by rw [IntWalk.i64_in _ (by omega)]; omega
  have hx20 : (bs n).extract 0 i20 = bs (n.take i20) := bs_take n i20
  have h20 : i20 ≤ n.length := by omega
  have h20i : (i20 : Int) ≤ (n.length : Int) := by omega
  have H17 : Hid (i17 = n.length - 17 ∧ 17 ≤ n.length ∧ n.length ≤ 4611686018427387904) := Lib.hid ⟨hi17, by omega, by omega⟩
  have HN : Hid (n.length ≤ 35184372088832 ∧ i20 = n.length - 20) := Lib.hid ⟨hnl, hi20⟩
  have HLB := Lib.hid (Lib.fresh_isBuilder 115 5)
  clear hX hU hi17 hi20 hn20 hnl
  go_enter Tryd.func63, Tryd.ntmps63
  go_wp2_with fail
  refine opt_loop _ _ _ _ _ _ _ _ _ _ HC.out HO.out ?_
  intro a' w'' hI
  unfold OptX at hI
  iterate 9 (obtain ⟨_, hI⟩ := hI)
  obtain ⟨v31, rfl, rfl⟩ := hI
  have HW := Lib.hid (show IntKind.i64.wrap 0 = 0 from rfl)
  go_wp2_with fail
  refine hash_loop i17 _ _ _ _ _ _ _ _ _ _ _ _ _ _ _ _ _ _ _ _ _ _ _ _ H17.out.2.1 H17.out.1 H17.out.2.2 rfl ?_ ?_
  · intro a' w'' hI
    unfold HashX at hI
    obtain ⟨v12, hI⟩ := hI
    obtain ⟨v13, hI⟩ := hI
    obtain ⟨v45, hI⟩ := hI
    obtain ⟨v46, hI⟩ := hI
    obtain ⟨v47, hI⟩ := hI
    obtain ⟨v48, hI⟩ := hI
    obtain ⟨v49, hI⟩ := hI
    obtain ⟨v50, hI⟩ := hI
    obtain ⟨v51, hI⟩ := hI
    obtain ⟨v52, hI⟩ := hI
    obtain ⟨v53, hI⟩ := hI
    obtain ⟨v54, hI⟩ := hI
    obtain ⟨v55, hI⟩ := hI
    obtain ⟨v56, hI⟩ := hI
    obtain ⟨v57, hI⟩ := hI
    obtain ⟨v58, hI⟩ := hI
    obtain ⟨v59, hI⟩ := hI
    obtain ⟨v60, hI⟩ := hI
    obtain ⟨v61, hI⟩ := hI
    obtain ⟨v62, hI⟩ := hI
    obtain ⟨v63, hI⟩ := hI
    obtain ⟨v64, hI⟩ := hI
    obtain ⟨v65, hI⟩ := hI
    obtain ⟨v11, s, ⟨rfl, hs, hY⟩, rfl⟩ := hI
    have HON := Lib.hid (fun w => ones_calls s hs w)
    have HY : Hid (Dm.seen 0 ((n.drop (n.length - 17)).take 16) = some s) := Lib.hid (by rw [← H17.out.1]; exact hY)
    clear hY hs
    by_cases h5 : Dm.ones16 s < 5
    · have h5i : ((Dm.ones16 s : Nat) : Int) < 5 := by omega
      have HB : Hid (X = .bad) := Lib.hid (by rw [HX.out]; exact old_few _ _ s HY.out h5)
      clear h5
      go_wp2_with (go_at_call 90; refine (HON.out _).mono ?_; rintro e wx ⟨rfl, hb⟩)
      go_ret2
      exact old_bad_post HB.out hb
    · have h5i : ¬ ((Dm.ones16 s : Nat) : Int) < 5 := by omega
      have HE := Lib.hid (old_eq (mxFold L) n s HY.out h5)
      clear h5
      go_wp2_with (go_at_call 90; refine (HON.out _).mono ?_; rintro e wx ⟨rfl, hb⟩)
      refine main_loop (b := wx.heap.size) (w0 := wx.alloc (.cells #[.pointer none, .slice none 0 0] 115)) (mx := mxFold L) (X := oldMain (mxFold L) n) (n.take i20) _ _ _ _ _ _ _ _ _ _ _ _ _ _ _ _ _ _ _ _ _ _ _ _ _ _ _ _ _ _ _ _ _ _ _ _ _ _ _ _ _ _ _ _ _ _ _ _ _ _ _ _ _ _ _ _ _ _ _ _ _ _ _ _ _ _ _ _ _ _ _ _ _ _ _ _ _ _ _ _ _ _ _ _ _ _ _ _ _ _ _ _ _ _ _ _ _ _ _ _ _ _ _ _ _ _ _ _ _ _ _ _ _ _ _ _ _ _ _ _ _ _ _ _ _ _ _ _ _ _ _ _ _ _ _ _ _ _ _ _ _ _ _ _ _ _ _ _ _ _ _ _ _ _ _ _ _ _ _ _ _ _ _ _ _ _ _ _ _ _ _ _ _ _ _ _ _ _ _ _ _ _ _ _ _ _ _ _ _ _ _ _ _ _ _ _ ?_ ?_ ?_ ?_
      · exact ⟨HLB.out wx, Below.refl _ _, ⟨n.length, by unfold oldMain; rw [HN.out.2], by rw [List.length_take]; omega⟩, by rw [List.length_take, List.length_nil]; have := HN.out.1; omega⟩
      · intro e
        have := HE.out
        rw [e] at this
        exact HU.out (HX.out.trans this)
      · intro a' w'' hI
        unfold MainX at hI
        obtain ⟨v0, hI⟩ := hI
        obtain ⟨v15, hI⟩ := hI
        obtain ⟨v16, hI⟩ := hI
        obtain ⟨v17, hI⟩ := hI
        obtain ⟨v18, hI⟩ := hI
        obtain ⟨v19, hI⟩ := hI
        obtain ⟨v20, hI⟩ := hI
        obtain ⟨v21, hI⟩ := hI
        obtain ⟨v22, hI⟩ := hI
        obtain ⟨v23, hI⟩ := hI
        obtain ⟨v24, hI⟩ := hI
        obtain ⟨v25, hI⟩ := hI
        obtain ⟨v26, hI⟩ := hI
        obtain ⟨v27, hI⟩ := hI
        obtain ⟨v74, hI⟩ := hI
        obtain ⟨v75, hI⟩ := hI
        obtain ⟨v76, hI⟩ := hI
        obtain ⟨v77, hI⟩ := hI
        obtain ⟨v78, hI⟩ := hI
        obtain ⟨v79, hI⟩ := hI
        obtain ⟨v80, hI⟩ := hI
        obtain ⟨v81, hI⟩ := hI
        obtain ⟨v82, hI⟩ := hI
        obtain ⟨v83, hI⟩ := hI
        obtain ⟨v84, hI⟩ := hI
        obtain ⟨v85, hI⟩ := hI
        obtain ⟨v86, hI⟩ := hI
        obtain ⟨v87, hI⟩ := hI
        obtain ⟨v88, hI⟩ := hI
        obtain ⟨v89, hI⟩ := hI
        obtain ⟨v90, hI⟩ := hI
        obtain ⟨v91, hI⟩ := hI
        obtain ⟨v92, hI⟩ := hI
        obtain ⟨v93, hI⟩ := hI
        obtain ⟨v94, hI⟩ := hI
        obtain ⟨v95, hI⟩ := hI
        obtain ⟨v96, hI⟩ := hI
        obtain ⟨v97, hI⟩ := hI
        obtain ⟨v98, hI⟩ := hI
        obtain ⟨v99, hI⟩ := hI
        obtain ⟨v100, hI⟩ := hI
        obtain ⟨v101, hI⟩ := hI
        obtain ⟨v102, hI⟩ := hI
        obtain ⟨v103, hI⟩ := hI
        obtain ⟨v104, hI⟩ := hI
        obtain ⟨v105, hI⟩ := hI
        obtain ⟨v106, hI⟩ := hI
        obtain ⟨v107, hI⟩ := hI
        obtain ⟨v108, hI⟩ := hI
        obtain ⟨v109, hI⟩ := hI
        obtain ⟨v110, hI⟩ := hI
        obtain ⟨v111, hI⟩ := hI
        obtain ⟨v112, hI⟩ := hI
        obtain ⟨v113, hI⟩ := hI
        obtain ⟨v114, hI⟩ := hI
        obtain ⟨v115, hI⟩ := hI
        obtain ⟨v116, hI⟩ := hI
        obtain ⟨v117, hI⟩ := hI
        obtain ⟨v118, hI⟩ := hI
        obtain ⟨v119, hI⟩ := hI
        obtain ⟨v120, hI⟩ := hI
        obtain ⟨v121, hI⟩ := hI
        obtain ⟨v122, hI⟩ := hI
        obtain ⟨v123, hI⟩ := hI
        obtain ⟨v124, hI⟩ := hI
        obtain ⟨v125, hI⟩ := hI
        obtain ⟨v126, hI⟩ := hI
        obtain ⟨v127, hI⟩ := hI
        obtain ⟨v128, hI⟩ := hI
        obtain ⟨v129, hI⟩ := hI
        obtain ⟨v130, hI⟩ := hI
        obtain ⟨v131, hI⟩ := hI
        obtain ⟨v132, hI⟩ := hI
        obtain ⟨v133, hI⟩ := hI
        obtain ⟨v134, hI⟩ := hI
        obtain ⟨v135, hI⟩ := hI
        obtain ⟨v136, hI⟩ := hI
        obtain ⟨v137, hI⟩ := hI
        obtain ⟨v138, hI⟩ := hI
        obtain ⟨v139, hI⟩ := hI
        obtain ⟨v140, hI⟩ := hI
        obtain ⟨v141, hI⟩ := hI
        obtain ⟨v142, hI⟩ := hI
        obtain ⟨v143, hI⟩ := hI
        obtain ⟨v144, hI⟩ := hI
        obtain ⟨v145, hI⟩ := hI
        obtain ⟨v146, hI⟩ := hI
        obtain ⟨v147, hI⟩ := hI
        obtain ⟨v148, hI⟩ := hI
        obtain ⟨v149, hI⟩ := hI
        obtain ⟨v150, hI⟩ := hI
        obtain ⟨v151, hI⟩ := hI
        obtain ⟨v152, hI⟩ := hI
        obtain ⟨v153, hI⟩ := hI
        obtain ⟨v154, hI⟩ := hI
        obtain ⟨v155, hI⟩ := hI
        obtain ⟨v156, hI⟩ := hI
        obtain ⟨v157, hI⟩ := hI
        obtain ⟨v158, hI⟩ := hI
        obtain ⟨v159, hI⟩ := hI
        obtain ⟨v160, hI⟩ := hI
        obtain ⟨v161, hI⟩ := hI
        obtain ⟨v162, hI⟩ := hI
        obtain ⟨v163, hI⟩ := hI
        obtain ⟨v164, hI⟩ := hI
        obtain ⟨v165, hI⟩ := hI
        obtain ⟨v166, hI⟩ := hI
        obtain ⟨v167, hI⟩ := hI
        obtain ⟨v168, hI⟩ := hI
        obtain ⟨v169, hI⟩ := hI
        obtain ⟨v170, hI⟩ := hI
        obtain ⟨v171, hI⟩ := hI
        obtain ⟨v172, hI⟩ := hI
        obtain ⟨v173, hI⟩ := hI
        obtain ⟨v174, hI⟩ := hI
        obtain ⟨v175, hI⟩ := hI
        obtain ⟨v176, hI⟩ := hI
        obtain ⟨v177, hI⟩ := hI
        obtain ⟨v178, hI⟩ := hI
        obtain ⟨v179, hI⟩ := hI
        obtain ⟨v180, hI⟩ := hI
        obtain ⟨v181, hI⟩ := hI
        obtain ⟨v182, hI⟩ := hI
        obtain ⟨v183, hI⟩ := hI
        obtain ⟨v184, hI⟩ := hI
        obtain ⟨v185, hI⟩ := hI
        obtain ⟨v186, hI⟩ := hI
        obtain ⟨v187, hI⟩ := hI
        obtain ⟨v188, hI⟩ := hI
        obtain ⟨v189, hI⟩ := hI
        obtain ⟨v190, hI⟩ := hI
        obtain ⟨v191, hI⟩ := hI
        obtain ⟨v192, hI⟩ := hI
        obtain ⟨v193, hI⟩ := hI
        obtain ⟨v194, hI⟩ := hI
        obtain ⟨v195, hI⟩ := hI
        obtain ⟨v196, hI⟩ := hI
        obtain ⟨v197, hI⟩ := hI
        obtain ⟨v198, hI⟩ := hI
        obtain ⟨v199, hI⟩ := hI
        obtain ⟨v200, hI⟩ := hI
        obtain ⟨v201, hI⟩ := hI
        obtain ⟨v202, hI⟩ := hI
        obtain ⟨v203, hI⟩ := hI
        obtain ⟨v204, hI⟩ := hI
        obtain ⟨v205, hI⟩ := hI
        obtain ⟨v206, hI⟩ := hI
        obtain ⟨v207, hI⟩ := hI
        obtain ⟨v208, hI⟩ := hI
        obtain ⟨v209, hI⟩ := hI
        obtain ⟨v210, hI⟩ := hI
        obtain ⟨v211, hI⟩ := hI
        obtain ⟨v212, hI⟩ := hI
        obtain ⟨v213, hI⟩ := hI
        obtain ⟨v214, hI⟩ := hI
        obtain ⟨v215, hI⟩ := hI
        obtain ⟨v216, hI⟩ := hI
        obtain ⟨v217, hI⟩ := hI
        obtain ⟨v218, hI⟩ := hI
        obtain ⟨v219, hI⟩ := hI
        obtain ⟨v220, hI⟩ := hI
        obtain ⟨v221, hI⟩ := hI
        obtain ⟨v222, hI⟩ := hI
        obtain ⟨v223, hI⟩ := hI
        obtain ⟨v224, hI⟩ := hI
        obtain ⟨v225, hI⟩ := hI
        obtain ⟨v226, hI⟩ := hI
        obtain ⟨v227, hI⟩ := hI
        obtain ⟨v228, hI⟩ := hI
        obtain ⟨v229, hI⟩ := hI
        obtain ⟨v230, hI⟩ := hI
        obtain ⟨v231, hI⟩ := hI
        obtain ⟨v232, hI⟩ := hI
        obtain ⟨v233, hI⟩ := hI
        obtain ⟨v234, hI⟩ := hI
        obtain ⟨v235, hI⟩ := hI
        obtain ⟨v236, hI⟩ := hI
        obtain ⟨v237, hI⟩ := hI
        obtain ⟨v238, hI⟩ := hI
        obtain ⟨v239, hI⟩ := hI
        obtain ⟨v240, hI⟩ := hI
        obtain ⟨v241, hI⟩ := hI
        obtain ⟨v242, hI⟩ := hI
        obtain ⟨v243, hI⟩ := hI
        obtain ⟨v244, hI⟩ := hI
        obtain ⟨v245, hI⟩ := hI
        obtain ⟨v246, hI⟩ := hI
        obtain ⟨v247, hI⟩ := hI
        obtain ⟨v248, hI⟩ := hI
        obtain ⟨v249, hI⟩ := hI
        obtain ⟨v250, hI⟩ := hI
        obtain ⟨v251, hI⟩ := hI
        obtain ⟨v252, hI⟩ := hI
        obtain ⟨v253, hI⟩ := hI
        obtain ⟨v254, hI⟩ := hI
        obtain ⟨⟨out, hlb, hb2, hXe, hol⟩, rfl⟩ := hI
        have HS := Lib.hid (lbStr_calls _ out w'' hlb)
        have HXX : Hid (X = .told (Dm.cutMx (mxFold L) out)) := Lib.hid (by have := HE.out; rw [hXe] at this; exact HX.out.trans this)
        have hzo := bs_size out
        have HB2 := Lib.hid ((hb.alloc hb.size (.cells #[.pointer none, .slice none 0 0] 115)).trans (hb2.mono hb.size))
        have HSZ := Lib.hid hb.size
        clear hlb hXe hb hb2
        by_cases h0 : 0 < mxFold L
        · by_cases h1 : mxFold L < (out.length : Int)
          · obtain ⟨m, hm⟩ : ∃ m : Nat, mxFold L = (m : Int) := ⟨(mxFold L).toNat, by omega⟩
            rw [hm] at h0 h1 HXX ⊢
            have hxt : (bs out).extract 0 m = bs (out.take m) := bs_take out m
            have hle : m ≤ out.length := by omega
            have hlei : (m : Int) ≤ (out.length : Int) := by omega
            have HT : Hid (X = .told (out.take m)) := Lib.hid (by rw [HXX.out]; unfold Dm.cutMx; rw [if_pos ⟨h0, h1⟩, Int.toNat_natCast])
            go_wp2_with (go_at_call 67; refine HS.out.mono ?_; rintro e w3 ⟨rfl, hb3⟩)
            go_ret2
            exact old_told_post HT.out (HB2.out.trans (hb3.mono HSZ.out))
          · have HT : Hid (X = .told out) := Lib.hid (by rw [HXX.out]; unfold Dm.cutMx; rw [if_neg (fun h => h1 h.2)])
            go_wp2_with (go_at_call 67; refine HS.out.mono ?_; rintro e w3 ⟨rfl, hb3⟩)
            go_ret2
            exact old_told_post HT.out (HB2.out.trans (hb3.mono HSZ.out))
        · have HT : Hid (X = .told out) := Lib.hid (by rw [HXX.out]; unfold Dm.cutMx; rw [if_neg (fun h => h0 h.1)])
          go_wp2_with (go_at_call 67; refine HS.out.mono ?_; rintro e w3 ⟨rfl, hb3⟩)
          go_ret2
          exact old_told_post HT.out (HB2.out.trans (hb3.mono HSZ.out))
      · intro a' w'' hI
        unfold MainB at hI
        iterate 195 (obtain ⟨_, hI⟩ := hI)
        obtain ⟨⟨hb2, hXe⟩, rfl⟩ := hI
        have HB : Hid (X = .bad) := Lib.hid (by have := HE.out; rw [hXe] at this; exact HX.out.trans this)
        have HB2 := Lib.hid ((hb.alloc hb.size (.cells #[.pointer none, .slice none 0 0] 115)).trans (hb2.mono hb.size))
        clear hXe hb hb2
        go_ret2
        exact old_bad_post HB.out HB2.out
  · intro a' w'' hI
    unfold HashB at hI
    iterate 23 (obtain ⟨_, hI⟩ := hI)
    obtain ⟨v10, v11, ⟨rfl, hY⟩, rfl⟩ := hI
    have HB : Hid (X = .bad) := Lib.hid (by rw [HX.out]; exact old_none _ _ (by rw [← H17.out.1]; exact hY))
    go_ret2
    exact old_bad_post HB.out (Below.refl _ _)
end Go.Proofs.YtpmlnhddkbgefaaDoor
namespace Go.Proofs.YtpmlnhddkbgefaaDoor
set_option linter.unusedVariables false
set_option linter.unusedSimpArgs false
open Go.RowKit Go.Proofs.YtpmlnhddkbgefaaDoorW.PrintWords Go.Proofs.YtpmlnhddkbgefaaDoorW.PrintLast Go.Proofs.YtpmlnhddkbgefaaDoorW.PrintMore

/-- What a reading is told as. -/
def ansOld : Dm.LR → Option (ByteArray × Bool)
  | .told t => some (bs t, true)
  | .bad => some (⟨#[]⟩, false)
  | .unsaid => none
def impl_Old.f (a0 : ByteArray) (o0 o1 o2 o3 o4 o5 o6 : Bool) (o7 : Int) : Option (ByteArray × Bool) :=
  if 23 ≤ a0.size ∧ a0.size ≤ 35184372088832 ∧ 0 ≤ o7 ∧ o7 ≤ 30 then ansOld (Dm.old (mxOf o7) (a0.data.toList.drop 3)) else none

/-- OldRustToString hands it on. -/
theorem ots_calls (l : ByteArray) (v : Value) (w : World) (Post : Ending → World → Prop) (hp : ∀ e w', Post e w' → ∃ s x, e = .returned (.tuple #[s, x]))
    (h : Calls Tryd.prog 63 #[.string l, v] w Post) : Calls Tryd.prog 48 #[.string l, v] w Post := by
  have HP := Lib.hid h
  have HPP := Lib.hid hp
  clear h hp
  go_enter Tryd.func48, Tryd.ntmps48
  go_wp2_with fail
  refine HP.out.mono ?_
  intro e w' hq
  obtain ⟨s, x, rfl⟩ := HPP.out e w' hq
  have HQ := Lib.hid hq
  clear hq
  go_wp2_with fail
  exact HQ.out

set_option maxHeartbeats 1000000 in
set_option maxRecDepth 100000 in
theorem old_calls (l : List UInt8) (o0 o1 o2 o3 o4 o5 o6 : Bool) (o7 : Int) (h : 0 ≤ o7 ∧ o7 ≤ 30) (hl : 23 ≤ l.length ∧ l.length ≤ 35184372088832) (w : World) (t : ByteArray) (n : Bool) (hA : ansOld (Dm.old (mxOf o7) (l.drop 3)) = some (t, n)) :
    Calls Tryd.prog 37 #[.string (bs l), .agg #[.bool o0, .bool o1, .bool o2, .bool o3, .bool o4, .bool o5, .bool o6, .int .i64 o7]] w fun e w' => e = .returned (.tuple #[.string t, .bool n]) ∧ Below w.heap.size w w' := by
  have hu := Tryd.underlying67
  have HL := Lib.hid (list_calls o0 o1 o2 o3 o4 o5 o6 o7 h)
  have HB1 := Lib.hid ((Below.refl _ w).alloc (Nat.le_refl _) (.cells #[.bool o0, .bool o1, .bool o2, .bool o3, .bool o4, .bool o5, .bool o6, .int .i64 o7] 67))
  have HA := Lib.hid hA
  have HH := Lib.hid (And.intro h hl)
  clear hA h hl
  go_enter Tryd.func37, Tryd.ntmps37
  go_wp2_with fail
  refine (HL.out _).mono ?_
  rintro e w2 ⟨A, c, rfl, hC, hb2⟩
  have HB2 := Lib.hid (HB1.out.trans (hb2.mono (by simp)))
  have HC := Lib.hid hC
  clear hC hb2 hu
  go_wp2_with fail
  have hA := HA.out
  have hO : ∀ x ∈ optL o0 o1 o2 o3 o4 o5 o6 o7, isMx x = true → 0 ≤ bits .and .i64 x 2031616 / 65536 ∧ bits .and .i64 x 2031616 / 65536 ≤ 64 := fun x hx hm =>
    optL_ok o0 o1 o2 o3 o4 o5 o6 o7 HH.out.1 x hx (by rintro rfl; rw [show isMx 1 = false from small_fin ⟨1, by decide⟩] at hm; cases hm) hm
  have hc := oldTo_calls l (optL o0 o1 o2 o3 o4 o5 o6 o7) A c w2 HH.out.2.1 HH.out.2.2 HC.out hO (Dm.old (mxOf o7) (l.drop 3)) (by rw [mxFold_L _ _ _ _ _ _ _ _ HH.out.1]) (by intro e; rw [e] at hA; cases hA)
  generalize Dm.old (mxOf o7) (l.drop 3) = X at hA hc
  have HR := Lib.hid (ots_calls (bs l) _ w2 _ (fun e w' hp => by
    cases X with
    | unsaid => cases hA
    | told t => exact ⟨_, _, hp.1⟩
    | bad => exact ⟨_, _, hp.1⟩) hc)
  have HX : Hid (∀ e w', OldPost X w2 e w' → e = .returned (.tuple #[.string t, .bool n]) ∧ Below w2.heap.size w2 w') := Lib.hid (fun e w' hp => by
    cases X with
    | unsaid => cases hA
    | told t => simp only [ansOld, Option.some.injEq, Prod.mk.injEq] at hA; obtain ⟨rfl, rfl⟩ := hA; exact hp
    | bad => simp only [ansOld, Option.some.injEq, Prod.mk.injEq] at hA; obtain ⟨rfl, rfl⟩ := hA; exact hp)
  clear hA hO hc HA HH HC HL HB1
  refine HR.out.mono ?_
  intro e w3 hp
  obtain ⟨rfl, hb3⟩ := HX.out e w3 hp
  have HB3 := Lib.hid (HB2.out.trans (hb3.mono HB2.out.size))
  clear hb3 hp
  go_wp2_with fail
  refine bodyPost_ret (v := .tuple #[.string t, .bool n]) ?_ rfl ⟨rfl, HB3.out⟩
  simp [results, Tryd.results37, go_sem]

theorem impl_Old.calls (a0 : ByteArray) (o0 o1 o2 o3 o4 o5 o6 : Bool) (o7 : Int) (r1 : ByteArray) (r2 : Bool) (w : World) (h : impl_Old.f a0 o0 o1 o2 o3 o4 o5 o6 o7 = some (r1, r2)) :
    Calls Tryd.prog 37 #[.string a0, .agg #[.bool o0, .bool o1, .bool o2, .bool o3, .bool o4, .bool o5, .bool o6, .int .i64 o7]] w fun e w' => e = .returned (.tuple #[.string r1, .bool r2]) ∧ Below w.heap.size w w' := by
  unfold impl_Old.f at h
  by_cases hs : 23 ≤ a0.size ∧ a0.size ≤ 35184372088832 ∧ 0 ≤ o7 ∧ o7 ≤ 30
  · rw [if_pos hs] at h
    have hc := old_calls a0.data.toList o0 o1 o2 o3 o4 o5 o6 o7 hs.2.2 (by rw [Array.length_toList]; exact ⟨hs.1, hs.2.1⟩) w r1 r2 h
    have e : bs a0.data.toList = a0 := by apply ByteArray.ext; show a0.data.toList.toArray = a0.data; simp
    rw [e] at hc
    exact hc
  · rw [if_neg hs] at h; cases h
end Go.Proofs.YtpmlnhddkbgefaaDoor
