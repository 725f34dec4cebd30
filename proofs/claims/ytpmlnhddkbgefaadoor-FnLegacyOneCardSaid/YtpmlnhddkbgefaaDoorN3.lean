/- oldRustToString's loop over the escapes of a name: some of its cases. Printed by tools/gold.py. oldRustToString's loop over the escapes of a name: some of its cases. Printed by tools/gold.py. oldRustToString's loop over the escapes of a name: some of its cases. Printed by tools/gold.py. oldRustToString's loop over the escapes of a name: some of its cases. Printed by tools/gold.py. oldRustToString's loop over the escapes of a name: some of its cases. Printed by tools/gold.py. -/
import Derived.Test.YtpmlnhddkbgefaaDoorN2
namespace Go.Proofs.YtpmlnhddkbgefaaDoor
set_option linter.unusedVariables false
set_option linter.unusedSimpArgs false
open Go.RowKit
section
variable {b : Nat} {w0 : World} {OUT : List UInt8} {c0 c1 c2 c3 c4 c5 c6 c7 c8 c10 c11 c12 c13 c15 c16 c28 c29 c30 c31 c32 c33 c34 c35 c36 c37 c38 c39 c40 c41 c42 c43 c44 c45 c46 c47 c48 c49 c50 c51 c52 c53 c54 c55 c56 c57 c58 c59 c60 c61 c62 c63 c64 c65 c66 c67 c68 c69 c70 c71 c72 c73 c74 c75 c76 c77 c78 c79 c80 c81 c82 c83 c84 c85 c86 c87 c88 c89 c90 c91 c92 c93 c94 c95 c96 c97 c98 c99 c100 c101 c102 c103 c104 c105 c106 c107 c108 c109 c110 c111 c112 c113 c114 c115 c116 c117 c118 c119 c120 c121 c122 c123 c124 c125 c126 c127 c128 c129 c130 c131 c132 c133 c134 c135 c136 c137 c138 c139 c255 c256 c257 c258 c259 c260 c261 c262 c263 c264 c265 c266 c267 : Value}
set_option maxHeartbeats 4000000 in
set_option maxRecDepth 1000000 in
theorem esc_comma (a d : UInt8) (t out : List UInt8) (wr : World) (u18 u19 u20 u21 u22 u23 u24 u25 u26 u27 u140 u141 u142 u143 u144 u145 u146 u147 u148 u149 u150 u151 u152 u153 u154 u155 u156 u157 u158 u159 u160 u161 u162 u163 u164 u165 u166 u167 u168 u169 u170 u171 u172 u173 u174 u175 u176 u177 u178 u179 u180 u181 u182 u183 u184 u185 u186 u187 u188 u189 u190 u191 u192 u193 u194 u195 u196 u197 u198 u199 u200 u201 u202 u203 u204 u205 u206 u207 u208 u209 u210 u211 u212 u213 u214 u215 u216 u217 u218 u219 u220 u221 u222 u223 u224 u225 u226 u227 u228 u229 u230 u231 u232 u233 u234 u235 u236 u237 u238 u239 u240 u241 u242 u243 u244 u245 u246 u247 u248 u249 u250 u251 u252 u253 u254 : Value) (Q0 : Exit → Act → World → Prop) (ha : a = 67) (hd : d = 36) (hlb : LB b out wr) (hb : Below b w0 wr) (ho : out ++ Dm.tl (36 :: a :: d :: t) = OUT) (hl : OUT.length + (36 :: a :: d :: t).length ≤ 140737488355328) :
    Code.wp Tryd.prog escBody (Exit.then (fun a' w'' => EscI b w0 OUT c0 c1 c2 c3 c4 c5 c6 c7 c8 c10 c11 c12 c13 c15 c16 c28 c29 c30 c31 c32 c33 c34 c35 c36 c37 c38 c39 c40 c41 c42 c43 c44 c45 c46 c47 c48 c49 c50 c51 c52 c53 c54 c55 c56 c57 c58 c59 c60 c61 c62 c63 c64 c65 c66 c67 c68 c69 c70 c71 c72 c73 c74 c75 c76 c77 c78 c79 c80 c81 c82 c83 c84 c85 c86 c87 c88 c89 c90 c91 c92 c93 c94 c95 c96 c97 c98 c99 c100 c101 c102 c103 c104 c105 c106 c107 c108 c109 c110 c111 c112 c113 c114 c115 c116 c117 c118 c119 c120 c121 c122 c123 c124 c125 c126 c127 c128 c129 c130 c131 c132 c133 c134 c135 c136 c137 c138 c139 c255 c256 c257 c258 c259 c260 c261 c262 c263 c264 c265 c266 c267 a' w'' ∧ escMu a' < escMu ⟨#[c0, c1, c2, c3, c4, c5, c6, c7, c8, HF, c10, c11, c12, c13, .pointer (some ⟨b, 0, none⟩), c15, c16, .string (bs (36 :: a :: d :: t)), u18, u19, u20, u21, u22, u23, u24, u25, u26, u27, c28, c29, c30, c31, c32, c33, c34, c35, c36, c37, c38, c39, c40, c41, c42, c43, c44, c45, c46, c47, c48, c49, c50, c51, c52, c53, c54, c55, c56, c57, c58, c59, c60, c61, c62, c63, c64, c65, c66, c67, c68, c69, c70, c71, c72, c73, c74, c75, c76, c77, c78, c79, c80, c81, c82, c83, c84, c85, c86, c87, c88, c89, c90, c91, c92, c93, c94, c95, c96, c97, c98, c99, c100, c101, c102, c103, c104, c105, c106, c107, c108, c109, c110, c111, c112, c113, c114, c115, c116, c117, c118, c119, c120, c121, c122, c123, c124, c125, c126, c127, c128, c129, c130, c131, c132, c133, c134, c135, c136, c137, c138, c139, u140, u141, u142, u143, u144, u145, u146, u147, u148, u149, u150, u151, u152, u153, u154, u155, u156, u157, u158, u159, u160, u161, u162, u163, u164, u165, u166, u167, u168, u169, u170, u171, u172, u173, u174, u175, u176, u177, u178, u179, u180, u181, u182, u183, u184, u185, u186, u187, u188, u189, u190, u191, u192, u193, u194, u195, u196, u197, u198, u199, u200, u201, u202, u203, u204, u205, u206, u207, u208, u209, u210, u211, u212, u213, u214, u215, u216, u217, u218, u219, u220, u221, u222, u223, u224, u225, u226, u227, u228, u229, u230, u231, u232, u233, u234, u235, u236, u237, u238, u239, u240, u241, u242, u243, u244, u245, u246, u247, u248, u249, u250, u251, u252, u253, u254, c255, c256, c257, c258, c259, c260, c261, c262, c263, c264, c265, c266, c267], []⟩) Q0) ⟨#[c0, c1, c2, c3, c4, c5, c6, c7, c8, HF, c10, c11, c12, c13, .pointer (some ⟨b, 0, none⟩), c15, c16, .string (bs (36 :: a :: d :: t)), u18, u19, u20, u21, u22, u23, u24, u25, u26, u27, c28, c29, c30, c31, c32, c33, c34, c35, c36, c37, c38, c39, c40, c41, c42, c43, c44, c45, c46, c47, c48, c49, c50, c51, c52, c53, c54, c55, c56, c57, c58, c59, c60, c61, c62, c63, c64, c65, c66, c67, c68, c69, c70, c71, c72, c73, c74, c75, c76, c77, c78, c79, c80, c81, c82, c83, c84, c85, c86, c87, c88, c89, c90, c91, c92, c93, c94, c95, c96, c97, c98, c99, c100, c101, c102, c103, c104, c105, c106, c107, c108, c109, c110, c111, c112, c113, c114, c115, c116, c117, c118, c119, c120, c121, c122, c123, c124, c125, c126, c127, c128, c129, c130, c131, c132, c133, c134, c135, c136, c137, c138, c139, u140, u141, u142, u143, u144, u145, u146, u147, u148, u149, u150, u151, u152, u153, u154, u155, u156, u157, u158, u159, u160, u161, u162, u163, u164, u165, u166, u167, u168, u169, u170, u171, u172, u173, u174, u175, u176, u177, u178, u179, u180, u181, u182, u183, u184, u185, u186, u187, u188, u189, u190, u191, u192, u193, u194, u195, u196, u197, u198, u199, u200, u201, u202, u203, u204, u205, u206, u207, u208, u209, u210, u211, u212, u213, u214, u215, u216, u217, u218, u219, u220, u221, u222, u223, u224, u225, u226, u227, u228, u229, u230, u231, u232, u233, u234, u235, u236, u237, u238, u239, u240, u241, u242, u243, u244, u245, u246, u247, u248, u249, u250, u251, u252, u253, u254, c255, c256, c257, c258, c259, c260, c261, c262, c263, c264, c265, c266, c267], []⟩ wr := by
  conv => arg 2; whnf
  have hz := bs_size (36 :: a :: d :: t)
  have hmm := @run_makeMap Tryd.prog
  have hp0 := put_0 wr
  have hp1 := put_1 wr
  have hp2 := put_2 wr
  have hp3 := put_3 wr
  have hp4 := put_4 wr
  have hp5 := put_5 wr
  have hp6 := put_6 wr
  have HB := Lib.hid ((hb.alloc (Nat.le_of_lt hlb.lt) (cmap 7)))
  have ho2 : (out ++ [44]) ++ Dm.tl (t) = OUT := by subst ha hd; rw [← ho, Dm.tl_comma]; simp
  have HO := Lib.hid ho2
  have HL := Lib.hid (show OUT.length + (t).length ≤ 140737488355328 by simp at hl; omega)
  have hw := Lib.hid (lbByte_calls b out 44 _ (hlb.alloc (cmap 7)) (by have := congrArg List.length ho2; simp at this hl ⊢; omega))
  have n0 : (((36 : UInt8).toNat : Int) == 36) = true := rfl
  have i0 : (bs (36 :: a :: d :: t))[0]'(by rw [hz]; simp) = 36 := rfl
  have i1 : (bs (36 :: a :: d :: t))[1]'(by rw [hz]; simp) = a := rfl
  have i2 : (bs (36 :: a :: d :: t))[2]'(by rw [hz]; simp) = d := rfl
  have ly0 : (0 : Int) < (t.length : Int) + 1 + 1 + 1 := by omega
  have lz0 : (0 : Int) < ((bs (36 :: a :: d :: t)).size : Int) := by rw [hz]; simp <;> omega
  have ly2 : (2 : Int) < (t.length : Int) + 1 + 1 + 1 := by omega
  have lz2 : (2 : Int) < ((bs (36 :: a :: d :: t)).size : Int) := by rw [hz]; simp <;> omega
  have n1 : ((a.toNat : Int) == 67) = true := u8_eq (d := 67) ha
  have n2 : ((d.toNat : Int) == 36) = true := u8_eq (d := 36) hd
  have hxs : (bs (36 :: a :: d :: t)).extract 3 (t.length + 1 + 1 + 1) = bs (t) := by have := bs_extract (36 :: a :: d :: t) 3; exact this
  have hn : 3 ≤ (36 :: a :: d :: t).length := by simp
  have hni : (3 : Int) ≤ ((36 :: a :: d :: t).length : Int) := by simp <;> omega
  clear hlb hb ho ho2 hl ha hd
  go_wp2_with (first | (go_at_call 94; refine hw.out.mono ?_; rintro e w1 ⟨rfl, hlb1, hb1⟩))
  all_goals refine ⟨?_, ?_⟩
  all_goals try rw [hxs]
  all_goals first
    | exact ⟨_, _, _, _, _, _, _, _, _, _, _, _, _, _, _, _, _, _, _, _, _, _, _, _, _, _, _, _, _, _, _, _, _, _, _, _, _, _, _, _, _, _, _, _, _, _, _, _, _, _, _, _, _, _, _, _, _, _, _, _, _, _, _, _, _, _, _, _, _, _, _, _, _, _, _, _, _, _, _, _, _, _, _, _, _, _, _, _, _, _, _, _, _, _, _, _, _, _, _, _, _, _, _, _, _, _, _, _, _, _, _, _, _, _, _, _, _, _, _, _, _, _, _, _, _, t, out ++ [44], ⟨hlb1, HB.out.trans hb1, HO.out, HL.out⟩, rfl⟩
    | (show (bs (t)).size < (bs (36 :: a :: d :: t)).size
       rw [bs_size, bs_size]
       simp <;> omega)
end
end Go.Proofs.YtpmlnhddkbgefaaDoor
namespace Go.Proofs.YtpmlnhddkbgefaaDoor
set_option linter.unusedVariables false
set_option linter.unusedSimpArgs false
open Go.RowKit
section
variable {b : Nat} {w0 : World} {OUT : List UInt8} {c0 c1 c2 c3 c4 c5 c6 c7 c8 c10 c11 c12 c13 c15 c16 c28 c29 c30 c31 c32 c33 c34 c35 c36 c37 c38 c39 c40 c41 c42 c43 c44 c45 c46 c47 c48 c49 c50 c51 c52 c53 c54 c55 c56 c57 c58 c59 c60 c61 c62 c63 c64 c65 c66 c67 c68 c69 c70 c71 c72 c73 c74 c75 c76 c77 c78 c79 c80 c81 c82 c83 c84 c85 c86 c87 c88 c89 c90 c91 c92 c93 c94 c95 c96 c97 c98 c99 c100 c101 c102 c103 c104 c105 c106 c107 c108 c109 c110 c111 c112 c113 c114 c115 c116 c117 c118 c119 c120 c121 c122 c123 c124 c125 c126 c127 c128 c129 c130 c131 c132 c133 c134 c135 c136 c137 c138 c139 c255 c256 c257 c258 c259 c260 c261 c262 c263 c264 c265 c266 c267 : Value}
set_option maxHeartbeats 4000000 in
set_option maxRecDepth 1000000 in
theorem esc_hex (a x y d : UInt8) (t out : List UInt8) (wr : World) (u18 u19 u20 u21 u22 u23 u24 u25 u26 u27 u140 u141 u142 u143 u144 u145 u146 u147 u148 u149 u150 u151 u152 u153 u154 u155 u156 u157 u158 u159 u160 u161 u162 u163 u164 u165 u166 u167 u168 u169 u170 u171 u172 u173 u174 u175 u176 u177 u178 u179 u180 u181 u182 u183 u184 u185 u186 u187 u188 u189 u190 u191 u192 u193 u194 u195 u196 u197 u198 u199 u200 u201 u202 u203 u204 u205 u206 u207 u208 u209 u210 u211 u212 u213 u214 u215 u216 u217 u218 u219 u220 u221 u222 u223 u224 u225 u226 u227 u228 u229 u230 u231 u232 u233 u234 u235 u236 u237 u238 u239 u240 u241 u242 u243 u244 u245 u246 u247 u248 u249 u250 u251 u252 u253 u254 : Value) (Q0 : Exit → Act → World → Prop) (ha : a = 117) (hd : d = 36) (p q : Int) (hp : Dm.hexd x = some p) (hq : Dm.hexd y = some q) (hv : ¬ (7 < p ∨ p * 16 + q < 32)) (hlb : LB b out wr) (hb : Below b w0 wr) (ho : out ++ Dm.tl (36 :: a :: x :: y :: d :: t) = OUT) (hl : OUT.length + (36 :: a :: x :: y :: d :: t).length ≤ 140737488355328) :
    Code.wp Tryd.prog escBody (Exit.then (fun a' w'' => EscI b w0 OUT c0 c1 c2 c3 c4 c5 c6 c7 c8 c10 c11 c12 c13 c15 c16 c28 c29 c30 c31 c32 c33 c34 c35 c36 c37 c38 c39 c40 c41 c42 c43 c44 c45 c46 c47 c48 c49 c50 c51 c52 c53 c54 c55 c56 c57 c58 c59 c60 c61 c62 c63 c64 c65 c66 c67 c68 c69 c70 c71 c72 c73 c74 c75 c76 c77 c78 c79 c80 c81 c82 c83 c84 c85 c86 c87 c88 c89 c90 c91 c92 c93 c94 c95 c96 c97 c98 c99 c100 c101 c102 c103 c104 c105 c106 c107 c108 c109 c110 c111 c112 c113 c114 c115 c116 c117 c118 c119 c120 c121 c122 c123 c124 c125 c126 c127 c128 c129 c130 c131 c132 c133 c134 c135 c136 c137 c138 c139 c255 c256 c257 c258 c259 c260 c261 c262 c263 c264 c265 c266 c267 a' w'' ∧ escMu a' < escMu ⟨#[c0, c1, c2, c3, c4, c5, c6, c7, c8, HF, c10, c11, c12, c13, .pointer (some ⟨b, 0, none⟩), c15, c16, .string (bs (36 :: a :: x :: y :: d :: t)), u18, u19, u20, u21, u22, u23, u24, u25, u26, u27, c28, c29, c30, c31, c32, c33, c34, c35, c36, c37, c38, c39, c40, c41, c42, c43, c44, c45, c46, c47, c48, c49, c50, c51, c52, c53, c54, c55, c56, c57, c58, c59, c60, c61, c62, c63, c64, c65, c66, c67, c68, c69, c70, c71, c72, c73, c74, c75, c76, c77, c78, c79, c80, c81, c82, c83, c84, c85, c86, c87, c88, c89, c90, c91, c92, c93, c94, c95, c96, c97, c98, c99, c100, c101, c102, c103, c104, c105, c106, c107, c108, c109, c110, c111, c112, c113, c114, c115, c116, c117, c118, c119, c120, c121, c122, c123, c124, c125, c126, c127, c128, c129, c130, c131, c132, c133, c134, c135, c136, c137, c138, c139, u140, u141, u142, u143, u144, u145, u146, u147, u148, u149, u150, u151, u152, u153, u154, u155, u156, u157, u158, u159, u160, u161, u162, u163, u164, u165, u166, u167, u168, u169, u170, u171, u172, u173, u174, u175, u176, u177, u178, u179, u180, u181, u182, u183, u184, u185, u186, u187, u188, u189, u190, u191, u192, u193, u194, u195, u196, u197, u198, u199, u200, u201, u202, u203, u204, u205, u206, u207, u208, u209, u210, u211, u212, u213, u214, u215, u216, u217, u218, u219, u220, u221, u222, u223, u224, u225, u226, u227, u228, u229, u230, u231, u232, u233, u234, u235, u236, u237, u238, u239, u240, u241, u242, u243, u244, u245, u246, u247, u248, u249, u250, u251, u252, u253, u254, c255, c256, c257, c258, c259, c260, c261, c262, c263, c264, c265, c266, c267], []⟩) Q0) ⟨#[c0, c1, c2, c3, c4, c5, c6, c7, c8, HF, c10, c11, c12, c13, .pointer (some ⟨b, 0, none⟩), c15, c16, .string (bs (36 :: a :: x :: y :: d :: t)), u18, u19, u20, u21, u22, u23, u24, u25, u26, u27, c28, c29, c30, c31, c32, c33, c34, c35, c36, c37, c38, c39, c40, c41, c42, c43, c44, c45, c46, c47, c48, c49, c50, c51, c52, c53, c54, c55, c56, c57, c58, c59, c60, c61, c62, c63, c64, c65, c66, c67, c68, c69, c70, c71, c72, c73, c74, c75, c76, c77, c78, c79, c80, c81, c82, c83, c84, c85, c86, c87, c88, c89, c90, c91, c92, c93, c94, c95, c96, c97, c98, c99, c100, c101, c102, c103, c104, c105, c106, c107, c108, c109, c110, c111, c112, c113, c114, c115, c116, c117, c118, c119, c120, c121, c122, c123, c124, c125, c126, c127, c128, c129, c130, c131, c132, c133, c134, c135, c136, c137, c138, c139, u140, u141, u142, u143, u144, u145, u146, u147, u148, u149, u150, u151, u152, u153, u154, u155, u156, u157, u158, u159, u160, u161, u162, u163, u164, u165, u166, u167, u168, u169, u170, u171, u172, u173, u174, u175, u176, u177, u178, u179, u180, u181, u182, u183, u184, u185, u186, u187, u188, u189, u190, u191, u192, u193, u194, u195, u196, u197, u198, u199, u200, u201, u202, u203, u204, u205, u206, u207, u208, u209, u210, u211, u212, u213, u214, u215, u216, u217, u218, u219, u220, u221, u222, u223, u224, u225, u226, u227, u228, u229, u230, u231, u232, u233, u234, u235, u236, u237, u238, u239, u240, u241, u242, u243, u244, u245, u246, u247, u248, u249, u250, u251, u252, u253, u254, c255, c256, c257, c258, c259, c260, c261, c262, c263, c264, c265, c266, c267], []⟩ wr := by
  conv => arg 2; whnf
  have hz := bs_size (36 :: a :: x :: y :: d :: t)
  have hmm := @run_makeMap Tryd.prog
  have hp0 := put_0 wr
  have hp1 := put_1 wr
  have hp2 := put_2 wr
  have hp3 := put_3 wr
  have hp4 := put_4 wr
  have hp5 := put_5 wr
  have hp6 := put_6 wr
  have HB := Lib.hid ((hb.alloc (Nat.le_of_lt hlb.lt) (cmap 7)))
  have hq2 := Dm.hexd_range hq
  have hp2 := Dm.hexd_range hp
  have hv1 : ¬ 7 < p := fun h => hv (.inl h)
  have hv2 : ¬ p * 16 + q < 32 := fun h => hv (.inr h)
  have hvb : ((UInt8.ofNat (p * 16 + q).toNat).toNat : Int) = p * 16 + q := by rw [UInt8.toNat_ofNat_of_lt' (by have : UInt8.size = 256 := rfl; omega)]; omega
  have ho2 : (out ++ [UInt8.ofNat (p * 16 + q).toNat]) ++ Dm.tl (t) = OUT := by subst ha hd; rw [← ho, Dm.tl_hex _ _ (UInt8.ofNat (p * 16 + q).toNat) _ (by unfold Dm.hex2; rw [hp, hq]; simp only; rw [if_neg hv])]; simp
  have HO := Lib.hid ho2
  have HL := Lib.hid (show OUT.length + (t).length ≤ 140737488355328 by simp at hl; omega)
  have hw := Lib.hid (by have h_ := lbByte_calls b out (UInt8.ofNat (p * 16 + q).toNat) _ (hlb.alloc (cmap 7)) (by have := congrArg List.length ho2; simp at this hl ⊢; omega); rw [hvb] at h_; exact h_)
  have n0 : (((36 : UInt8).toNat : Int) == 36) = true := rfl
  have i0 : (bs (36 :: a :: x :: y :: d :: t))[0]'(by rw [hz]; simp) = 36 := rfl
  have i1 : (bs (36 :: a :: x :: y :: d :: t))[1]'(by rw [hz]; simp) = a := rfl
  have i2 : (bs (36 :: a :: x :: y :: d :: t))[2]'(by rw [hz]; simp) = x := rfl
  have i3 : (bs (36 :: a :: x :: y :: d :: t))[3]'(by rw [hz]; simp) = y := rfl
  have i4 : (bs (36 :: a :: x :: y :: d :: t))[4]'(by rw [hz]; simp) = d := rfl
  have ly0 : (0 : Int) < (t.length : Int) + 1 + 1 + 1 + 1 + 1 := by omega
  have lz0 : (0 : Int) < ((bs (36 :: a :: x :: y :: d :: t)).size : Int) := by rw [hz]; simp <;> omega
  have ly2 : (2 : Int) < (t.length : Int) + 1 + 1 + 1 + 1 + 1 := by omega
  have lz2 : (2 : Int) < ((bs (36 :: a :: x :: y :: d :: t)).size : Int) := by rw [hz]; simp <;> omega
  have ly4 : (4 : Int) < (t.length : Int) + 1 + 1 + 1 + 1 + 1 := by omega
  have lz4 : (4 : Int) < ((bs (36 :: a :: x :: y :: d :: t)).size : Int) := by rw [hz]; simp <;> omega
  have n1 : ((a.toNat : Int) == 117) = true := u8_eq (d := 117) ha
  have n1b : ((a.toNat : Int) == 67) = false := u8_ne (d := 67) (by rw [ha]; decide)
  have n2 : ((d.toNat : Int) == 36) = true := u8_eq (d := 36) hd
  have rx : hexRes x = .tuple #[.int .u8 p, .bool true] := by unfold hexRes; rw [hp]
  have ry : hexRes y = .tuple #[.int .u8 q, .bool true] := by unfold hexRes; rw [hq]
  have hsh : IntKind.u8.wrap (p * 16) = p * 16 := IntWalk.u8_in _ (by omega)
  have hor : bits .or .u8 (p * 16) q = p * 16 + q := hex_or (by omega) (by omega) (by omega) (by omega)
  have hxs : (bs (36 :: a :: x :: y :: d :: t)).extract 5 (t.length + 1 + 1 + 1 + 1 + 1) = bs (t) := by have := bs_extract (36 :: a :: x :: y :: d :: t) 5; exact this
  have hn : 5 ≤ (36 :: a :: x :: y :: d :: t).length := by simp
  have hni : (5 : Int) ≤ ((36 :: a :: x :: y :: d :: t).length : Int) := by simp <;> omega
  clear hlb hb ho ho2 hl ha hd hp hq hv
  go_wp2_with (first | (go_at_call 94; refine hw.out.mono ?_; rintro e w1 ⟨rfl, hlb1, hb1⟩) | (go_at_call 89; refine (hexDigit_calls _ _).mono ?_; rintro e wx ⟨rfl, rfl⟩))
  all_goals refine ⟨?_, ?_⟩
  all_goals try rw [hxs]
  all_goals first
    | exact ⟨_, _, _, _, _, _, _, _, _, _, _, _, _, _, _, _, _, _, _, _, _, _, _, _, _, _, _, _, _, _, _, _, _, _, _, _, _, _, _, _, _, _, _, _, _, _, _, _, _, _, _, _, _, _, _, _, _, _, _, _, _, _, _, _, _, _, _, _, _, _, _, _, _, _, _, _, _, _, _, _, _, _, _, _, _, _, _, _, _, _, _, _, _, _, _, _, _, _, _, _, _, _, _, _, _, _, _, _, _, _, _, _, _, _, _, _, _, _, _, _, _, _, _, _, _, t, out ++ [UInt8.ofNat (p * 16 + q).toNat], ⟨hlb1, HB.out.trans hb1, HO.out, HL.out⟩, rfl⟩
    | (show (bs (t)).size < (bs (36 :: a :: x :: y :: d :: t)).size
       rw [bs_size, bs_size]
       simp <;> omega)
end
end Go.Proofs.YtpmlnhddkbgefaaDoor
namespace Go.Proofs.YtpmlnhddkbgefaaDoor
set_option linter.unusedVariables false
set_option linter.unusedSimpArgs false
open Go.RowKit
section
variable {b : Nat} {w0 : World} {OUT : List UInt8} {c0 c1 c2 c3 c4 c5 c6 c7 c8 c10 c11 c12 c13 c15 c16 c28 c29 c30 c31 c32 c33 c34 c35 c36 c37 c38 c39 c40 c41 c42 c43 c44 c45 c46 c47 c48 c49 c50 c51 c52 c53 c54 c55 c56 c57 c58 c59 c60 c61 c62 c63 c64 c65 c66 c67 c68 c69 c70 c71 c72 c73 c74 c75 c76 c77 c78 c79 c80 c81 c82 c83 c84 c85 c86 c87 c88 c89 c90 c91 c92 c93 c94 c95 c96 c97 c98 c99 c100 c101 c102 c103 c104 c105 c106 c107 c108 c109 c110 c111 c112 c113 c114 c115 c116 c117 c118 c119 c120 c121 c122 c123 c124 c125 c126 c127 c128 c129 c130 c131 c132 c133 c134 c135 c136 c137 c138 c139 c255 c256 c257 c258 c259 c260 c261 c262 c263 c264 c265 c266 c267 : Value}
set_option maxHeartbeats 4000000 in
set_option maxRecDepth 1000000 in
theorem esc_code1 (a x d v : UInt8) (t out : List UInt8) (wr : World) (u18 u19 u20 u21 u22 u23 u24 u25 u26 u27 u140 u141 u142 u143 u144 u145 u146 u147 u148 u149 u150 u151 u152 u153 u154 u155 u156 u157 u158 u159 u160 u161 u162 u163 u164 u165 u166 u167 u168 u169 u170 u171 u172 u173 u174 u175 u176 u177 u178 u179 u180 u181 u182 u183 u184 u185 u186 u187 u188 u189 u190 u191 u192 u193 u194 u195 u196 u197 u198 u199 u200 u201 u202 u203 u204 u205 u206 u207 u208 u209 u210 u211 u212 u213 u214 u215 u216 u217 u218 u219 u220 u221 u222 u223 u224 u225 u226 u227 u228 u229 u230 u231 u232 u233 u234 u235 u236 u237 u238 u239 u240 u241 u242 u243 u244 u245 u246 u247 u248 u249 u250 u251 u252 u253 u254 : Value) (Q0 : Exit → Act → World → Prop) (hv : Dm.code2 a x = some v) (h1 : a ≠ 67) (h2 : a ≠ 117) (hd : d = 36) (hlb : LB b out wr) (hb : Below b w0 wr) (ho : out ++ Dm.tl (36 :: a :: x :: d :: t) = OUT) (hl : OUT.length + (36 :: a :: x :: d :: t).length ≤ 140737488355328) :
    Code.wp Tryd.prog escBody (Exit.then (fun a' w'' => EscI b w0 OUT c0 c1 c2 c3 c4 c5 c6 c7 c8 c10 c11 c12 c13 c15 c16 c28 c29 c30 c31 c32 c33 c34 c35 c36 c37 c38 c39 c40 c41 c42 c43 c44 c45 c46 c47 c48 c49 c50 c51 c52 c53 c54 c55 c56 c57 c58 c59 c60 c61 c62 c63 c64 c65 c66 c67 c68 c69 c70 c71 c72 c73 c74 c75 c76 c77 c78 c79 c80 c81 c82 c83 c84 c85 c86 c87 c88 c89 c90 c91 c92 c93 c94 c95 c96 c97 c98 c99 c100 c101 c102 c103 c104 c105 c106 c107 c108 c109 c110 c111 c112 c113 c114 c115 c116 c117 c118 c119 c120 c121 c122 c123 c124 c125 c126 c127 c128 c129 c130 c131 c132 c133 c134 c135 c136 c137 c138 c139 c255 c256 c257 c258 c259 c260 c261 c262 c263 c264 c265 c266 c267 a' w'' ∧ escMu a' < escMu ⟨#[c0, c1, c2, c3, c4, c5, c6, c7, c8, HF, c10, c11, c12, c13, .pointer (some ⟨b, 0, none⟩), c15, c16, .string (bs (36 :: a :: x :: d :: t)), u18, u19, u20, u21, u22, u23, u24, u25, u26, u27, c28, c29, c30, c31, c32, c33, c34, c35, c36, c37, c38, c39, c40, c41, c42, c43, c44, c45, c46, c47, c48, c49, c50, c51, c52, c53, c54, c55, c56, c57, c58, c59, c60, c61, c62, c63, c64, c65, c66, c67, c68, c69, c70, c71, c72, c73, c74, c75, c76, c77, c78, c79, c80, c81, c82, c83, c84, c85, c86, c87, c88, c89, c90, c91, c92, c93, c94, c95, c96, c97, c98, c99, c100, c101, c102, c103, c104, c105, c106, c107, c108, c109, c110, c111, c112, c113, c114, c115, c116, c117, c118, c119, c120, c121, c122, c123, c124, c125, c126, c127, c128, c129, c130, c131, c132, c133, c134, c135, c136, c137, c138, c139, u140, u141, u142, u143, u144, u145, u146, u147, u148, u149, u150, u151, u152, u153, u154, u155, u156, u157, u158, u159, u160, u161, u162, u163, u164, u165, u166, u167, u168, u169, u170, u171, u172, u173, u174, u175, u176, u177, u178, u179, u180, u181, u182, u183, u184, u185, u186, u187, u188, u189, u190, u191, u192, u193, u194, u195, u196, u197, u198, u199, u200, u201, u202, u203, u204, u205, u206, u207, u208, u209, u210, u211, u212, u213, u214, u215, u216, u217, u218, u219, u220, u221, u222, u223, u224, u225, u226, u227, u228, u229, u230, u231, u232, u233, u234, u235, u236, u237, u238, u239, u240, u241, u242, u243, u244, u245, u246, u247, u248, u249, u250, u251, u252, u253, u254, c255, c256, c257, c258, c259, c260, c261, c262, c263, c264, c265, c266, c267], []⟩) Q0) ⟨#[c0, c1, c2, c3, c4, c5, c6, c7, c8, HF, c10, c11, c12, c13, .pointer (some ⟨b, 0, none⟩), c15, c16, .string (bs (36 :: a :: x :: d :: t)), u18, u19, u20, u21, u22, u23, u24, u25, u26, u27, c28, c29, c30, c31, c32, c33, c34, c35, c36, c37, c38, c39, c40, c41, c42, c43, c44, c45, c46, c47, c48, c49, c50, c51, c52, c53, c54, c55, c56, c57, c58, c59, c60, c61, c62, c63, c64, c65, c66, c67, c68, c69, c70, c71, c72, c73, c74, c75, c76, c77, c78, c79, c80, c81, c82, c83, c84, c85, c86, c87, c88, c89, c90, c91, c92, c93, c94, c95, c96, c97, c98, c99, c100, c101, c102, c103, c104, c105, c106, c107, c108, c109, c110, c111, c112, c113, c114, c115, c116, c117, c118, c119, c120, c121, c122, c123, c124, c125, c126, c127, c128, c129, c130, c131, c132, c133, c134, c135, c136, c137, c138, c139, u140, u141, u142, u143, u144, u145, u146, u147, u148, u149, u150, u151, u152, u153, u154, u155, u156, u157, u158, u159, u160, u161, u162, u163, u164, u165, u166, u167, u168, u169, u170, u171, u172, u173, u174, u175, u176, u177, u178, u179, u180, u181, u182, u183, u184, u185, u186, u187, u188, u189, u190, u191, u192, u193, u194, u195, u196, u197, u198, u199, u200, u201, u202, u203, u204, u205, u206, u207, u208, u209, u210, u211, u212, u213, u214, u215, u216, u217, u218, u219, u220, u221, u222, u223, u224, u225, u226, u227, u228, u229, u230, u231, u232, u233, u234, u235, u236, u237, u238, u239, u240, u241, u242, u243, u244, u245, u246, u247, u248, u249, u250, u251, u252, u253, u254, c255, c256, c257, c258, c259, c260, c261, c262, c263, c264, c265, c266, c267], []⟩ wr := by
  conv => arg 2; whnf
  have hz := bs_size (36 :: a :: x :: d :: t)
  have hmm := @run_makeMap Tryd.prog
  have hp0 := put_0 wr
  have hp1 := put_1 wr
  have hp2 := put_2 wr
  have hp3 := put_3 wr
  have hp4 := put_4 wr
  have hp5 := put_5 wr
  have hp6 := put_6 wr
  have HB := Lib.hid ((hb.alloc (Nat.le_of_lt hlb.lt) (cmap 7)))
  have ho2 : (out ++ [v]) ++ Dm.tl (t) = OUT := by subst hd; rw [← ho, Dm.tl_two _ _ v _ hv (.inl h1) h2]; simp
  have HO := Lib.hid ho2
  have HL := Lib.hid (show OUT.length + (t).length ≤ 140737488355328 by simp at hl; omega)
  have hw := Lib.hid (lbByte_calls b out v _ (hlb.alloc (cmap 7)) (by have := congrArg List.length ho2; simp at this hl ⊢; omega))
  have n0 : (((36 : UInt8).toNat : Int) == 36) = true := rfl
  have i0 : (bs (36 :: a :: x :: d :: t))[0]'(by rw [hz]; simp) = 36 := rfl
  have i1 : (bs (36 :: a :: x :: d :: t))[1]'(by rw [hz]; simp) = a := rfl
  have i2 : (bs (36 :: a :: x :: d :: t))[2]'(by rw [hz]; simp) = x := rfl
  have i3 : (bs (36 :: a :: x :: d :: t))[3]'(by rw [hz]; simp) = d := rfl
  have ly0 : (0 : Int) < (t.length : Int) + 1 + 1 + 1 + 1 := by omega
  have lz0 : (0 : Int) < ((bs (36 :: a :: x :: d :: t)).size : Int) := by rw [hz]; simp <;> omega
  have ly2 : (2 : Int) < (t.length : Int) + 1 + 1 + 1 + 1 := by omega
  have lz2 : (2 : Int) < ((bs (36 :: a :: x :: d :: t)).size : Int) := by rw [hz]; simp <;> omega
  have ly3 : (3 : Int) < (t.length : Int) + 1 + 1 + 1 + 1 := by omega
  have lz3 : (3 : Int) < ((bs (36 :: a :: x :: d :: t)).size : Int) := by rw [hz]; simp <;> omega
  have n1 : ((a.toNat : Int) == 67) = false := u8_ne (d := 67) h1
  have n2 : ((a.toNat : Int) == 117) = false := u8_ne (d := 117) h2
  have n3 : ((d.toNat : Int) == 36) = true := u8_eq (d := 36) hd
  have hk : (bs (36 :: a :: x :: d :: t)).extract 1 3 = bs [a, x] := by rw [bs_extract_to]; rfl
  have rl : codeRes a x = .tuple #[.int .u8 v.toNat, .bool true] := by unfold codeRes; rw [hv]
  have hlk := look_code wr.heap.size (wr.alloc (cmap 7)) (heap_alloc_new wr _) a x
  have hxs : (bs (36 :: a :: x :: d :: t)).extract 4 (t.length + 1 + 1 + 1 + 1) = bs (t) := by have := bs_extract (36 :: a :: x :: d :: t) 4; exact this
  have hn : 4 ≤ (36 :: a :: x :: d :: t).length := by simp
  have hni : (4 : Int) ≤ ((36 :: a :: x :: d :: t).length : Int) := by simp <;> omega
  clear hlb hb ho ho2 hl hv h1 h2 hd
  go_wp2_with (first | (go_at_call 94; refine hw.out.mono ?_; rintro e w1 ⟨rfl, hlb1, hb1⟩))
  all_goals refine ⟨?_, ?_⟩
  all_goals try rw [hxs]
  all_goals first
    | exact ⟨_, _, _, _, _, _, _, _, _, _, _, _, _, _, _, _, _, _, _, _, _, _, _, _, _, _, _, _, _, _, _, _, _, _, _, _, _, _, _, _, _, _, _, _, _, _, _, _, _, _, _, _, _, _, _, _, _, _, _, _, _, _, _, _, _, _, _, _, _, _, _, _, _, _, _, _, _, _, _, _, _, _, _, _, _, _, _, _, _, _, _, _, _, _, _, _, _, _, _, _, _, _, _, _, _, _, _, _, _, _, _, _, _, _, _, _, _, _, _, _, _, _, _, _, _, t, out ++ [v], ⟨hlb1, HB.out.trans hb1, HO.out, HL.out⟩, rfl⟩
    | (show (bs (t)).size < (bs (36 :: a :: x :: d :: t)).size
       rw [bs_size, bs_size]
       simp <;> omega)
end
end Go.Proofs.YtpmlnhddkbgefaaDoor
namespace Go.Proofs.YtpmlnhddkbgefaaDoor
set_option linter.unusedVariables false
set_option linter.unusedSimpArgs false
open Go.RowKit
section
variable {b : Nat} {w0 : World} {OUT : List UInt8} {c0 c1 c2 c3 c4 c5 c6 c7 c8 c10 c11 c12 c13 c15 c16 c28 c29 c30 c31 c32 c33 c34 c35 c36 c37 c38 c39 c40 c41 c42 c43 c44 c45 c46 c47 c48 c49 c50 c51 c52 c53 c54 c55 c56 c57 c58 c59 c60 c61 c62 c63 c64 c65 c66 c67 c68 c69 c70 c71 c72 c73 c74 c75 c76 c77 c78 c79 c80 c81 c82 c83 c84 c85 c86 c87 c88 c89 c90 c91 c92 c93 c94 c95 c96 c97 c98 c99 c100 c101 c102 c103 c104 c105 c106 c107 c108 c109 c110 c111 c112 c113 c114 c115 c116 c117 c118 c119 c120 c121 c122 c123 c124 c125 c126 c127 c128 c129 c130 c131 c132 c133 c134 c135 c136 c137 c138 c139 c255 c256 c257 c258 c259 c260 c261 c262 c263 c264 c265 c266 c267 : Value}
set_option maxHeartbeats 4000000 in
set_option maxRecDepth 1000000 in
theorem esc_b1 (a x d : UInt8) (t out : List UInt8) (wr : World) (u18 u19 u20 u21 u22 u23 u24 u25 u26 u27 u140 u141 u142 u143 u144 u145 u146 u147 u148 u149 u150 u151 u152 u153 u154 u155 u156 u157 u158 u159 u160 u161 u162 u163 u164 u165 u166 u167 u168 u169 u170 u171 u172 u173 u174 u175 u176 u177 u178 u179 u180 u181 u182 u183 u184 u185 u186 u187 u188 u189 u190 u191 u192 u193 u194 u195 u196 u197 u198 u199 u200 u201 u202 u203 u204 u205 u206 u207 u208 u209 u210 u211 u212 u213 u214 u215 u216 u217 u218 u219 u220 u221 u222 u223 u224 u225 u226 u227 u228 u229 u230 u231 u232 u233 u234 u235 u236 u237 u238 u239 u240 u241 u242 u243 u244 u245 u246 u247 u248 u249 u250 u251 u252 u253 u254 : Value) (Q0 : Exit → Act → World → Prop) (hv : Dm.code2 a x = none) (h1 : a ≠ 67) (h2 : a ≠ 117) (hd : d = 36) (hlb : LB b out wr) (hb : Below b w0 wr) (ho : out ++ Dm.tl (36 :: a :: x :: d :: t) = OUT) (hl : OUT.length + (36 :: a :: x :: d :: t).length ≤ 140737488355328) (hexit : ∀ a' w'', EscX b w0 OUT c0 c1 c2 c3 c4 c5 c6 c7 c8 c10 c11 c12 c13 c15 c16 c28 c29 c30 c31 c32 c33 c34 c35 c36 c37 c38 c39 c40 c41 c42 c43 c44 c45 c46 c47 c48 c49 c50 c51 c52 c53 c54 c55 c56 c57 c58 c59 c60 c61 c62 c63 c64 c65 c66 c67 c68 c69 c70 c71 c72 c73 c74 c75 c76 c77 c78 c79 c80 c81 c82 c83 c84 c85 c86 c87 c88 c89 c90 c91 c92 c93 c94 c95 c96 c97 c98 c99 c100 c101 c102 c103 c104 c105 c106 c107 c108 c109 c110 c111 c112 c113 c114 c115 c116 c117 c118 c119 c120 c121 c122 c123 c124 c125 c126 c127 c128 c129 c130 c131 c132 c133 c134 c135 c136 c137 c138 c139 c255 c256 c257 c258 c259 c260 c261 c262 c263 c264 c265 c266 c267 a' w'' → Q0 (.exit 8) a' w'') :
    Code.wp Tryd.prog escBody (Exit.then (fun a' w'' => EscI b w0 OUT c0 c1 c2 c3 c4 c5 c6 c7 c8 c10 c11 c12 c13 c15 c16 c28 c29 c30 c31 c32 c33 c34 c35 c36 c37 c38 c39 c40 c41 c42 c43 c44 c45 c46 c47 c48 c49 c50 c51 c52 c53 c54 c55 c56 c57 c58 c59 c60 c61 c62 c63 c64 c65 c66 c67 c68 c69 c70 c71 c72 c73 c74 c75 c76 c77 c78 c79 c80 c81 c82 c83 c84 c85 c86 c87 c88 c89 c90 c91 c92 c93 c94 c95 c96 c97 c98 c99 c100 c101 c102 c103 c104 c105 c106 c107 c108 c109 c110 c111 c112 c113 c114 c115 c116 c117 c118 c119 c120 c121 c122 c123 c124 c125 c126 c127 c128 c129 c130 c131 c132 c133 c134 c135 c136 c137 c138 c139 c255 c256 c257 c258 c259 c260 c261 c262 c263 c264 c265 c266 c267 a' w'' ∧ escMu a' < escMu ⟨#[c0, c1, c2, c3, c4, c5, c6, c7, c8, HF, c10, c11, c12, c13, .pointer (some ⟨b, 0, none⟩), c15, c16, .string (bs (36 :: a :: x :: d :: t)), u18, u19, u20, u21, u22, u23, u24, u25, u26, u27, c28, c29, c30, c31, c32, c33, c34, c35, c36, c37, c38, c39, c40, c41, c42, c43, c44, c45, c46, c47, c48, c49, c50, c51, c52, c53, c54, c55, c56, c57, c58, c59, c60, c61, c62, c63, c64, c65, c66, c67, c68, c69, c70, c71, c72, c73, c74, c75, c76, c77, c78, c79, c80, c81, c82, c83, c84, c85, c86, c87, c88, c89, c90, c91, c92, c93, c94, c95, c96, c97, c98, c99, c100, c101, c102, c103, c104, c105, c106, c107, c108, c109, c110, c111, c112, c113, c114, c115, c116, c117, c118, c119, c120, c121, c122, c123, c124, c125, c126, c127, c128, c129, c130, c131, c132, c133, c134, c135, c136, c137, c138, c139, u140, u141, u142, u143, u144, u145, u146, u147, u148, u149, u150, u151, u152, u153, u154, u155, u156, u157, u158, u159, u160, u161, u162, u163, u164, u165, u166, u167, u168, u169, u170, u171, u172, u173, u174, u175, u176, u177, u178, u179, u180, u181, u182, u183, u184, u185, u186, u187, u188, u189, u190, u191, u192, u193, u194, u195, u196, u197, u198, u199, u200, u201, u202, u203, u204, u205, u206, u207, u208, u209, u210, u211, u212, u213, u214, u215, u216, u217, u218, u219, u220, u221, u222, u223, u224, u225, u226, u227, u228, u229, u230, u231, u232, u233, u234, u235, u236, u237, u238, u239, u240, u241, u242, u243, u244, u245, u246, u247, u248, u249, u250, u251, u252, u253, u254, c255, c256, c257, c258, c259, c260, c261, c262, c263, c264, c265, c266, c267], []⟩) Q0) ⟨#[c0, c1, c2, c3, c4, c5, c6, c7, c8, HF, c10, c11, c12, c13, .pointer (some ⟨b, 0, none⟩), c15, c16, .string (bs (36 :: a :: x :: d :: t)), u18, u19, u20, u21, u22, u23, u24, u25, u26, u27, c28, c29, c30, c31, c32, c33, c34, c35, c36, c37, c38, c39, c40, c41, c42, c43, c44, c45, c46, c47, c48, c49, c50, c51, c52, c53, c54, c55, c56, c57, c58, c59, c60, c61, c62, c63, c64, c65, c66, c67, c68, c69, c70, c71, c72, c73, c74, c75, c76, c77, c78, c79, c80, c81, c82, c83, c84, c85, c86, c87, c88, c89, c90, c91, c92, c93, c94, c95, c96, c97, c98, c99, c100, c101, c102, c103, c104, c105, c106, c107, c108, c109, c110, c111, c112, c113, c114, c115, c116, c117, c118, c119, c120, c121, c122, c123, c124, c125, c126, c127, c128, c129, c130, c131, c132, c133, c134, c135, c136, c137, c138, c139, u140, u141, u142, u143, u144, u145, u146, u147, u148, u149, u150, u151, u152, u153, u154, u155, u156, u157, u158, u159, u160, u161, u162, u163, u164, u165, u166, u167, u168, u169, u170, u171, u172, u173, u174, u175, u176, u177, u178, u179, u180, u181, u182, u183, u184, u185, u186, u187, u188, u189, u190, u191, u192, u193, u194, u195, u196, u197, u198, u199, u200, u201, u202, u203, u204, u205, u206, u207, u208, u209, u210, u211, u212, u213, u214, u215, u216, u217, u218, u219, u220, u221, u222, u223, u224, u225, u226, u227, u228, u229, u230, u231, u232, u233, u234, u235, u236, u237, u238, u239, u240, u241, u242, u243, u244, u245, u246, u247, u248, u249, u250, u251, u252, u253, u254, c255, c256, c257, c258, c259, c260, c261, c262, c263, c264, c265, c266, c267], []⟩ wr := by
  conv => arg 2; whnf
  have hz := bs_size (36 :: a :: x :: d :: t)
  have hmm := @run_makeMap Tryd.prog
  have hp0 := put_0 wr
  have hp1 := put_1 wr
  have hp2 := put_2 wr
  have hp3 := put_3 wr
  have hp4 := put_4 wr
  have hp5 := put_5 wr
  have hp6 := put_6 wr
  have HB := Lib.hid ((hb.alloc (Nat.le_of_lt hlb.lt) (cmap 7)))
  have ho2 : out ++ (36 :: a :: x :: d :: t) = OUT := by rw [← ho, Dm.tl_none (by simp [Dm.escStep, hv, h1, h2, hd])]
  have HO := Lib.hid ho2
  have hw := Lib.hid (lbString_calls b out (36 :: a :: x :: d :: t) _ (hlb.alloc (cmap 7)) (by have := congrArg List.length ho2; simp at this hl ⊢; omega))
  have n0 : (((36 : UInt8).toNat : Int) == 36) = true := rfl
  have i0 : (bs (36 :: a :: x :: d :: t))[0]'(by rw [hz]; simp) = 36 := rfl
  have i1 : (bs (36 :: a :: x :: d :: t))[1]'(by rw [hz]; simp) = a := rfl
  have i2 : (bs (36 :: a :: x :: d :: t))[2]'(by rw [hz]; simp) = x := rfl
  have i3 : (bs (36 :: a :: x :: d :: t))[3]'(by rw [hz]; simp) = d := rfl
  have ly0 : (0 : Int) < (t.length : Int) + 1 + 1 + 1 + 1 := by omega
  have lz0 : (0 : Int) < ((bs (36 :: a :: x :: d :: t)).size : Int) := by rw [hz]; simp <;> omega
  have ly2 : (2 : Int) < (t.length : Int) + 1 + 1 + 1 + 1 := by omega
  have lz2 : (2 : Int) < ((bs (36 :: a :: x :: d :: t)).size : Int) := by rw [hz]; simp <;> omega
  have ly3 : (3 : Int) < (t.length : Int) + 1 + 1 + 1 + 1 := by omega
  have lz3 : (3 : Int) < ((bs (36 :: a :: x :: d :: t)).size : Int) := by rw [hz]; simp <;> omega
  have n1 : ((a.toNat : Int) == 67) = false := u8_ne (d := 67) h1
  have n2 : ((a.toNat : Int) == 117) = false := u8_ne (d := 117) h2
  have n3 : ((d.toNat : Int) == 36) = true := u8_eq (d := 36) hd
  have hk : (bs (36 :: a :: x :: d :: t)).extract 1 3 = bs [a, x] := by rw [bs_extract_to]; rfl
  have rl : codeRes a x = .tuple #[.int .u8 0, .bool false] := by unfold codeRes; rw [hv]
  have hlk := look_code wr.heap.size (wr.alloc (cmap 7)) (heap_alloc_new wr _) a x
  clear hlb hb ho ho2 hl hv h1 h2 hd
  go_wp2_with (first | (go_at_call 73; refine hw.out.mono ?_; rintro e w1 ⟨⟨nn, rfl⟩, hlb1, hb1⟩))
  all_goals unfold EscX
  all_goals exact ⟨_, _, _, _, _, _, _, _, _, _, _, _, _, _, _, _, _, _, _, _, _, _, _, _, _, _, _, _, _, _, _, _, _, _, _, _, _, _, _, _, _, _, _, _, _, _, _, _, _, _, _, _, _, _, _, _, _, _, _, _, _, _, _, _, _, _, _, _, _, _, _, _, _, _, _, _, _, _, _, _, _, _, _, _, _, _, _, _, _, _, _, _, _, _, _, _, _, _, _, _, _, _, _, _, _, _, _, _, _, _, _, _, _, _, _, _, _, _, _, _, _, _, _, _, _, _, ⟨by have := HO.out; rwa [this] at hlb1, HB.out.trans hb1⟩, rfl⟩
set_option maxHeartbeats 4000000 in
set_option maxRecDepth 1000000 in
theorem esc_n1 (a x d : UInt8) (t out : List UInt8) (wr : World) (u18 u19 u20 u21 u22 u23 u24 u25 u26 u27 u140 u141 u142 u143 u144 u145 u146 u147 u148 u149 u150 u151 u152 u153 u154 u155 u156 u157 u158 u159 u160 u161 u162 u163 u164 u165 u166 u167 u168 u169 u170 u171 u172 u173 u174 u175 u176 u177 u178 u179 u180 u181 u182 u183 u184 u185 u186 u187 u188 u189 u190 u191 u192 u193 u194 u195 u196 u197 u198 u199 u200 u201 u202 u203 u204 u205 u206 u207 u208 u209 u210 u211 u212 u213 u214 u215 u216 u217 u218 u219 u220 u221 u222 u223 u224 u225 u226 u227 u228 u229 u230 u231 u232 u233 u234 u235 u236 u237 u238 u239 u240 u241 u242 u243 u244 u245 u246 u247 u248 u249 u250 u251 u252 u253 u254 : Value) (Q0 : Exit → Act → World → Prop) (h1 : a ≠ 67) (h2 : a ≠ 117) (hd : d ≠ 36) (hlb : LB b out wr) (hb : Below b w0 wr) (ho : out ++ Dm.tl (36 :: a :: x :: d :: t) = OUT) (hl : OUT.length + (36 :: a :: x :: d :: t).length ≤ 140737488355328) (hexit : ∀ a' w'', EscX b w0 OUT c0 c1 c2 c3 c4 c5 c6 c7 c8 c10 c11 c12 c13 c15 c16 c28 c29 c30 c31 c32 c33 c34 c35 c36 c37 c38 c39 c40 c41 c42 c43 c44 c45 c46 c47 c48 c49 c50 c51 c52 c53 c54 c55 c56 c57 c58 c59 c60 c61 c62 c63 c64 c65 c66 c67 c68 c69 c70 c71 c72 c73 c74 c75 c76 c77 c78 c79 c80 c81 c82 c83 c84 c85 c86 c87 c88 c89 c90 c91 c92 c93 c94 c95 c96 c97 c98 c99 c100 c101 c102 c103 c104 c105 c106 c107 c108 c109 c110 c111 c112 c113 c114 c115 c116 c117 c118 c119 c120 c121 c122 c123 c124 c125 c126 c127 c128 c129 c130 c131 c132 c133 c134 c135 c136 c137 c138 c139 c255 c256 c257 c258 c259 c260 c261 c262 c263 c264 c265 c266 c267 a' w'' → Q0 (.exit 8) a' w'') :
    Code.wp Tryd.prog escBody (Exit.then (fun a' w'' => EscI b w0 OUT c0 c1 c2 c3 c4 c5 c6 c7 c8 c10 c11 c12 c13 c15 c16 c28 c29 c30 c31 c32 c33 c34 c35 c36 c37 c38 c39 c40 c41 c42 c43 c44 c45 c46 c47 c48 c49 c50 c51 c52 c53 c54 c55 c56 c57 c58 c59 c60 c61 c62 c63 c64 c65 c66 c67 c68 c69 c70 c71 c72 c73 c74 c75 c76 c77 c78 c79 c80 c81 c82 c83 c84 c85 c86 c87 c88 c89 c90 c91 c92 c93 c94 c95 c96 c97 c98 c99 c100 c101 c102 c103 c104 c105 c106 c107 c108 c109 c110 c111 c112 c113 c114 c115 c116 c117 c118 c119 c120 c121 c122 c123 c124 c125 c126 c127 c128 c129 c130 c131 c132 c133 c134 c135 c136 c137 c138 c139 c255 c256 c257 c258 c259 c260 c261 c262 c263 c264 c265 c266 c267 a' w'' ∧ escMu a' < escMu ⟨#[c0, c1, c2, c3, c4, c5, c6, c7, c8, HF, c10, c11, c12, c13, .pointer (some ⟨b, 0, none⟩), c15, c16, .string (bs (36 :: a :: x :: d :: t)), u18, u19, u20, u21, u22, u23, u24, u25, u26, u27, c28, c29, c30, c31, c32, c33, c34, c35, c36, c37, c38, c39, c40, c41, c42, c43, c44, c45, c46, c47, c48, c49, c50, c51, c52, c53, c54, c55, c56, c57, c58, c59, c60, c61, c62, c63, c64, c65, c66, c67, c68, c69, c70, c71, c72, c73, c74, c75, c76, c77, c78, c79, c80, c81, c82, c83, c84, c85, c86, c87, c88, c89, c90, c91, c92, c93, c94, c95, c96, c97, c98, c99, c100, c101, c102, c103, c104, c105, c106, c107, c108, c109, c110, c111, c112, c113, c114, c115, c116, c117, c118, c119, c120, c121, c122, c123, c124, c125, c126, c127, c128, c129, c130, c131, c132, c133, c134, c135, c136, c137, c138, c139, u140, u141, u142, u143, u144, u145, u146, u147, u148, u149, u150, u151, u152, u153, u154, u155, u156, u157, u158, u159, u160, u161, u162, u163, u164, u165, u166, u167, u168, u169, u170, u171, u172, u173, u174, u175, u176, u177, u178, u179, u180, u181, u182, u183, u184, u185, u186, u187, u188, u189, u190, u191, u192, u193, u194, u195, u196, u197, u198, u199, u200, u201, u202, u203, u204, u205, u206, u207, u208, u209, u210, u211, u212, u213, u214, u215, u216, u217, u218, u219, u220, u221, u222, u223, u224, u225, u226, u227, u228, u229, u230, u231, u232, u233, u234, u235, u236, u237, u238, u239, u240, u241, u242, u243, u244, u245, u246, u247, u248, u249, u250, u251, u252, u253, u254, c255, c256, c257, c258, c259, c260, c261, c262, c263, c264, c265, c266, c267], []⟩) Q0) ⟨#[c0, c1, c2, c3, c4, c5, c6, c7, c8, HF, c10, c11, c12, c13, .pointer (some ⟨b, 0, none⟩), c15, c16, .string (bs (36 :: a :: x :: d :: t)), u18, u19, u20, u21, u22, u23, u24, u25, u26, u27, c28, c29, c30, c31, c32, c33, c34, c35, c36, c37, c38, c39, c40, c41, c42, c43, c44, c45, c46, c47, c48, c49, c50, c51, c52, c53, c54, c55, c56, c57, c58, c59, c60, c61, c62, c63, c64, c65, c66, c67, c68, c69, c70, c71, c72, c73, c74, c75, c76, c77, c78, c79, c80, c81, c82, c83, c84, c85, c86, c87, c88, c89, c90, c91, c92, c93, c94, c95, c96, c97, c98, c99, c100, c101, c102, c103, c104, c105, c106, c107, c108, c109, c110, c111, c112, c113, c114, c115, c116, c117, c118, c119, c120, c121, c122, c123, c124, c125, c126, c127, c128, c129, c130, c131, c132, c133, c134, c135, c136, c137, c138, c139, u140, u141, u142, u143, u144, u145, u146, u147, u148, u149, u150, u151, u152, u153, u154, u155, u156, u157, u158, u159, u160, u161, u162, u163, u164, u165, u166, u167, u168, u169, u170, u171, u172, u173, u174, u175, u176, u177, u178, u179, u180, u181, u182, u183, u184, u185, u186, u187, u188, u189, u190, u191, u192, u193, u194, u195, u196, u197, u198, u199, u200, u201, u202, u203, u204, u205, u206, u207, u208, u209, u210, u211, u212, u213, u214, u215, u216, u217, u218, u219, u220, u221, u222, u223, u224, u225, u226, u227, u228, u229, u230, u231, u232, u233, u234, u235, u236, u237, u238, u239, u240, u241, u242, u243, u244, u245, u246, u247, u248, u249, u250, u251, u252, u253, u254, c255, c256, c257, c258, c259, c260, c261, c262, c263, c264, c265, c266, c267], []⟩ wr := by
  conv => arg 2; whnf
  have hz := bs_size (36 :: a :: x :: d :: t)
  have hmm := @run_makeMap Tryd.prog
  have hp0 := put_0 wr
  have hp1 := put_1 wr
  have hp2 := put_2 wr
  have hp3 := put_3 wr
  have hp4 := put_4 wr
  have hp5 := put_5 wr
  have hp6 := put_6 wr
  have HB := Lib.hid ((hb.alloc (Nat.le_of_lt hlb.lt) (cmap 7)))
  have ho2 : out ++ (36 :: a :: x :: d :: t) = OUT := by rw [← ho, Dm.tl_none (by simp [Dm.escStep, h1, h2, hd])]
  have HO := Lib.hid ho2
  have hw := Lib.hid (lbString_calls b out (36 :: a :: x :: d :: t) _ (hlb.alloc (cmap 7)) (by have := congrArg List.length ho2; simp at this hl ⊢; omega))
  have n0 : (((36 : UInt8).toNat : Int) == 36) = true := rfl
  have i0 : (bs (36 :: a :: x :: d :: t))[0]'(by rw [hz]; simp) = 36 := rfl
  have i1 : (bs (36 :: a :: x :: d :: t))[1]'(by rw [hz]; simp) = a := rfl
  have i2 : (bs (36 :: a :: x :: d :: t))[2]'(by rw [hz]; simp) = x := rfl
  have i3 : (bs (36 :: a :: x :: d :: t))[3]'(by rw [hz]; simp) = d := rfl
  have ly0 : (0 : Int) < (t.length : Int) + 1 + 1 + 1 + 1 := by omega
  have lz0 : (0 : Int) < ((bs (36 :: a :: x :: d :: t)).size : Int) := by rw [hz]; simp <;> omega
  have ly2 : (2 : Int) < (t.length : Int) + 1 + 1 + 1 + 1 := by omega
  have lz2 : (2 : Int) < ((bs (36 :: a :: x :: d :: t)).size : Int) := by rw [hz]; simp <;> omega
  have ly3 : (3 : Int) < (t.length : Int) + 1 + 1 + 1 + 1 := by omega
  have lz3 : (3 : Int) < ((bs (36 :: a :: x :: d :: t)).size : Int) := by rw [hz]; simp <;> omega
  have n1 : ((a.toNat : Int) == 67) = false := u8_ne (d := 67) h1
  have n2 : ((a.toNat : Int) == 117) = false := u8_ne (d := 117) h2
  have n3 : ((d.toNat : Int) == 36) = false := u8_ne (d := 36) hd
  clear hlb hb ho ho2 hl h1 h2 hd
  go_wp2_with (first | (go_at_call 73; refine hw.out.mono ?_; rintro e w1 ⟨⟨nn, rfl⟩, hlb1, hb1⟩))
  all_goals unfold EscX
  all_goals exact ⟨_, _, _, _, _, _, _, _, _, _, _, _, _, _, _, _, _, _, _, _, _, _, _, _, _, _, _, _, _, _, _, _, _, _, _, _, _, _, _, _, _, _, _, _, _, _, _, _, _, _, _, _, _, _, _, _, _, _, _, _, _, _, _, _, _, _, _, _, _, _, _, _, _, _, _, _, _, _, _, _, _, _, _, _, _, _, _, _, _, _, _, _, _, _, _, _, _, _, _, _, _, _, _, _, _, _, _, _, _, _, _, _, _, _, _, _, _, _, _, _, _, _, _, _, _, _, ⟨by have := HO.out; rwa [this] at hlb1, HB.out.trans hb1⟩, rfl⟩
end
end Go.Proofs.YtpmlnhddkbgefaaDoor
namespace Go.Proofs.YtpmlnhddkbgefaaDoor
set_option linter.unusedVariables false
set_option linter.unusedSimpArgs false
open Go.RowKit
section
variable {b : Nat} {w0 : World} {OUT : List UInt8} {c0 c1 c2 c3 c4 c5 c6 c7 c8 c10 c11 c12 c13 c15 c16 c28 c29 c30 c31 c32 c33 c34 c35 c36 c37 c38 c39 c40 c41 c42 c43 c44 c45 c46 c47 c48 c49 c50 c51 c52 c53 c54 c55 c56 c57 c58 c59 c60 c61 c62 c63 c64 c65 c66 c67 c68 c69 c70 c71 c72 c73 c74 c75 c76 c77 c78 c79 c80 c81 c82 c83 c84 c85 c86 c87 c88 c89 c90 c91 c92 c93 c94 c95 c96 c97 c98 c99 c100 c101 c102 c103 c104 c105 c106 c107 c108 c109 c110 c111 c112 c113 c114 c115 c116 c117 c118 c119 c120 c121 c122 c123 c124 c125 c126 c127 c128 c129 c130 c131 c132 c133 c134 c135 c136 c137 c138 c139 c255 c256 c257 c258 c259 c260 c261 c262 c263 c264 c265 c266 c267 : Value}
set_option maxHeartbeats 4000000 in
set_option maxRecDepth 1000000 in
theorem esc_b2 (a x d : UInt8) (t out : List UInt8) (wr : World) (u18 u19 u20 u21 u22 u23 u24 u25 u26 u27 u140 u141 u142 u143 u144 u145 u146 u147 u148 u149 u150 u151 u152 u153 u154 u155 u156 u157 u158 u159 u160 u161 u162 u163 u164 u165 u166 u167 u168 u169 u170 u171 u172 u173 u174 u175 u176 u177 u178 u179 u180 u181 u182 u183 u184 u185 u186 u187 u188 u189 u190 u191 u192 u193 u194 u195 u196 u197 u198 u199 u200 u201 u202 u203 u204 u205 u206 u207 u208 u209 u210 u211 u212 u213 u214 u215 u216 u217 u218 u219 u220 u221 u222 u223 u224 u225 u226 u227 u228 u229 u230 u231 u232 u233 u234 u235 u236 u237 u238 u239 u240 u241 u242 u243 u244 u245 u246 u247 u248 u249 u250 u251 u252 u253 u254 : Value) (Q0 : Exit → Act → World → Prop) (hv : Dm.code2 a x = none) (h1 : a = 67) (h2 : x ≠ 36) (hd : d = 36) (hlb : LB b out wr) (hb : Below b w0 wr) (ho : out ++ Dm.tl (36 :: a :: x :: d :: t) = OUT) (hl : OUT.length + (36 :: a :: x :: d :: t).length ≤ 140737488355328) (hexit : ∀ a' w'', EscX b w0 OUT c0 c1 c2 c3 c4 c5 c6 c7 c8 c10 c11 c12 c13 c15 c16 c28 c29 c30 c31 c32 c33 c34 c35 c36 c37 c38 c39 c40 c41 c42 c43 c44 c45 c46 c47 c48 c49 c50 c51 c52 c53 c54 c55 c56 c57 c58 c59 c60 c61 c62 c63 c64 c65 c66 c67 c68 c69 c70 c71 c72 c73 c74 c75 c76 c77 c78 c79 c80 c81 c82 c83 c84 c85 c86 c87 c88 c89 c90 c91 c92 c93 c94 c95 c96 c97 c98 c99 c100 c101 c102 c103 c104 c105 c106 c107 c108 c109 c110 c111 c112 c113 c114 c115 c116 c117 c118 c119 c120 c121 c122 c123 c124 c125 c126 c127 c128 c129 c130 c131 c132 c133 c134 c135 c136 c137 c138 c139 c255 c256 c257 c258 c259 c260 c261 c262 c263 c264 c265 c266 c267 a' w'' → Q0 (.exit 8) a' w'') :
    Code.wp Tryd.prog escBody (Exit.then (fun a' w'' => EscI b w0 OUT c0 c1 c2 c3 c4 c5 c6 c7 c8 c10 c11 c12 c13 c15 c16 c28 c29 c30 c31 c32 c33 c34 c35 c36 c37 c38 c39 c40 c41 c42 c43 c44 c45 c46 c47 c48 c49 c50 c51 c52 c53 c54 c55 c56 c57 c58 c59 c60 c61 c62 c63 c64 c65 c66 c67 c68 c69 c70 c71 c72 c73 c74 c75 c76 c77 c78 c79 c80 c81 c82 c83 c84 c85 c86 c87 c88 c89 c90 c91 c92 c93 c94 c95 c96 c97 c98 c99 c100 c101 c102 c103 c104 c105 c106 c107 c108 c109 c110 c111 c112 c113 c114 c115 c116 c117 c118 c119 c120 c121 c122 c123 c124 c125 c126 c127 c128 c129 c130 c131 c132 c133 c134 c135 c136 c137 c138 c139 c255 c256 c257 c258 c259 c260 c261 c262 c263 c264 c265 c266 c267 a' w'' ∧ escMu a' < escMu ⟨#[c0, c1, c2, c3, c4, c5, c6, c7, c8, HF, c10, c11, c12, c13, .pointer (some ⟨b, 0, none⟩), c15, c16, .string (bs (36 :: a :: x :: d :: t)), u18, u19, u20, u21, u22, u23, u24, u25, u26, u27, c28, c29, c30, c31, c32, c33, c34, c35, c36, c37, c38, c39, c40, c41, c42, c43, c44, c45, c46, c47, c48, c49, c50, c51, c52, c53, c54, c55, c56, c57, c58, c59, c60, c61, c62, c63, c64, c65, c66, c67, c68, c69, c70, c71, c72, c73, c74, c75, c76, c77, c78, c79, c80, c81, c82, c83, c84, c85, c86, c87, c88, c89, c90, c91, c92, c93, c94, c95, c96, c97, c98, c99, c100, c101, c102, c103, c104, c105, c106, c107, c108, c109, c110, c111, c112, c113, c114, c115, c116, c117, c118, c119, c120, c121, c122, c123, c124, c125, c126, c127, c128, c129, c130, c131, c132, c133, c134, c135, c136, c137, c138, c139, u140, u141, u142, u143, u144, u145, u146, u147, u148, u149, u150, u151, u152, u153, u154, u155, u156, u157, u158, u159, u160, u161, u162, u163, u164, u165, u166, u167, u168, u169, u170, u171, u172, u173, u174, u175, u176, u177, u178, u179, u180, u181, u182, u183, u184, u185, u186, u187, u188, u189, u190, u191, u192, u193, u194, u195, u196, u197, u198, u199, u200, u201, u202, u203, u204, u205, u206, u207, u208, u209, u210, u211, u212, u213, u214, u215, u216, u217, u218, u219, u220, u221, u222, u223, u224, u225, u226, u227, u228, u229, u230, u231, u232, u233, u234, u235, u236, u237, u238, u239, u240, u241, u242, u243, u244, u245, u246, u247, u248, u249, u250, u251, u252, u253, u254, c255, c256, c257, c258, c259, c260, c261, c262, c263, c264, c265, c266, c267], []⟩) Q0) ⟨#[c0, c1, c2, c3, c4, c5, c6, c7, c8, HF, c10, c11, c12, c13, .pointer (some ⟨b, 0, none⟩), c15, c16, .string (bs (36 :: a :: x :: d :: t)), u18, u19, u20, u21, u22, u23, u24, u25, u26, u27, c28, c29, c30, c31, c32, c33, c34, c35, c36, c37, c38, c39, c40, c41, c42, c43, c44, c45, c46, c47, c48, c49, c50, c51, c52, c53, c54, c55, c56, c57, c58, c59, c60, c61, c62, c63, c64, c65, c66, c67, c68, c69, c70, c71, c72, c73, c74, c75, c76, c77, c78, c79, c80, c81, c82, c83, c84, c85, c86, c87, c88, c89, c90, c91, c92, c93, c94, c95, c96, c97, c98, c99, c100, c101, c102, c103, c104, c105, c106, c107, c108, c109, c110, c111, c112, c113, c114, c115, c116, c117, c118, c119, c120, c121, c122, c123, c124, c125, c126, c127, c128, c129, c130, c131, c132, c133, c134, c135, c136, c137, c138, c139, u140, u141, u142, u143, u144, u145, u146, u147, u148, u149, u150, u151, u152, u153, u154, u155, u156, u157, u158, u159, u160, u161, u162, u163, u164, u165, u166, u167, u168, u169, u170, u171, u172, u173, u174, u175, u176, u177, u178, u179, u180, u181, u182, u183, u184, u185, u186, u187, u188, u189, u190, u191, u192, u193, u194, u195, u196, u197, u198, u199, u200, u201, u202, u203, u204, u205, u206, u207, u208, u209, u210, u211, u212, u213, u214, u215, u216, u217, u218, u219, u220, u221, u222, u223, u224, u225, u226, u227, u228, u229, u230, u231, u232, u233, u234, u235, u236, u237, u238, u239, u240, u241, u242, u243, u244, u245, u246, u247, u248, u249, u250, u251, u252, u253, u254, c255, c256, c257, c258, c259, c260, c261, c262, c263, c264, c265, c266, c267], []⟩ wr := by
  conv => arg 2; whnf
  have hz := bs_size (36 :: a :: x :: d :: t)
  have hmm := @run_makeMap Tryd.prog
  have hp0 := put_0 wr
  have hp1 := put_1 wr
  have hp2 := put_2 wr
  have hp3 := put_3 wr
  have hp4 := put_4 wr
  have hp5 := put_5 wr
  have hp6 := put_6 wr
  have HB := Lib.hid ((hb.alloc (Nat.le_of_lt hlb.lt) (cmap 7)))
  have ho2 : out ++ (36 :: a :: x :: d :: t) = OUT := by rw [← ho, Dm.tl_none (by simp [Dm.escStep, hv, h1, h2, hd, code2_67])]
  have HO := Lib.hid ho2
  have hw := Lib.hid (lbString_calls b out (36 :: a :: x :: d :: t) _ (hlb.alloc (cmap 7)) (by have := congrArg List.length ho2; simp at this hl ⊢; omega))
  have n0 : (((36 : UInt8).toNat : Int) == 36) = true := rfl
  have i0 : (bs (36 :: a :: x :: d :: t))[0]'(by rw [hz]; simp) = 36 := rfl
  have i1 : (bs (36 :: a :: x :: d :: t))[1]'(by rw [hz]; simp) = a := rfl
  have i2 : (bs (36 :: a :: x :: d :: t))[2]'(by rw [hz]; simp) = x := rfl
  have i3 : (bs (36 :: a :: x :: d :: t))[3]'(by rw [hz]; simp) = d := rfl
  have ly0 : (0 : Int) < (t.length : Int) + 1 + 1 + 1 + 1 := by omega
  have lz0 : (0 : Int) < ((bs (36 :: a :: x :: d :: t)).size : Int) := by rw [hz]; simp <;> omega
  have ly2 : (2 : Int) < (t.length : Int) + 1 + 1 + 1 + 1 := by omega
  have lz2 : (2 : Int) < ((bs (36 :: a :: x :: d :: t)).size : Int) := by rw [hz]; simp <;> omega
  have ly3 : (3 : Int) < (t.length : Int) + 1 + 1 + 1 + 1 := by omega
  have lz3 : (3 : Int) < ((bs (36 :: a :: x :: d :: t)).size : Int) := by rw [hz]; simp <;> omega
  have n1 : ((a.toNat : Int) == 67) = true := u8_eq (d := 67) h1
  have n2 : ((x.toNat : Int) == 36) = false := u8_ne (d := 36) h2
  have n2b : ((a.toNat : Int) == 117) = false := u8_ne (d := 117) (by rw [h1]; decide)
  have n3 : ((d.toNat : Int) == 36) = true := u8_eq (d := 36) hd
  have hk : (bs (36 :: a :: x :: d :: t)).extract 1 3 = bs [a, x] := by rw [bs_extract_to]; rfl
  have rl : codeRes a x = .tuple #[.int .u8 0, .bool false] := by unfold codeRes; rw [hv]
  have hlk := look_code wr.heap.size (wr.alloc (cmap 7)) (heap_alloc_new wr _) a x
  clear hlb hb ho ho2 hl hv h1 h2 hd
  go_wp2_with (first | (go_at_call 73; refine hw.out.mono ?_; rintro e w1 ⟨⟨nn, rfl⟩, hlb1, hb1⟩))
  all_goals unfold EscX
  all_goals exact ⟨_, _, _, _, _, _, _, _, _, _, _, _, _, _, _, _, _, _, _, _, _, _, _, _, _, _, _, _, _, _, _, _, _, _, _, _, _, _, _, _, _, _, _, _, _, _, _, _, _, _, _, _, _, _, _, _, _, _, _, _, _, _, _, _, _, _, _, _, _, _, _, _, _, _, _, _, _, _, _, _, _, _, _, _, _, _, _, _, _, _, _, _, _, _, _, _, _, _, _, _, _, _, _, _, _, _, _, _, _, _, _, _, _, _, _, _, _, _, _, _, _, _, _, _, _, _, ⟨by have := HO.out; rwa [this] at hlb1, HB.out.trans hb1⟩, rfl⟩
set_option maxHeartbeats 4000000 in
set_option maxRecDepth 1000000 in
theorem esc_n2 (a x d : UInt8) (t out : List UInt8) (wr : World) (u18 u19 u20 u21 u22 u23 u24 u25 u26 u27 u140 u141 u142 u143 u144 u145 u146 u147 u148 u149 u150 u151 u152 u153 u154 u155 u156 u157 u158 u159 u160 u161 u162 u163 u164 u165 u166 u167 u168 u169 u170 u171 u172 u173 u174 u175 u176 u177 u178 u179 u180 u181 u182 u183 u184 u185 u186 u187 u188 u189 u190 u191 u192 u193 u194 u195 u196 u197 u198 u199 u200 u201 u202 u203 u204 u205 u206 u207 u208 u209 u210 u211 u212 u213 u214 u215 u216 u217 u218 u219 u220 u221 u222 u223 u224 u225 u226 u227 u228 u229 u230 u231 u232 u233 u234 u235 u236 u237 u238 u239 u240 u241 u242 u243 u244 u245 u246 u247 u248 u249 u250 u251 u252 u253 u254 : Value) (Q0 : Exit → Act → World → Prop) (h1 : a = 67) (h2 : x ≠ 36) (hd : d ≠ 36) (hlb : LB b out wr) (hb : Below b w0 wr) (ho : out ++ Dm.tl (36 :: a :: x :: d :: t) = OUT) (hl : OUT.length + (36 :: a :: x :: d :: t).length ≤ 140737488355328) (hexit : ∀ a' w'', EscX b w0 OUT c0 c1 c2 c3 c4 c5 c6 c7 c8 c10 c11 c12 c13 c15 c16 c28 c29 c30 c31 c32 c33 c34 c35 c36 c37 c38 c39 c40 c41 c42 c43 c44 c45 c46 c47 c48 c49 c50 c51 c52 c53 c54 c55 c56 c57 c58 c59 c60 c61 c62 c63 c64 c65 c66 c67 c68 c69 c70 c71 c72 c73 c74 c75 c76 c77 c78 c79 c80 c81 c82 c83 c84 c85 c86 c87 c88 c89 c90 c91 c92 c93 c94 c95 c96 c97 c98 c99 c100 c101 c102 c103 c104 c105 c106 c107 c108 c109 c110 c111 c112 c113 c114 c115 c116 c117 c118 c119 c120 c121 c122 c123 c124 c125 c126 c127 c128 c129 c130 c131 c132 c133 c134 c135 c136 c137 c138 c139 c255 c256 c257 c258 c259 c260 c261 c262 c263 c264 c265 c266 c267 a' w'' → Q0 (.exit 8) a' w'') :
    Code.wp Tryd.prog escBody (Exit.then (fun a' w'' => EscI b w0 OUT c0 c1 c2 c3 c4 c5 c6 c7 c8 c10 c11 c12 c13 c15 c16 c28 c29 c30 c31 c32 c33 c34 c35 c36 c37 c38 c39 c40 c41 c42 c43 c44 c45 c46 c47 c48 c49 c50 c51 c52 c53 c54 c55 c56 c57 c58 c59 c60 c61 c62 c63 c64 c65 c66 c67 c68 c69 c70 c71 c72 c73 c74 c75 c76 c77 c78 c79 c80 c81 c82 c83 c84 c85 c86 c87 c88 c89 c90 c91 c92 c93 c94 c95 c96 c97 c98 c99 c100 c101 c102 c103 c104 c105 c106 c107 c108 c109 c110 c111 c112 c113 c114 c115 c116 c117 c118 c119 c120 c121 c122 c123 c124 c125 c126 c127 c128 c129 c130 c131 c132 c133 c134 c135 c136 c137 c138 c139 c255 c256 c257 c258 c259 c260 c261 c262 c263 c264 c265 c266 c267 a' w'' ∧ escMu a' < escMu ⟨#[c0, c1, c2, c3, c4, c5, c6, c7, c8, HF, c10, c11, c12, c13, .pointer (some ⟨b, 0, none⟩), c15, c16, .string (bs (36 :: a :: x :: d :: t)), u18, u19, u20, u21, u22, u23, u24, u25, u26, u27, c28, c29, c30, c31, c32, c33, c34, c35, c36, c37, c38, c39, c40, c41, c42, c43, c44, c45, c46, c47, c48, c49, c50, c51, c52, c53, c54, c55, c56, c57, c58, c59, c60, c61, c62, c63, c64, c65, c66, c67, c68, c69, c70, c71, c72, c73, c74, c75, c76, c77, c78, c79, c80, c81, c82, c83, c84, c85, c86, c87, c88, c89, c90, c91, c92, c93, c94, c95, c96, c97, c98, c99, c100, c101, c102, c103, c104, c105, c106, c107, c108, c109, c110, c111, c112, c113, c114, c115, c116, c117, c118, c119, c120, c121, c122, c123, c124, c125, c126, c127, c128, c129, c130, c131, c132, c133, c134, c135, c136, c137, c138, c139, u140, u141, u142, u143, u144, u145, u146, u147, u148, u149, u150, u151, u152, u153, u154, u155, u156, u157, u158, u159, u160, u161, u162, u163, u164, u165, u166, u167, u168, u169, u170, u171, u172, u173, u174, u175, u176, u177, u178, u179, u180, u181, u182, u183, u184, u185, u186, u187, u188, u189, u190, u191, u192, u193, u194, u195, u196, u197, u198, u199, u200, u201, u202, u203, u204, u205, u206, u207, u208, u209, u210, u211, u212, u213, u214, u215, u216, u217, u218, u219, u220, u221, u222, u223, u224, u225, u226, u227, u228, u229, u230, u231, u232, u233, u234, u235, u236, u237, u238, u239, u240, u241, u242, u243, u244, u245, u246, u247, u248, u249, u250, u251, u252, u253, u254, c255, c256, c257, c258, c259, c260, c261, c262, c263, c264, c265, c266, c267], []⟩) Q0) ⟨#[c0, c1, c2, c3, c4, c5, c6, c7, c8, HF, c10, c11, c12, c13, .pointer (some ⟨b, 0, none⟩), c15, c16, .string (bs (36 :: a :: x :: d :: t)), u18, u19, u20, u21, u22, u23, u24, u25, u26, u27, c28, c29, c30, c31, c32, c33, c34, c35, c36, c37, c38, c39, c40, c41, c42, c43, c44, c45, c46, c47, c48, c49, c50, c51, c52, c53, c54, c55, c56, c57, c58, c59, c60, c61, c62, c63, c64, c65, c66, c67, c68, c69, c70, c71, c72, c73, c74, c75, c76, c77, c78, c79, c80, c81, c82, c83, c84, c85, c86, c87, c88, c89, c90, c91, c92, c93, c94, c95, c96, c97, c98, c99, c100, c101, c102, c103, c104, c105, c106, c107, c108, c109, c110, c111, c112, c113, c114, c115, c116, c117, c118, c119, c120, c121, c122, c123, c124, c125, c126, c127, c128, c129, c130, c131, c132, c133, c134, c135, c136, c137, c138, c139, u140, u141, u142, u143, u144, u145, u146, u147, u148, u149, u150, u151, u152, u153, u154, u155, u156, u157, u158, u159, u160, u161, u162, u163, u164, u165, u166, u167, u168, u169, u170, u171, u172, u173, u174, u175, u176, u177, u178, u179, u180, u181, u182, u183, u184, u185, u186, u187, u188, u189, u190, u191, u192, u193, u194, u195, u196, u197, u198, u199, u200, u201, u202, u203, u204, u205, u206, u207, u208, u209, u210, u211, u212, u213, u214, u215, u216, u217, u218, u219, u220, u221, u222, u223, u224, u225, u226, u227, u228, u229, u230, u231, u232, u233, u234, u235, u236, u237, u238, u239, u240, u241, u242, u243, u244, u245, u246, u247, u248, u249, u250, u251, u252, u253, u254, c255, c256, c257, c258, c259, c260, c261, c262, c263, c264, c265, c266, c267], []⟩ wr := by
  conv => arg 2; whnf
  have hz := bs_size (36 :: a :: x :: d :: t)
  have hmm := @run_makeMap Tryd.prog
  have hp0 := put_0 wr
  have hp1 := put_1 wr
  have hp2 := put_2 wr
  have hp3 := put_3 wr
  have hp4 := put_4 wr
  have hp5 := put_5 wr
  have hp6 := put_6 wr
  have HB := Lib.hid ((hb.alloc (Nat.le_of_lt hlb.lt) (cmap 7)))
  have ho2 : out ++ (36 :: a :: x :: d :: t) = OUT := by rw [← ho, Dm.tl_none (by simp [Dm.escStep, h1, h2, hd])]
  have HO := Lib.hid ho2
  have hw := Lib.hid (lbString_calls b out (36 :: a :: x :: d :: t) _ (hlb.alloc (cmap 7)) (by have := congrArg List.length ho2; simp at this hl ⊢; omega))
  have n0 : (((36 : UInt8).toNat : Int) == 36) = true := rfl
  have i0 : (bs (36 :: a :: x :: d :: t))[0]'(by rw [hz]; simp) = 36 := rfl
  have i1 : (bs (36 :: a :: x :: d :: t))[1]'(by rw [hz]; simp) = a := rfl
  have i2 : (bs (36 :: a :: x :: d :: t))[2]'(by rw [hz]; simp) = x := rfl
  have i3 : (bs (36 :: a :: x :: d :: t))[3]'(by rw [hz]; simp) = d := rfl
  have ly0 : (0 : Int) < (t.length : Int) + 1 + 1 + 1 + 1 := by omega
  have lz0 : (0 : Int) < ((bs (36 :: a :: x :: d :: t)).size : Int) := by rw [hz]; simp <;> omega
  have ly2 : (2 : Int) < (t.length : Int) + 1 + 1 + 1 + 1 := by omega
  have lz2 : (2 : Int) < ((bs (36 :: a :: x :: d :: t)).size : Int) := by rw [hz]; simp <;> omega
  have ly3 : (3 : Int) < (t.length : Int) + 1 + 1 + 1 + 1 := by omega
  have lz3 : (3 : Int) < ((bs (36 :: a :: x :: d :: t)).size : Int) := by rw [hz]; simp <;> omega
  have n1 : ((a.toNat : Int) == 67) = true := u8_eq (d := 67) h1
  have n2 : ((x.toNat : Int) == 36) = false := u8_ne (d := 36) h2
  have n2b : ((a.toNat : Int) == 117) = false := u8_ne (d := 117) (by rw [h1]; decide)
  have n3 : ((d.toNat : Int) == 36) = false := u8_ne (d := 36) hd
  clear hlb hb ho ho2 hl h1 h2 hd
  go_wp2_with (first | (go_at_call 73; refine hw.out.mono ?_; rintro e w1 ⟨⟨nn, rfl⟩, hlb1, hb1⟩))
  all_goals unfold EscX
  all_goals exact ⟨_, _, _, _, _, _, _, _, _, _, _, _, _, _, _, _, _, _, _, _, _, _, _, _, _, _, _, _, _, _, _, _, _, _, _, _, _, _, _, _, _, _, _, _, _, _, _, _, _, _, _, _, _, _, _, _, _, _, _, _, _, _, _, _, _, _, _, _, _, _, _, _, _, _, _, _, _, _, _, _, _, _, _, _, _, _, _, _, _, _, _, _, _, _, _, _, _, _, _, _, _, _, _, _, _, _, _, _, _, _, _, _, _, _, _, _, _, _, _, _, _, _, _, _, _, _, ⟨by have := HO.out; rwa [this] at hlb1, HB.out.trans hb1⟩, rfl⟩
end
end Go.Proofs.YtpmlnhddkbgefaaDoor
