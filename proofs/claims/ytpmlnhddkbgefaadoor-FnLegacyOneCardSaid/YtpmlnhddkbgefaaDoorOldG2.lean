/- oldRustToString's loop over the names: a round that reads a number. Printed by tools/gold5.py. -/
import Derived.Test.YtpmlnhddkbgefaaDoorN5
namespace Go.Proofs.YtpmlnhddkbgefaaDoor
set_option linter.unusedVariables false
set_option linter.unusedSimpArgs false
open Go.RowKit
section
variable {b : Nat} {w0 : World} {mx : Int} {X : Dm.LR} {c1 c2 c3 c4 c5 c7 c8 c10 c11 c12 c13 c28 c29 c30 c31 c32 c33 c34 c35 c36 c37 c38 c39 c40 c41 c42 c43 c44 c45 c46 c47 c48 c49 c50 c51 c52 c53 c54 c55 c56 c57 c58 c59 c60 c61 c62 c63 c64 c65 c66 c67 c68 c69 c70 c71 c72 c73 c255 c256 c257 c258 c259 c260 c261 c262 c263 c264 c265 c266 c267 : Value}

set_option maxHeartbeats 8000000 in
set_option maxRecDepth 1000000 in
theorem main_short2 (c : UInt8) (r out q : List UInt8) (v : Int) (wr : World) (u15 u16 u17 u18 u19 u20 u21 u22 u23 u24 u25 u26 u27 u74 u75 u76 u77 u78 u79 u80 u81 u82 u83 u84 u85 u86 u87 u88 u89 u90 u91 u92 u93 u94 u95 u96 u97 u98 u99 u100 u101 u102 u103 u104 u105 u106 u107 u108 u109 u110 u111 u112 u113 u114 u115 u116 u117 u118 u119 u120 u121 u122 u123 u124 u125 u126 u127 u128 u129 u130 u131 u132 u133 u134 u135 u136 u137 u138 u139 u140 u141 u142 u143 u144 u145 u146 u147 u148 u149 u150 u151 u152 u153 u154 u155 u156 u157 u158 u159 u160 u161 u162 u163 u164 u165 u166 u167 u168 u169 u170 u171 u172 u173 u174 u175 u176 u177 u178 u179 u180 u181 u182 u183 u184 u185 u186 u187 u188 u189 u190 u191 u192 u193 u194 u195 u196 u197 u198 u199 u200 u201 u202 u203 u204 u205 u206 u207 u208 u209 u210 u211 u212 u213 u214 u215 u216 u217 u218 u219 u220 u221 u222 u223 u224 u225 u226 u227 u228 u229 u230 u231 u232 u233 u234 u235 u236 u237 u238 u239 u240 u241 u242 u243 u244 u245 u246 u247 u248 u249 u250 u251 u252 u253 u254 : Value) (Q0 : Exit → Act → World → Prop) (h : MainR b w0 mx X (c :: r) out wr) (hm : mx ≤ 0 ∨ (0 < mx ∧ ¬ mx < (out.length : Int))) (hd : Dm.isDig c = true) (hx : Dm.dec 0 (c :: r) = some (v, q)) (l2 : List UInt8) (v2 : Int) (hl2 : Dm.usl q = l2) (hve : v - 1 = v2) (hq : q.head? = some 95) (hs : (l2.length : Int) < v2) (hret : ∀ a' w'', MainB b w0 mx X c1 c2 c3 c4 c5 c7 c8 c10 c11 c12 c13 c28 c29 c30 c31 c32 c33 c34 c35 c36 c37 c38 c39 c40 c41 c42 c43 c44 c45 c46 c47 c48 c49 c50 c51 c52 c53 c54 c55 c56 c57 c58 c59 c60 c61 c62 c63 c64 c65 c66 c67 c68 c69 c70 c71 c72 c73 c255 c256 c257 c258 c259 c260 c261 c262 c263 c264 c265 c266 c267 a' w'' → Q0 .ret a' w'') (NX : Act → World → Prop) :
    Code.wp Tryd.prog mainBody (Exit.then NX Q0) ⟨#[.string (bs (c :: r)), c1, c2, c3, c4, c5, .int .i64 mx, c7, c8, HF, c10, c11, c12, c13, .pointer (some ⟨b, 0, none⟩), u15, u16, u17, u18, u19, u20, u21, u22, u23, u24, u25, u26, u27, c28, c29, c30, c31, c32, c33, c34, c35, c36, c37, c38, c39, c40, c41, c42, c43, c44, c45, c46, c47, c48, c49, c50, c51, c52, c53, c54, c55, c56, c57, c58, c59, c60, c61, c62, c63, c64, c65, c66, c67, c68, c69, c70, c71, c72, c73, u74, u75, u76, u77, u78, u79, u80, u81, u82, u83, u84, u85, u86, u87, u88, u89, u90, u91, u92, u93, u94, u95, u96, u97, u98, u99, u100, u101, u102, u103, u104, u105, u106, u107, u108, u109, u110, u111, u112, u113, u114, u115, u116, u117, u118, u119, u120, u121, u122, u123, u124, u125, u126, u127, u128, u129, u130, u131, u132, u133, u134, u135, u136, u137, u138, u139, u140, u141, u142, u143, u144, u145, u146, u147, u148, u149, u150, u151, u152, u153, u154, u155, u156, u157, u158, u159, u160, u161, u162, u163, u164, u165, u166, u167, u168, u169, u170, u171, u172, u173, u174, u175, u176, u177, u178, u179, u180, u181, u182, u183, u184, u185, u186, u187, u188, u189, u190, u191, u192, u193, u194, u195, u196, u197, u198, u199, u200, u201, u202, u203, u204, u205, u206, u207, u208, u209, u210, u211, u212, u213, u214, u215, u216, u217, u218, u219, u220, u221, u222, u223, u224, u225, u226, u227, u228, u229, u230, u231, u232, u233, u234, u235, u236, u237, u238, u239, u240, u241, u242, u243, u244, u245, u246, u247, u248, u249, u250, u251, u252, u253, u254, c255, c256, c257, c258, c259, c260, c261, c262, c263, c264, c265, c266, c267], []⟩ wr := by
  obtain ⟨hlb, hb, ⟨k, hk, hkl⟩, hl⟩ := h
  obtain ⟨hql, hv0, hv1⟩ := Dm.dec_first hd hx
  have hv2 : (if q.head? = some 95 then v - 1 else v) = v2 := by rw [hq, if_pos rfl]; exact hve
  have hq0 : 0 < (bs q).size := by rw [bs_size]; cases q with | nil => cases hq | cons y q => simp
  have iq0 : (bs q)[0]'hq0 = 95 := by cases q with | nil => cases hq | cons y q => exact Option.some.inj hq
  have lqz : (0 : Int) < ((bs q).size : Int) := by omega
  have lq : (0 : Int) < (q.length : Int) := by rw [← bs_size]; omega
  have lq1 : 1 ≤ q.length := by omega
  have lq1i : (1 : Int) ≤ (q.length : Int) := by omega
  have hxq : (bs q).extract 1 q.length = bs l2 := by cases q with | nil => cases hq | cons y q => (injection hq with hq; subst hq; rw [← hl2]; have := bs_extract (95 :: q) 1; rw [this]; rfl)
  have hwv : IntKind.i64.wrap (v - 1) = v2 := by rw [IntWalk.i64_in _ (by omega)]; exact hve
  obtain ⟨k, rfl⟩ : ∃ m, k = m + 1 := ⟨k - 1, by simp at hkl; omega⟩
  rw [lg_step hm hd hx, hv2, hl2] at hk
  have HLN := Lib.hid (show (c :: r).length ≤ 4611686018427387904 by omega)
  have HDEC := Lib.hid hx
  have hzq := bs_size q
  have hzq2 := bs_size l2
  have hz := bs_size (c :: r)
  have i0 : (bs (c :: r))[0]'(by rw [hz]; simp) = c := rfl
  have lz0 : (0 : Int) < ((bs (c :: r)).size : Int) := by rw [hz]; simp <;> omega
  have ly0 : (0 : Int) < (r.length : Int) + 1 := by omega
  have HLEN := Lib.hid (lbLen_calls b out wr hlb)
  have HDC : Hid (∀ w, Calls Tryd.prog 92 #[.int .u8 c.toNat] w fun e w' => e = .returned (.bool true) ∧ w = w') := Lib.hid (fun w => by have h_ := isDigit_calls (c.toNat : Int) w; rw [show (decide (48 ≤ (c.toNat : Int)) && decide ((c.toNat : Int) ≤ 57)) = true from hd] at h_; exact h_)
  have hmc : (¬ 0 < mx) ∨ (0 < mx ∧ ¬ mx < (out.length : Int)) := by omega
  have HB := Lib.hid hb
  rw [if_neg (by omega), if_pos hs] at hk
  have HX := Lib.hid hk.symm
  clear hlb hb hk hkl hl hd hx hm hql hv2 hq hl2 hve
  rcases hmc with hm3 | ⟨hm3, hm4⟩
  all_goals conv => arg 2; whnf
  all_goals
    go_wp2_with fail
    go_step3
    go_wp2_with (first | (go_at_call 91; refine HLEN.out.mono ?_; rintro e wx ⟨rfl, rfl⟩) | (go_at_call 92; refine (HDC.out _).mono ?_; rintro e wx ⟨rfl, rfl⟩))
    refine dig_loop (c :: r) 0 _ _ _ _ _ _ _ _ _ _ _ _ _ _ _ _ _ _ _ _ _ _ _ _ _ HDEC.out (by decide) (by decide) HLN.out ?_ (fun a' w'' hX => (digB_some hX).elim)
    intro a' w'' hX
    unfold DigX at hX
    obtain ⟨v16, hX⟩ := hX
    obtain ⟨v88, hX⟩ := hX
    obtain ⟨v89, hX⟩ := hX
    obtain ⟨v90, hX⟩ := hX
    obtain ⟨v91, hX⟩ := hX
    obtain ⟨v92, hX⟩ := hX
    obtain ⟨v93, hX⟩ := hX
    obtain ⟨v94, hX⟩ := hX
    obtain ⟨v95, hX⟩ := hX
    obtain ⟨v96, hX⟩ := hX
    obtain ⟨v97, hX⟩ := hX
    obtain ⟨v98, hX⟩ := hX
    obtain ⟨v99, hX⟩ := hX
    obtain ⟨v100, hX⟩ := hX
    obtain ⟨v101, hX⟩ := hX
    obtain ⟨v102, hX⟩ := hX
    obtain ⟨v103, hX⟩ := hX
    obtain ⟨v104, hX⟩ := hX
    obtain ⟨v105, hX⟩ := hX
    obtain ⟨v106, hX⟩ := hX
    obtain ⟨v107, hX⟩ := hX
    obtain ⟨v108, hX⟩ := hX
    obtain ⟨v109, hX⟩ := hX
    obtain ⟨v110, hX⟩ := hX
    obtain ⟨lx, vx, ⟨rfl, hXe⟩, rfl⟩ := hX
    simp only [Option.some.injEq, Prod.mk.injEq] at hXe
    obtain ⟨rfl, rfl⟩ := hXe
    go_wp2_with fail
    first
      | refine (hret _ _ ?_ : Q0 Exit.ret _ _)
      | skip
    unfold MainB
    exact ⟨_, _, _, _, _, _, _, _, _, _, _, _, _, _, _, _, _, _, _, _, _, _, _, _, _, _, _, _, _, _, _, _, _, _, _, _, _, _, _, _, _, _, _, _, _, _, _, _, _, _, _, _, _, _, _, _, _, _, _, _, _, _, _, _, _, _, _, _, _, _, _, _, _, _, _, _, _, _, _, _, _, _, _, _, _, _, _, _, _, _, _, _, _, _, _, _, _, _, _, _, _, _, _, _, _, _, _, _, _, _, _, _, _, _, _, _, _, _, _, _, _, _, _, _, _, _, _, _, _, _, _, _, _, _, _, _, _, _, _, _, _, _, _, _, _, _, _, _, _, _, _, _, _, _, _, _, _, _, _, _, _, _, _, _, _, _, _, _, _, _, _, _, _, _, _, _, _, _, _, _, _, _, _, _, _, _, _, _, _, _, _, _, _, _, _, ⟨HB.out, HX.out⟩, rfl⟩
set_option maxHeartbeats 8000000 in
set_option maxRecDepth 1000000 in
theorem main_go2 (c : UInt8) (r out q : List UInt8) (v : Int) (wr : World) (u15 u16 u17 u18 u19 u20 u21 u22 u23 u24 u25 u26 u27 u74 u75 u76 u77 u78 u79 u80 u81 u82 u83 u84 u85 u86 u87 u88 u89 u90 u91 u92 u93 u94 u95 u96 u97 u98 u99 u100 u101 u102 u103 u104 u105 u106 u107 u108 u109 u110 u111 u112 u113 u114 u115 u116 u117 u118 u119 u120 u121 u122 u123 u124 u125 u126 u127 u128 u129 u130 u131 u132 u133 u134 u135 u136 u137 u138 u139 u140 u141 u142 u143 u144 u145 u146 u147 u148 u149 u150 u151 u152 u153 u154 u155 u156 u157 u158 u159 u160 u161 u162 u163 u164 u165 u166 u167 u168 u169 u170 u171 u172 u173 u174 u175 u176 u177 u178 u179 u180 u181 u182 u183 u184 u185 u186 u187 u188 u189 u190 u191 u192 u193 u194 u195 u196 u197 u198 u199 u200 u201 u202 u203 u204 u205 u206 u207 u208 u209 u210 u211 u212 u213 u214 u215 u216 u217 u218 u219 u220 u221 u222 u223 u224 u225 u226 u227 u228 u229 u230 u231 u232 u233 u234 u235 u236 u237 u238 u239 u240 u241 u242 u243 u244 u245 u246 u247 u248 u249 u250 u251 u252 u253 u254 : Value) (Q0 : Exit → Act → World → Prop) (h : MainR b w0 mx X (c :: r) out wr) (hm : mx ≤ 0 ∨ (0 < mx ∧ ¬ mx < (out.length : Int))) (hd : Dm.isDig c = true) (hx : Dm.dec 0 (c :: r) = some (v, q)) (l2 : List UInt8) (v2 : Int) (hl2 : Dm.usl q = l2) (hve : v - 1 = v2) (hq : q.head? = some 95) (hs : ¬ (l2.length : Int) < v2) (hv3 : 0 ≤ v2) :
    Code.wp Tryd.prog mainBody (Exit.then (fun a' w'' => MainI b w0 mx X c1 c2 c3 c4 c5 c7 c8 c10 c11 c12 c13 c28 c29 c30 c31 c32 c33 c34 c35 c36 c37 c38 c39 c40 c41 c42 c43 c44 c45 c46 c47 c48 c49 c50 c51 c52 c53 c54 c55 c56 c57 c58 c59 c60 c61 c62 c63 c64 c65 c66 c67 c68 c69 c70 c71 c72 c73 c255 c256 c257 c258 c259 c260 c261 c262 c263 c264 c265 c266 c267 a' w'' ∧ mainMu a' < mainMu ⟨#[.string (bs (c :: r)), c1, c2, c3, c4, c5, .int .i64 mx, c7, c8, HF, c10, c11, c12, c13, .pointer (some ⟨b, 0, none⟩), u15, u16, u17, u18, u19, u20, u21, u22, u23, u24, u25, u26, u27, c28, c29, c30, c31, c32, c33, c34, c35, c36, c37, c38, c39, c40, c41, c42, c43, c44, c45, c46, c47, c48, c49, c50, c51, c52, c53, c54, c55, c56, c57, c58, c59, c60, c61, c62, c63, c64, c65, c66, c67, c68, c69, c70, c71, c72, c73, u74, u75, u76, u77, u78, u79, u80, u81, u82, u83, u84, u85, u86, u87, u88, u89, u90, u91, u92, u93, u94, u95, u96, u97, u98, u99, u100, u101, u102, u103, u104, u105, u106, u107, u108, u109, u110, u111, u112, u113, u114, u115, u116, u117, u118, u119, u120, u121, u122, u123, u124, u125, u126, u127, u128, u129, u130, u131, u132, u133, u134, u135, u136, u137, u138, u139, u140, u141, u142, u143, u144, u145, u146, u147, u148, u149, u150, u151, u152, u153, u154, u155, u156, u157, u158, u159, u160, u161, u162, u163, u164, u165, u166, u167, u168, u169, u170, u171, u172, u173, u174, u175, u176, u177, u178, u179, u180, u181, u182, u183, u184, u185, u186, u187, u188, u189, u190, u191, u192, u193, u194, u195, u196, u197, u198, u199, u200, u201, u202, u203, u204, u205, u206, u207, u208, u209, u210, u211, u212, u213, u214, u215, u216, u217, u218, u219, u220, u221, u222, u223, u224, u225, u226, u227, u228, u229, u230, u231, u232, u233, u234, u235, u236, u237, u238, u239, u240, u241, u242, u243, u244, u245, u246, u247, u248, u249, u250, u251, u252, u253, u254, c255, c256, c257, c258, c259, c260, c261, c262, c263, c264, c265, c266, c267], []⟩) Q0) ⟨#[.string (bs (c :: r)), c1, c2, c3, c4, c5, .int .i64 mx, c7, c8, HF, c10, c11, c12, c13, .pointer (some ⟨b, 0, none⟩), u15, u16, u17, u18, u19, u20, u21, u22, u23, u24, u25, u26, u27, c28, c29, c30, c31, c32, c33, c34, c35, c36, c37, c38, c39, c40, c41, c42, c43, c44, c45, c46, c47, c48, c49, c50, c51, c52, c53, c54, c55, c56, c57, c58, c59, c60, c61, c62, c63, c64, c65, c66, c67, c68, c69, c70, c71, c72, c73, u74, u75, u76, u77, u78, u79, u80, u81, u82, u83, u84, u85, u86, u87, u88, u89, u90, u91, u92, u93, u94, u95, u96, u97, u98, u99, u100, u101, u102, u103, u104, u105, u106, u107, u108, u109, u110, u111, u112, u113, u114, u115, u116, u117, u118, u119, u120, u121, u122, u123, u124, u125, u126, u127, u128, u129, u130, u131, u132, u133, u134, u135, u136, u137, u138, u139, u140, u141, u142, u143, u144, u145, u146, u147, u148, u149, u150, u151, u152, u153, u154, u155, u156, u157, u158, u159, u160, u161, u162, u163, u164, u165, u166, u167, u168, u169, u170, u171, u172, u173, u174, u175, u176, u177, u178, u179, u180, u181, u182, u183, u184, u185, u186, u187, u188, u189, u190, u191, u192, u193, u194, u195, u196, u197, u198, u199, u200, u201, u202, u203, u204, u205, u206, u207, u208, u209, u210, u211, u212, u213, u214, u215, u216, u217, u218, u219, u220, u221, u222, u223, u224, u225, u226, u227, u228, u229, u230, u231, u232, u233, u234, u235, u236, u237, u238, u239, u240, u241, u242, u243, u244, u245, u246, u247, u248, u249, u250, u251, u252, u253, u254, c255, c256, c257, c258, c259, c260, c261, c262, c263, c264, c265, c266, c267], []⟩ wr := by
  obtain ⟨hlb, hb, ⟨k, hk, hkl⟩, hl⟩ := h
  obtain ⟨hql, hv0, hv1⟩ := Dm.dec_first hd hx
  have hv2 : (if q.head? = some 95 then v - 1 else v) = v2 := by rw [hq, if_pos rfl]; exact hve
  have hq0 : 0 < (bs q).size := by rw [bs_size]; cases q with | nil => cases hq | cons y q => simp
  have iq0 : (bs q)[0]'hq0 = 95 := by cases q with | nil => cases hq | cons y q => exact Option.some.inj hq
  have lqz : (0 : Int) < ((bs q).size : Int) := by omega
  have lq : (0 : Int) < (q.length : Int) := by rw [← bs_size]; omega
  have lq1 : 1 ≤ q.length := by omega
  have lq1i : (1 : Int) ≤ (q.length : Int) := by omega
  have hxq : (bs q).extract 1 q.length = bs l2 := by cases q with | nil => cases hq | cons y q => (injection hq with hq; subst hq; rw [← hl2]; have := bs_extract (95 :: q) 1; rw [this]; rfl)
  have hwv : IntKind.i64.wrap (v - 1) = v2 := by rw [IntWalk.i64_in _ (by omega)]; exact hve
  obtain ⟨k, rfl⟩ : ∃ m, k = m + 1 := ⟨k - 1, by simp at hkl; omega⟩
  rw [lg_step hm hd hx, hv2, hl2] at hk
  have HLN := Lib.hid (show (c :: r).length ≤ 4611686018427387904 by omega)
  have HDEC := Lib.hid hx
  have hzq := bs_size q
  have hzq2 := bs_size l2
  have hz := bs_size (c :: r)
  have i0 : (bs (c :: r))[0]'(by rw [hz]; simp) = c := rfl
  have lz0 : (0 : Int) < ((bs (c :: r)).size : Int) := by rw [hz]; simp <;> omega
  have ly0 : (0 : Int) < (r.length : Int) + 1 := by omega
  have HLEN := Lib.hid (lbLen_calls b out wr hlb)
  have HDC : Hid (∀ w, Calls Tryd.prog 92 #[.int .u8 c.toNat] w fun e w' => e = .returned (.bool true) ∧ w = w') := Lib.hid (fun w => by have h_ := isDigit_calls (c.toNat : Int) w; rw [show (decide (48 ≤ (c.toNat : Int)) && decide ((c.toNat : Int) ≤ 57)) = true from hd] at h_; exact h_)
  have hmc : (¬ 0 < mx) ∨ (0 < mx ∧ ¬ mx < (out.length : Int)) := by omega
  have HB := Lib.hid hb
  rw [if_neg (by omega), if_neg hs] at hk
  have hle : v2 ≤ (l2.length : Int) := by omega
  have hxa : (bs l2).extract 0 v2.toNat = bs (l2.take v2.toNat) := by rw [bs_extract_to]; simp
  have hxb : (bs l2).extract v2.toNat l2.length = bs (l2.drop v2.toNat) := by have := bs_extract l2 v2.toNat; exact this
  have hlu : l2.length ≤ q.length := by rw [← hl2]; cases q with | nil => cases hq | cons y q => (show (if y = 95 then q else y :: q).length ≤ _; split <;> simp)
  have hlt : (l2.take v2.toNat).length + (l2.drop v2.toNat).length = l2.length := by rw [← List.length_append, List.take_append_drop]
  generalize l2.take v2.toNat = id at *
  generalize l2.drop v2.toNat = nm at *
  have hzi := bs_size id
  have hul := Dm.unbar_len id
  have htl := Dm.tl_len (Dm.unbar id)
  obtain ⟨o2, ho2⟩ : ∃ o2, (if out = [] then [] else out ++ [58, 58]) = o2 := ⟨_, rfl⟩
  rw [ho2] at hk
  have hol : o2.length ≤ out.length + 2 := by rw [← ho2]; split <;> simp
  have hlc : out.length + 2 * (r.length + 1) ≤ 70368744177664 := by simpa using hl
  have HK : Hid (∃ k, Dm.lgMain k mx (o2 ++ Dm.tl (Dm.unbar id)) nm = X ∧ nm.length ≤ k) := Lib.hid ⟨k, hk, by simp at hkl; omega⟩
  have HNL : Hid ((o2 ++ Dm.tl (Dm.unbar id)).length + 2 * nm.length ≤ 70368744177664) := Lib.hid (by rw [List.length_append]; omega)
  have HEL : Hid ((o2 ++ Dm.tl (Dm.unbar id)).length + (Dm.unbar id).length ≤ 140737488355328) := Lib.hid (by rw [List.length_append]; omega)
  have HMU : Hid (nm.length < r.length + 1) := Lib.hid (by omega)
  have HPP := Lib.hid (fun w => pre2_calls 95 36 id w)
  have HWS : Hid (Calls Tryd.prog 73 #[.pointer (some ⟨b, 0, none⟩), .string ⟨#[58, 58]⟩] wr fun e w' => (∃ n, e = .returned (.tuple #[.int .i64 n, .nilIface])) ∧ LB b (out ++ [58, 58]) w' ∧ Below b wr w') :=
    Lib.hid (lbString_calls b out [58, 58] wr hlb (by simp at hlc ⊢; omega))
  have hpc : (isPre2 95 36 id = false ∧ Dm.unbar id = id) ∨ (isPre2 95 36 id = true ∧ bs (Dm.unbar id) = (bs id).extract 1 id.length ∧ 1 ≤ id.length) := pre_cases id
  have hoc : (¬ (0 : Int) < (out.length : Int) ∧ o2 = out) ∨ ((0 : Int) < (out.length : Int) ∧ o2 = out ++ [58, 58]) := by
    rw [← ho2]
    cases out with
    | nil => exact .inl ⟨by simp, rfl⟩
    | cons x y => exact .inr ⟨by simp <;> omega, rfl⟩
  have HLB := Lib.hid hlb
  clear hlb hb hk hkl hl hd hx hm hql hv2 hq hs hlu hlt hul htl hol hlc ho2 hl2 hve
  rcases hmc with hm3 | ⟨hm3, hm4⟩
  all_goals rcases hoc with ⟨ho1, rfl⟩ | ⟨ho1, rfl⟩
  all_goals rcases hpc with ⟨hp1, hp2⟩ | ⟨hp1, hp2, hp3⟩
  all_goals conv => arg 2; whnf
  all_goals rw [hp1] at HPP

  all_goals try have hp3i : (1 : Int) ≤ (id.length : Int) := by omega
  all_goals
    go_wp2_with fail
    go_step3
    go_wp2_with (first | (go_at_call 91; refine HLEN.out.mono ?_; rintro e wx ⟨rfl, rfl⟩) | (go_at_call 92; refine (HDC.out _).mono ?_; rintro e wx ⟨rfl, rfl⟩))
    refine dig_loop (c :: r) 0 _ _ _ _ _ _ _ _ _ _ _ _ _ _ _ _ _ _ _ _ _ _ _ _ _ HDEC.out (by decide) (by decide) HLN.out ?_ (fun a' w'' hX => (digB_some hX).elim)
    intro a' w'' hX
    unfold DigX at hX
    obtain ⟨v16, hX⟩ := hX
    obtain ⟨v88, hX⟩ := hX
    obtain ⟨v89, hX⟩ := hX
    obtain ⟨v90, hX⟩ := hX
    obtain ⟨v91, hX⟩ := hX
    obtain ⟨v92, hX⟩ := hX
    obtain ⟨v93, hX⟩ := hX
    obtain ⟨v94, hX⟩ := hX
    obtain ⟨v95, hX⟩ := hX
    obtain ⟨v96, hX⟩ := hX
    obtain ⟨v97, hX⟩ := hX
    obtain ⟨v98, hX⟩ := hX
    obtain ⟨v99, hX⟩ := hX
    obtain ⟨v100, hX⟩ := hX
    obtain ⟨v101, hX⟩ := hX
    obtain ⟨v102, hX⟩ := hX
    obtain ⟨v103, hX⟩ := hX
    obtain ⟨v104, hX⟩ := hX
    obtain ⟨v105, hX⟩ := hX
    obtain ⟨v106, hX⟩ := hX
    obtain ⟨v107, hX⟩ := hX
    obtain ⟨v108, hX⟩ := hX
    obtain ⟨v109, hX⟩ := hX
    obtain ⟨v110, hX⟩ := hX
    obtain ⟨lx, vx, ⟨rfl, hXe⟩, rfl⟩ := hX
    simp only [Option.some.injEq, Prod.mk.injEq] at hXe
    obtain ⟨rfl, rfl⟩ := hXe
    go_wp2_with (first | (go_at_call 91; refine HLEN.out.mono ?_; rintro e wx ⟨rfl, rfl⟩) | (go_at_call 93; refine (HPP.out _).mono ?_; rintro e wx ⟨rfl, rfl⟩) | (go_at_call 73; refine HWS.out.mono ?_; rintro e w1 ⟨⟨nn, rfl⟩, hlb1, hb1⟩))
    all_goals try rw [← hp2]
    go_step3
    go_wp2_with fail
    refine esc_loop (Dm.unbar id) _ _ _ _ _ _ _ _ _ _ _ _ _ _ _ _ _ _ _ _ _ _ _ _ _ _ _ _ _ _ _ _ _ _ _ _ _ _ _ _ _ _ _ _ _ _ _ _ _ _ _ _ _ _ _ _ _ _ _ _ _ _ _ _ _ _ _ _ _ _ _ _ _ _ _ _ _ _ _ _ _ _ _ _ _ _ _ _ _ _ _ _ _ _ _ _ _ _ _ _ _ _ _ _ _ _ _ _ _ _ _ _ _ _ _ _ _ _ _ _ _ _ _ _ _ _ _ _ (by first | exact hlb1 | exact HLB.out) (by first | exact HB.out.trans hb1 | exact HB.out) rfl (by exact HEL.out) ?_
    intro a2 w2 hX
    unfold EscX at hX
    obtain ⟨y17, hX⟩ := hX
    obtain ⟨y18, hX⟩ := hX
    obtain ⟨y19, hX⟩ := hX
    obtain ⟨y20, hX⟩ := hX
    obtain ⟨y21, hX⟩ := hX
    obtain ⟨y22, hX⟩ := hX
    obtain ⟨y23, hX⟩ := hX
    obtain ⟨y24, hX⟩ := hX
    obtain ⟨y25, hX⟩ := hX
    obtain ⟨y26, hX⟩ := hX
    obtain ⟨y27, hX⟩ := hX
    obtain ⟨y140, hX⟩ := hX
    obtain ⟨y141, hX⟩ := hX
    obtain ⟨y142, hX⟩ := hX
    obtain ⟨y143, hX⟩ := hX
    obtain ⟨y144, hX⟩ := hX
    obtain ⟨y145, hX⟩ := hX
    obtain ⟨y146, hX⟩ := hX
    obtain ⟨y147, hX⟩ := hX
    obtain ⟨y148, hX⟩ := hX
    obtain ⟨y149, hX⟩ := hX
    obtain ⟨y150, hX⟩ := hX
    obtain ⟨y151, hX⟩ := hX
    obtain ⟨y152, hX⟩ := hX
    obtain ⟨y153, hX⟩ := hX
    obtain ⟨y154, hX⟩ := hX
    obtain ⟨y155, hX⟩ := hX
    obtain ⟨y156, hX⟩ := hX
    obtain ⟨y157, hX⟩ := hX
    obtain ⟨y158, hX⟩ := hX
    obtain ⟨y159, hX⟩ := hX
    obtain ⟨y160, hX⟩ := hX
    obtain ⟨y161, hX⟩ := hX
    obtain ⟨y162, hX⟩ := hX
    obtain ⟨y163, hX⟩ := hX
    obtain ⟨y164, hX⟩ := hX
    obtain ⟨y165, hX⟩ := hX
    obtain ⟨y166, hX⟩ := hX
    obtain ⟨y167, hX⟩ := hX
    obtain ⟨y168, hX⟩ := hX
    obtain ⟨y169, hX⟩ := hX
    obtain ⟨y170, hX⟩ := hX
    obtain ⟨y171, hX⟩ := hX
    obtain ⟨y172, hX⟩ := hX
    obtain ⟨y173, hX⟩ := hX
    obtain ⟨y174, hX⟩ := hX
    obtain ⟨y175, hX⟩ := hX
    obtain ⟨y176, hX⟩ := hX
    obtain ⟨y177, hX⟩ := hX
    obtain ⟨y178, hX⟩ := hX
    obtain ⟨y179, hX⟩ := hX
    obtain ⟨y180, hX⟩ := hX
    obtain ⟨y181, hX⟩ := hX
    obtain ⟨y182, hX⟩ := hX
    obtain ⟨y183, hX⟩ := hX
    obtain ⟨y184, hX⟩ := hX
    obtain ⟨y185, hX⟩ := hX
    obtain ⟨y186, hX⟩ := hX
    obtain ⟨y187, hX⟩ := hX
    obtain ⟨y188, hX⟩ := hX
    obtain ⟨y189, hX⟩ := hX
    obtain ⟨y190, hX⟩ := hX
    obtain ⟨y191, hX⟩ := hX
    obtain ⟨y192, hX⟩ := hX
    obtain ⟨y193, hX⟩ := hX
    obtain ⟨y194, hX⟩ := hX
    obtain ⟨y195, hX⟩ := hX
    obtain ⟨y196, hX⟩ := hX
    obtain ⟨y197, hX⟩ := hX
    obtain ⟨y198, hX⟩ := hX
    obtain ⟨y199, hX⟩ := hX
    obtain ⟨y200, hX⟩ := hX
    obtain ⟨y201, hX⟩ := hX
    obtain ⟨y202, hX⟩ := hX
    obtain ⟨y203, hX⟩ := hX
    obtain ⟨y204, hX⟩ := hX
    obtain ⟨y205, hX⟩ := hX
    obtain ⟨y206, hX⟩ := hX
    obtain ⟨y207, hX⟩ := hX
    obtain ⟨y208, hX⟩ := hX
    obtain ⟨y209, hX⟩ := hX
    obtain ⟨y210, hX⟩ := hX
    obtain ⟨y211, hX⟩ := hX
    obtain ⟨y212, hX⟩ := hX
    obtain ⟨y213, hX⟩ := hX
    obtain ⟨y214, hX⟩ := hX
    obtain ⟨y215, hX⟩ := hX
    obtain ⟨y216, hX⟩ := hX
    obtain ⟨y217, hX⟩ := hX
    obtain ⟨y218, hX⟩ := hX
    obtain ⟨y219, hX⟩ := hX
    obtain ⟨y220, hX⟩ := hX
    obtain ⟨y221, hX⟩ := hX
    obtain ⟨y222, hX⟩ := hX
    obtain ⟨y223, hX⟩ := hX
    obtain ⟨y224, hX⟩ := hX
    obtain ⟨y225, hX⟩ := hX
    obtain ⟨y226, hX⟩ := hX
    obtain ⟨y227, hX⟩ := hX
    obtain ⟨y228, hX⟩ := hX
    obtain ⟨y229, hX⟩ := hX
    obtain ⟨y230, hX⟩ := hX
    obtain ⟨y231, hX⟩ := hX
    obtain ⟨y232, hX⟩ := hX
    obtain ⟨y233, hX⟩ := hX
    obtain ⟨y234, hX⟩ := hX
    obtain ⟨y235, hX⟩ := hX
    obtain ⟨y236, hX⟩ := hX
    obtain ⟨y237, hX⟩ := hX
    obtain ⟨y238, hX⟩ := hX
    obtain ⟨y239, hX⟩ := hX
    obtain ⟨y240, hX⟩ := hX
    obtain ⟨y241, hX⟩ := hX
    obtain ⟨y242, hX⟩ := hX
    obtain ⟨y243, hX⟩ := hX
    obtain ⟨y244, hX⟩ := hX
    obtain ⟨y245, hX⟩ := hX
    obtain ⟨y246, hX⟩ := hX
    obtain ⟨y247, hX⟩ := hX
    obtain ⟨y248, hX⟩ := hX
    obtain ⟨y249, hX⟩ := hX
    obtain ⟨y250, hX⟩ := hX
    obtain ⟨y251, hX⟩ := hX
    obtain ⟨y252, hX⟩ := hX
    obtain ⟨y253, hX⟩ := hX
    obtain ⟨y254, hX⟩ := hX
    obtain ⟨⟨hlb2, hb2⟩, rfl⟩ := hX
    go_wp2_with fail
    refine ⟨?_, ?_⟩
    · unfold MainI
      exact ⟨_, _, _, _, _, _, _, _, _, _, _, _, _, _, _, _, _, _, _, _, _, _, _, _, _, _, _, _, _, _, _, _, _, _, _, _, _, _, _, _, _, _, _, _, _, _, _, _, _, _, _, _, _, _, _, _, _, _, _, _, _, _, _, _, _, _, _, _, _, _, _, _, _, _, _, _, _, _, _, _, _, _, _, _, _, _, _, _, _, _, _, _, _, _, _, _, _, _, _, _, _, _, _, _, _, _, _, _, _, _, _, _, _, _, _, _, _, _, _, _, _, _, _, _, _, _, _, _, _, _, _, _, _, _, _, _, _, _, _, _, _, _, _, _, _, _, _, _, _, _, _, _, _, _, _, _, _, _, _, _, _, _, _, _, _, _, _, _, _, _, _, _, _, _, _, _, _, _, _, _, _, _, _, _, _, _, _, _, _, _, _, _, _, _, nm, _, ⟨hlb2, hb2, HK.out, HNL.out⟩, rfl⟩
    · show (bs nm).size < (bs (c :: r)).size
      rw [bs_size, bs_size]
      exact HMU.out
end
end Go.Proofs.YtpmlnhddkbgefaaDoor
