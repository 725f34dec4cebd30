/- One generic argument that is a basic type. -/
import Derived.Test.YtdmkdclockmjbaaDoorPath
import Derived.Test.YtdmkdclockmjbaaDoorM4
import Derived.Test.YtdmkdclockmjbaaDoorM2
import Derived.Defers
import Derived.Test.YtdmkdclockmjbaaDoorMap
namespace Go.Proofs.YtdmkdclockmjbaaDoor
set_option linter.unusedVariables false
set_option linter.unusedSimpArgs false
open Go.RowKit

instance : Stays MapIs := ⟨fun h hb => h.below hb⟩

theorem checkChar_ok (b : Nat) (s : RS) (c : UInt8) (r : List UInt8) (w : World) (h : RustAt b s w) (hs : s.str = c :: r) :
    Calls Tryd.prog 58 #[.pointer (some ⟨b, 0, none⟩), .int .u8 c.toNat] w fun e w' => e = .returned (.tuple #[]) ∧ RustAt b (s.adv r) w' ∧ Fr b w w' := by
  have h1 := h.c1
  rw [hs] at h1
  have hz := bs_size (c :: r)
  have had := advance_calls b s 1 w h (by rw [hs]; simp)
  rw [show s.str.drop 1 = r from by rw [hs]; rfl] at had
  have HA := Lib.hid had
  clear had hs h
  go_enter Tryd.func58, Tryd.ntmps58
  go_wp2_with fail
  refine HA.out.mono ?_
  rintro e w2 ⟨rfl, hr2, hb2⟩
  have H2 := Lib.hid (And.intro hr2 hb2)
  clear hr2 hb2
  go_wp2_with fail
  go_end0
  exact ⟨rfl, H2.out.1, H2.out.2⟩

set_option maxHeartbeats 2000000 in
set_option maxRecDepth 100000 in
theorem demangleType_basic (b : Nat) (s : RS) (c : UInt8) (r t : List UInt8) (w : World) (h : RustAt b s w) (hm : MapIs w) (hs : s.str = c :: r) (ht : Dm.btext c = some t) (hlow : isLow c = true) (hlen : s.out.length + 5 ≤ 140737488355328) :
    Calls Tryd.prog 55 #[.pointer (some ⟨b, 0, none⟩)] w fun e w' => e = .returned (.tuple #[]) ∧ RustAt b ((s.adv r).putStr t) w' ∧ Fr b w w' := by
  have h1 := h.c1
  rw [hs] at h1
  have hz := bs_size (c :: r)
  have hc := basicType_calls b s w h hm hlen
  unfold BasicPost at hc
  rw [show Dm.basic s.str = some (t, r) from by rw [hs]; simp only [Dm.basic, ht]] at hc
  have HC := Lib.hid hc
  obtain ⟨l1, l2⟩ := low_nums hlow
  clear hc hs h ht hlow hm
  go_enter Tryd.func55, Tryd.ntmps55
  go_wp2_with fail
  refine HC.out.mono ?_
  rintro e w2 ⟨rfl, hr2, hb2⟩
  have H2 := Lib.hid (And.intro hr2 hb2)
  clear hr2 hb2
  go_wp2_with fail
  refine bodyPost_ret (v := .tuple #[]) ?_ rfl ⟨rfl, H2.out.1, H2.out.2⟩
  simp [results, Tryd.results55, go_sem]

set_option maxHeartbeats 2000000 in
set_option maxRecDepth 100000 in
theorem genericArg_basic (b : Nat) (s : RS) (c : UInt8) (r t : List UInt8) (w : World) (h : RustAt b s w) (hm : MapIs w) (hs : s.str = c :: r) (ht : Dm.btext c = some t) (hlow : isLow c = true) (hlen : s.out.length + 5 ≤ 140737488355328) :
    Calls Tryd.prog 74 #[.pointer (some ⟨b, 0, none⟩)] w fun e w' => e = .returned (.tuple #[]) ∧ RustAt b ((s.adv r).putStr t) w' ∧ Fr b w w' := by
  have h1 := h.c1
  rw [hs] at h1
  have hz := bs_size (c :: r)
  have HC := Lib.hid (demangleType_basic b s c r t w h hm hs ht hlow hlen)
  obtain ⟨l1, l2⟩ := low_nums hlow
  have n76 : ((c.toNat : Int) == 76) = false := by rw [beq_eq_false_iff_ne]; omega
  have n75 : ((c.toNat : Int) == 75) = false := by rw [beq_eq_false_iff_ne]; omega
  clear hs h ht hlow hm l1 l2
  go_enter Tryd.func74, Tryd.ntmps74
  go_wp2_with fail
  refine HC.out.mono ?_
  rintro e w2 ⟨rfl, hr2, hb2⟩
  have H2 := Lib.hid (And.intro hr2 hb2)
  clear hr2 hb2
  go_wp2_with fail
  go_end0
  exact ⟨rfl, H2.out.1, H2.out.2⟩

/-- The parameter that a closure takes. -/
def Cap1 (b N : Nat) (w : World) : Prop := b < N ∧ w.heap[N]? = some (.cells #[.pointer (some ⟨b, 0, none⟩)] 54 (0, 0))
theorem Cap1.fr {b N : Nat} {w w' : World} (h : Cap1 b N w) (hf : Fr b w w') : Cap1 b N w' :=
  ⟨h.1, hf.other h.2 (by have := h.1; omega) (fun c fz e => by injection e with _ h _; exact absurd h (by decide))⟩
theorem Cap1.c0 {b N : Nat} {w : World} (h : Cap1 b N w) : w.cell? ⟨N, 0, none⟩ = some (.pointer (some ⟨b, 0, none⟩)) := by rw [Lib.cell_of_heap h.2]; rfl

theorem putStr_str' (s : RS) (t : List UInt8) : (s.putStr t).str = s.str := by
  unfold RS.putStr; repeat' split
  all_goals rfl

set_option maxHeartbeats 2000000 in
set_option maxRecDepth 100000 in
theorem genericArgs_basic (b : Nat) (s : RS) (c : UInt8) (r t : List UInt8) (w : World) (h : RustAt b s w) (hm : Based MapIs b w) (hs : s.str = c :: 69 :: r) (hng : s.ng = false) (ht : Dm.btext c = some t) (hlow : isLow c = true) (hlen : s.out.length + 5 ≤ 140737488355328) :
    Calls Tryd.prog 57 #[.pointer (some ⟨b, 0, none⟩)] w fun e w' => e = .returned (.tuple #[]) ∧ RustAt b ((s.adv (69 :: r)).putStr t) w' ∧ Fr b w w' := by
  have hlt := h.lt
  have hr := h.alloc (.cells #[.pointer (some ⟨b, 0, none⟩)] 54)
  have hcap : Cap1 b w.heap.size (w.alloc (.cells #[.pointer (some ⟨b, 0, none⟩)] 54)) := ⟨hlt, heap_alloc_new w _⟩
  have HF := Lib.hid ((Fr.refl b w).alloc (Nat.le_of_lt hlt) (.cells #[.pointer (some ⟨b, 0, none⟩)] 54))
  have HM := Lib.hid hm
  have c8 := hr.c8
  rw [hng] at c8
  have c0 := hcap.c0
  have HH := Lib.hid (And.intro hr hcap)
  have HG := Lib.hid (fun w h hm => genericArg_basic b s c (69 :: r) t w h hm hs ht hlow hlen)
  have HS := Lib.hid hs
  obtain ⟨l1, l2⟩ := low_nums hlow
  clear h hr hcap hs hng ht hlow hlen hm
  go_enter_defers Tryd.func57, Tryd.ntmps57
  go_wp2_with fail
  go_loopw [3] (fun v wr => (v = .bool true ∧ RustAt b s wr ∨ v = .bool false ∧ RustAt b ((s.adv (69 :: r)).putStr t) wr) ∧ Fr b w wr ∧ Cap1 b w.heap.size wr) (fun _ wr => strLen b wr)
  case atStart => exact ⟨.inl ⟨rfl, HH.out.1⟩, HF.out, HH.out.2⟩
  case round =>
    obtain ⟨hor, hb, hcap⟩ := hrel
    have c0 := hcap.c0
    have HCP := Lib.hid hcap
    have HB := Lib.hid hb
    clear hb hcap
    rcases hor with ⟨rfl, hr⟩ | ⟨rfl, hr⟩
    · have h1 := hr.c1
      rw [HS.out] at h1
      have hz := bs_size (c :: 69 :: r)
      have n69 : ((c.toNat : Int) != 69) = true := by rw [bne_iff_ne]; omega
      have HSL : Hid (strLen b wr = (c :: 69 :: r).length) := Lib.hid (by rw [hr.strLen, HS.out])
      have HC := Lib.hid (HG.out wr hr ((HM.out.on HB.out.below).out))
      clear hr
      go_wp2_with fail
      refine HC.out.mono ?_
      rintro e w2 ⟨rfl, hr2, hb2⟩
      have H2 := Lib.hid (And.intro hr2 hb2)
      have HS2 : Hid (strLen b w2 = (69 :: r).length) := Lib.hid (by rw [hr2.strLen, putStr_str']; rfl)
      clear hr2 hb2
      go_wp2_with fail
      go_roundw
      case rel => exact ⟨.inr ⟨rfl, H2.out.1⟩, HB.out.trans H2.out.2, HCP.out.fr H2.out.2⟩
      case measure => rw [HSL.out, HS2.out]; simp
    · have h1 := hr.c1
      rw [putStr_str', RS.adv_str] at h1
      have hz := bs_size (69 :: r)
      have HR := Lib.hid hr
      clear hr
      go_wp2_with fail
      simp [bodyPostD, Leaves, settle, results, Tryd.results57, go_sem]
      exact ⟨HR.out, HB.out⟩

theorem putStr_ng (s : RS) (t : List UInt8) : (s.putStr t).ng = s.ng := by
  unfold RS.putStr; repeat' split
  all_goals rfl
theorem putByte_ng (s : RS) (c : UInt8) : (s.putByte c).ng = s.ng := by
  unfold RS.putByte; repeat' split
  all_goals rfl
theorem putByte_str' (s : RS) (c : UInt8) : (s.putByte c).str = s.str := by
  unfold RS.putByte; repeat' split
  all_goals rfl
theorem ident_m (r : List UInt8) : Dm.ident (49 :: 109 :: r) = some (0, [109], r) := by
  have h := ident_own 0 (by decide) [109] r rfl (by decide)
  have e : Lib.decDigits 1 = [49] := by rw [Lib.decDigits, dif_pos (by omega)]; rfl
  have e2 : Dm.disW 0 ++ (Dm.written [109] ++ r) = 49 :: 109 :: r := by
    unfold Dm.disW Dm.written Dm.counted
    rw [if_pos rfl, if_neg (by simp)]
    show (Lib.decDigits 1 ++ Dm.sep [109] ++ [109]) ++ r = _
    rw [e]; rfl
  rw [e2] at h
  exact h
/-- What the reading of one generic argument leaves. -/
def genS (s : RS) (c : UInt8) (q t : List UInt8) : RS := ((((((((s.adv (c :: 69 :: q)).putStr [109]).putStr [58, 58]).putByte 60).adv (69 :: q)).putStr t).putByte 62).adv q)

set_option maxHeartbeats 2000000 in
set_option maxRecDepth 100000 in
theorem path_generic (b : Nat) (s : RS) (c : UInt8) (q t : List UInt8) (w : World) (h : RustAt b s w) (hm : Based MapIs b w) (hs : s.str = 73 :: 67 :: 49 :: 109 :: c :: 69 :: q) (hng : s.ng = false) (ht : Dm.btext c = some t) (hlow : isLow c = true) (hlen : s.out.length + 100 ≤ 140737488355000) :
    Calls Tryd.prog 43 #[.pointer (some ⟨b, 0, none⟩), .bool true] w fun e w' => e = .returned (.tuple #[]) ∧ RustAt b (genS s c q t) w' ∧ Fr b w w' := by
  have hlt := h.lt
  have hcap := cap_start (ns := true) hlt
  have hr := (h.alloc (.cells #[.pointer (some ⟨b, 0, none⟩)] 54)).alloc (.cells #[.bool true] 4)
  have HF := Lib.hid (fr_start hlt (.cells #[.pointer (some ⟨b, 0, none⟩)] 54) (.cells #[.bool true] 4))
  have h1 := hr.c1
  have c0 := hcap.c0
  have HC := Lib.hid hcap
  rw [hs] at h1
  have hz := bs_size (73 :: 67 :: 49 :: 109 :: c :: 69 :: q)
  have hadv := advance_calls b s 1 _ hr (by rw [hs]; simp)
  rw [show s.str.drop 1 = 67 :: 49 :: 109 :: c :: 69 :: q from by rw [hs]; rfl] at hadv
  have HA := Lib.hid hadv
  have htl := Dm.btext_short c t ht
  have HM := Lib.hid hm
  have HX : Hid (pathM 1 (s.adv (67 :: 49 :: 109 :: c :: 69 :: q)) = .ok ((s.adv (c :: 69 :: q)).putStr [109])) := Lib.hid (by
    simp only [pathM, RS.adv_str]
    rw [if_pos trivial, ident_m]
    simp only
    rw [if_pos (by unfold RS.room; show s.out.length + _ ≤ _; simp; omega), RS.adv_adv])
  have HP := Lib.hid (fun w2 (hr : RustAt b (s.adv (67 :: 49 :: 109 :: c :: 69 :: q)) w2) => path_crate b true _ w2 hr (49 :: 109 :: c :: 69 :: q) rfl 0 (by rw [HX.out]; intro e; cases e))
  have HL := Lib.hid hlen
  have HNG := Lib.hid hng
  have HTT := Lib.hid (And.intro ht (And.intro hlow htl))
  clear h hcap hr hadv hs hm hng ht hlow hlen htl
  go_enter Tryd.func43, Tryd.ntmps43
  go_wp2_with fail
  refine HA.out.mono ?_
  rintro e w2 ⟨rfl, hr2, hb2⟩
  have hcap2 := HC.out.fr hb2
  have c02 := hcap2.c0
  have c12 := hcap2.c1
  have HC2 := Lib.hid hcap2
  have HR2 := Lib.hid hr2
  have HB2 := Lib.hid (HF.out.trans hb2)
  clear hr2 hcap2 h1 hz c0
  go_wp2_with fail
  refine (HP.out w2 HR2.out).mono ?_
  rintro e w3 hp
  rw [HX.out] at hp
  obtain ⟨rfl, hr3, hb3⟩ := hp
  have hcap3 := HC2.out.fr hb3
  have c03 := hcap3.c0
  have c13 := hcap3.c1
  have HC3 := Lib.hid hcap3
  have HB3 := Lib.hid (HB2.out.trans hb3)
  have hl3 := putStr_len (s.adv (c :: 69 :: q)) [109]
  have HS1 : Hid (((s.adv (c :: 69 :: q)).putStr [109]).out.length + 90 ≤ 140737488355000) := Lib.hid (by have := HL.out; have e : (s.adv (c :: 69 :: q)).out = s.out := rfl; rw [e] at hl3; simp at hl3; omega)
  have HN1 : Hid (((s.adv (c :: 69 :: q)).putStr [109]).ng = false ∧ ((s.adv (c :: 69 :: q)).putStr [109]).str = c :: 69 :: q) := Lib.hid ⟨by rw [putStr_ng]; exact HNG.out, by rw [putStr_str']; rfl⟩
  have HGS : Hid (genS s c q t = ((((((((s.adv (c :: 69 :: q)).putStr [109]).putStr [58, 58]).putByte 60).adv (69 :: q)).putStr t).putByte 62).adv q)) := Lib.hid rfl
  generalize (s.adv (c :: 69 :: q)).putStr [109] = s1 at *
  have HW1 := Lib.hid (writeStr_calls b s1 [58, 58] w3 hr3 (by have := HS1.out; simp; omega))
  clear hr3 hcap3 c02 c12 hl3
  go_wp2_with fail
  refine HW1.out.mono ?_
  rintro e w4 ⟨rfl, hr4, hb4⟩
  have hcap4 := HC3.out.fr hb4
  have c04 := hcap4.c0
  have HC4 := Lib.hid hcap4
  have HB4 := Lib.hid (HB3.out.trans hb4)
  have hl4 := putStr_len s1 [58, 58]
  have HS2 : Hid ((s1.putStr [58, 58]).out.length + 80 ≤ 140737488355000) := Lib.hid (by have := HS1.out; simp at hl4; omega)
  have HN2 : Hid ((s1.putStr [58, 58]).ng = false ∧ (s1.putStr [58, 58]).str = c :: 69 :: q) := Lib.hid ⟨by rw [putStr_ng]; exact HN1.out.1, by rw [putStr_str']; exact HN1.out.2⟩
  generalize s1.putStr [58, 58] = s2 at *
  have HW2 := Lib.hid (writeByte_calls b s2 60 w4 hr4 (by have := HS2.out; omega))
  clear hr4 hcap4 c03 c13 hl4
  go_wp2_with fail
  refine HW2.out.mono ?_
  rintro e w5 ⟨rfl, hr5, hb5⟩
  have hcap5 := HC4.out.fr hb5
  have c05 := hcap5.c0
  have HC5 := Lib.hid hcap5
  have HB5 := Lib.hid (HB4.out.trans hb5)
  have hl5 := putByte_len s2 60
  have HS3 : Hid ((s2.putByte 60).out.length + 70 ≤ 140737488355000) := Lib.hid (by have := HS2.out; omega)
  have HN3 : Hid ((s2.putByte 60).ng = false ∧ (s2.putByte 60).str = c :: 69 :: q) := Lib.hid ⟨by rw [putByte_ng]; exact HN2.out.1, by rw [putByte_str']; exact HN2.out.2⟩
  generalize s2.putByte 60 = s3 at *
  have HG := Lib.hid (genericArgs_basic b s3 c q t w5 hr5 (HM.out.on HB5.out.below) HN3.out.2 HN3.out.1 HTT.out.1 HTT.out.2.1 (by have := HS3.out; omega))
  clear hr5 hcap5 c04 hl5
  go_wp2_with fail
  refine HG.out.mono ?_
  rintro e w6 ⟨rfl, hr6, hb6⟩
  have hcap6 := HC5.out.fr hb6
  have c06 := hcap6.c0
  have HC6 := Lib.hid hcap6
  have HB6 := Lib.hid (HB5.out.trans hb6)
  have hl6 := putStr_len (s3.adv (69 :: q)) t
  have HS4 : Hid (((s3.adv (69 :: q)).putStr t).out.length + 60 ≤ 140737488355000) := Lib.hid (by have := HS3.out; have e : (s3.adv (69 :: q)).out = s3.out := rfl; rw [e] at hl6; have := HTT.out.2.2; omega)
  have HN4 : Hid (((s3.adv (69 :: q)).putStr t).str = 69 :: q) := Lib.hid (by rw [putStr_str']; rfl)
  generalize (s3.adv (69 :: q)).putStr t = s4 at *
  have HW4 := Lib.hid (writeByte_calls b s4 62 w6 hr6 (by have := HS4.out; omega))
  clear hr6 hcap6 c05 hl6
  go_wp2_with fail
  refine HW4.out.mono ?_
  rintro e w7 ⟨rfl, hr7, hb7⟩
  have hcap7 := HC6.out.fr hb7
  have c07 := hcap7.c0
  have HB7 := Lib.hid (HB6.out.trans hb7)
  have HK := Lib.hid (checkChar_ok b (s4.putByte 62) 69 q w7 hr7 (by rw [putByte_str']; exact HN4.out))
  clear hr7 hcap7 c06
  go_wp2_with fail
  refine HK.out.mono ?_
  rintro e w8 ⟨rfl, hr8, hb8⟩
  have H8 := Lib.hid (And.intro hr8 hb8)
  clear hr8 hb8
  go_wp2_with fail
  go_end0
  refine ⟨rfl, ?_, HB7.out.trans H8.out.2⟩
  have := HGS.out
  rw [this]
  exact H8.out.1
end Go.Proofs.YtdmkdclockmjbaaDoor
