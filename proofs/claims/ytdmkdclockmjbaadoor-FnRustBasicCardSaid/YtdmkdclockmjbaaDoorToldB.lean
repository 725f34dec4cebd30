/- rustToString, whatever symbolName does; a name of one generic argument. -/
import Derived.Test.YtdmkdclockmjbaaDoorM5
import Derived.Test.YtdmkdclockmjbaaDoorGen
import Derived.Defers
import Derived.Recover
import Derived.Laws.Pointers
import Derived.Deep.RegionWith
namespace Go.Proofs.YtdmkdclockmjbaaDoor
set_option linter.unusedVariables false
set_option linter.unusedSimpArgs false
open Go.RowKit Go.Proofs.YtdmkdclockmjbaaDoorW.PrintWords Go.Proofs.YtdmkdclockmjbaaDoorW.PrintLast Go.Proofs.YtdmkdclockmjbaaDoorW.PrintMore

set_option maxHeartbeats 4000000 in
set_option maxRecDepth 100000 in
theorem rustToString_any {T : World → Prop} [Stays T] (r : List UInt8) (L : List Int) (A : Option Addr) (c : Nat) (w : World) (hl : (95 :: 82 :: r).length ≤ 4611686018427387904) (hC : (Kd.int .i64).C w A L.length L)
    (hO : ∀ x ∈ L, x ≠ 1 → isMx x = true → 0 ≤ bits .and .i64 x 2031616 / 65536 ∧ bits .and .i64 x 2031616 / 65536 ≤ 64) (hT : T w)
    (lv : Bool) (hlv : lv = decide ((6 : Int) ∈ L)) (Y : PR) (hYU : Y ≠ .unsaid) (hSY : ∀ wr, RustAt (w.heap.size + 1 + 1) (opts (RS.begin (noDot r) false 0) L) wr → Based T (w.heap.size + 1 + 1) wr → Calls Tryd.prog 32 #[.pointer (some ⟨w.heap.size + 1 + 1, 0, none⟩)] wr fun e w' => PathPost (w.heap.size + 1 + 1) Y wr e w') (X : PR) (hX : X = endM lv (dotOn r) Y) (hU : X ≠ .unsaid) :
    Calls Tryd.prog 24 #[.string (bs (95 :: 82 :: r)), .slice A L.length c] w fun e w' => ToldPost X w e w' := by
  have hmf : ∀ (fn : Fn) (first cap : Array Value) (w : World), (Instr.makeFunc fn first cap).run Tryd.prog w = .ok (.func fn first cap) w := fun _ _ _ _ => rfl
  have HPR := Lib.hid (fun w => prefix_calls (95 :: 82 :: r) w)
  have HZ := Lib.hid (fun w => zzIndex_calls (95 :: 82 :: r) w hl)
  have hnl : (noDot r).length ≤ r.length := by have := congrArg List.length (no_on r); rw [List.length_append] at this; omega
  have hlr : (95 :: 82 :: r).length = r.length + 2 := rfl
  have hS := dot_split r
  have hR : isR (95 :: 82 :: r) = true := rfl
  have HB0 := Lib.hid (begin_rust (noDot r) w (by omega))
  have HBB := Lib.hid (begin_below (noDot r) w)
  have HE0 := Lib.hid (begin_0 (noDot r) w)
  have HE1 := Lib.hid (begin_1 (noDot r) w)
  have HC := Lib.hid hC
  have HO := Lib.hid hO
  have HTB : Hid (Based T (w.heap.size + 1 + 1) (beginW (noDot r) w)) := Lib.hid (Based.mk' hT (by omega) (begin_below (noDot r) w))
  have HLV := Lib.hid hlv
  have HSY0 := Lib.hid hSY
  have HYU := Lib.hid hYU
  have HX := Lib.hid hX
  have HU := Lib.hid hU
  have HLEN : Hid ((noDot r).length ≤ 4611686018427387904 ∧ (dotOn r).length ≤ 4611686018427387904) := Lib.hid (by have := congrArg List.length (no_on r); rw [List.length_append] at this; omega)
  have hnn : Hid (L.length ≤ 9223372036854775807) := Lib.hid (Kd.C_max hC)
  have HX2 : Hid ((bs (95 :: 82 :: noDot r)).extract 2 (95 :: 82 :: noDot r).length = bs (noDot r)) := Lib.hid (bs_extract _ 2)
  have HM2 : Hid (2 ≤ (95 :: 82 :: noDot r).length) := Lib.hid (by simp)
  clear hC hO hT hlv hX hU hnl hlr hSY hYU
  generalize 95 :: 82 :: r = l at *
  generalize hnd : noDot r = nd at *
  generalize hsf : dotOn r = sf at *
  generalize hml : 95 :: 82 :: nd = ml at *
  obtain ⟨hS1, hS2⟩ := hS
  have HD := Lib.hid (dot_cut l)
  rw [hS1, hS2] at HD
  have HNO : Hid (sf = [] → ml = l) := Lib.hid (fun h => by have := no_on l; rw [hS1, hS2, h, List.append_nil] at this; exact this)
  have HDL : Hid (sf ≠ [] → dotAt l = (ml.length : Int)) := Lib.hid (fun h => by rw [dot_len (by rw [hS2]; exact h), hS1])
  have HDN : Hid (sf = [] → dotAt l = -1) := Lib.hid (fun h => by unfold dotAt; rw [if_pos (by rw [hS2]; exact h)])
  have HML : Hid (ml.length ≤ l.length) := Lib.hid (by have := congrArg List.length (no_on l); rw [hS1, List.length_append] at this; omega)
  generalize dotAt l = D at *
  have hz := bs_size l
  have HZM := Lib.hid (bs_size ml)
  have HL := Lib.hid hl
  rw [hR] at HPR
  clear hl hR hS1 hS2 hnd hsf hml
  go_enter_defers Tryd.func24, Tryd.ntmps24
  go_upto_if 23 with (first | (go_at_call 27; refine (HPR.out _).mono ?_; rintro e w1 ⟨rfl, rfl⟩) | (go_at_call 29; refine (HZ.out _).mono ?_; rintro e w1 ⟨rfl, rfl⟩))
  go_cut [0, 6] from 24 to 29 (fun v s wc => v = .string (bs ml) ∧ s = .string (bs sf) ∧ ((w.alloc (.cells #[.string ⟨#[]⟩] 9)).alloc (.cells #[.nilIface] 41)) = wc)
  case first =>
    by_cases hs : sf = []
    · have hd : ¬ 0 ≤ D := by rw [HDN.out hs]; decide
      have HSS := Lib.hid hs
      clear hs
      go_wp2_with fail
      go_meet
      case rel => exact ⟨by rw [HNO.out HSS.out], by rw [HSS.out]; rfl, rfl⟩
    · obtain rfl := HDL.out hs
      obtain ⟨hx1, hx2⟩ := HD.out
      have hle := HML.out
      have hle2 : (ml.length : Int) ≤ (l.length : Int) := by omega
      clear hs
      go_wp2_with fail
      go_meet
      case rel => exact ⟨rfl, rfl, rfl⟩
  case rest =>
  obtain ⟨rfl, rfl, rfl⟩ := hcut
  clear hz HPR HZ HD HNO HDL HDN
  have hx2 := HX2.out
  have hm2 := HM2.out
  have hm3 : (2 : Int) ≤ (ml.length : Int) := by omega
  have hzm := HZM.out
  go_wp2_with fail
  go_loopw [38] (fun v wr => ∃ i : Nat, v = .int .i64 i ∧ i ≤ L.length ∧ RustAt (w.heap.size + 1 + 1) (opts (RS.begin nd false 0) (L.take i)) wr ∧ Fr (w.heap.size + 1 + 1) (beginW nd w) wr) (fun v wr => L.length - (intOf v).toNat)
  case atStart => exact ⟨0, rfl, Nat.zero_le _, HB0.out, Fr.refl _ _⟩
  case round =>
    clear hx2 hm2 hm3 hzm HX2 HM2 HZM HML
    obtain ⟨i, rfl, hi, hr, hb⟩ := hrel
    by_cases hlt : i < L.length
    · have hlt2 : (i : Int) < (L.length : Int) := by omega
      obtain ⟨ad, rfl, hcell⟩ := Kd.at_int (Kd.C_below HC.out (HBB.out.trans (hb.below.mono (by omega)))) (i : Int) (by omega) hlt2
      rw [rd_get hlt, Int.toNat_natCast] at hcell
      have hst := opts_take (RS.begin nd false 0) hlt
      have HOX := Lib.hid (HO.out L[i] (List.getElem_mem hlt))
      have hw : IntKind.i64.wrap ((i : Int) + 1) = (i : Int) + 1 := IntWalk.i64_in _ (by have := hnn.out; omega)
      generalize L[i] = x at *
      by_cases h1 : x = 1
      · subst h1
        have hs1 := hr.setNg true
        rw [show ({ opts (RS.begin nd false 0) (L.take i) with ng := true } : RS) = opts (RS.begin nd false 0) (L.take (i + 1)) by rw [hst]; unfold optStep; rw [if_pos rfl]] at hs1
        have c8 := hr.c8
        have f8 := hr.frozen 8
        have HS1 := Lib.hid hs1
        have HBS := Lib.hid (hb.setCell (p := ⟨w.heap.size + 1 + 1, 8, none⟩) rfl (.bool true))
        clear hr hs1 hst hb HOX
        go_wp2_with fail
        go_roundw
        case rel => exact ⟨i + 1, by simp, by omega, HS1.out, HBS.out⟩
        case measure => simp [intOf]; omega
      · have hx1 : (x == 1) = false := beq_eq_false_iff_ne.2 h1
        cases hm : isMx x with
        | true =>
          have hs1 := hr.setMx (mxLen x)
          rw [show ({ opts (RS.begin nd false 0) (L.take i) with mx := mxLen x } : RS) = opts (RS.begin nd false 0) (L.take (i + 1)) by rw [hst]; unfold optStep; rw [if_neg h1, if_pos hm]] at hs1
          have c9 := hr.c9
          have f9 := hr.frozen 9
          have HS1 := Lib.hid hs1
          have HBS := Lib.hid (hb.setCell (p := ⟨w.heap.size + 1 + 1, 9, none⟩) rfl (.int .i64 (mxLen x)))
          have HIM := Lib.hid (fun w => isMax_calls x w)
          rw [hm] at HIM
          have HML := Lib.hid (fun w => maxLength_calls x (HOX.out h1 hm).1 (HOX.out h1 hm).2 w)
          clear hr hs1 hst hb HOX h1 hm
          go_wp2_with (first | (go_at_call 30; refine (HIM.out _).mono ?_; rintro e w1 ⟨rfl, rfl⟩) | (go_at_call 31; refine (HML.out _).mono ?_; rintro e w1 ⟨rfl, rfl⟩))
          go_roundw
          case rel => exact ⟨i + 1, by simp, by omega, HS1.out, HBS.out⟩
          case measure => simp [intOf]; omega
        | false =>
          have HS1 : Hid (RustAt (w.heap.size + 1 + 1) (opts (RS.begin nd false 0) (L.take (i + 1))) wr) := Lib.hid (by
            rw [hst]; unfold optStep; rw [if_neg h1, if_neg (by rw [hm]; decide)]; exact hr)
          have HBS := Lib.hid hb
          have HIM := Lib.hid (fun w => isMax_calls x w)
          rw [hm] at HIM
          clear hr hst hb HOX h1 hm
          go_wp2_with (go_at_call 30; refine (HIM.out _).mono ?_; rintro e w1 ⟨rfl, rfl⟩)
          go_roundw
          case rel => exact ⟨i + 1, by simp, by omega, HS1.out, HBS.out⟩
          case measure => simp [intOf]; omega
    · have hie : i = L.length := by omega
      rw [hie, List.take_of_length_le (Nat.le_refl _)] at hr
      have hnl : ¬ (i : Int) < (L.length : Int) := by omega
      have HB := Lib.hid hb
      have hXX := HX.out
      have HSY := Lib.hid (HSY0.out wr hr (HTB.out.on hb.below))
      have HXX := Lib.hid hXX
      clear hr hb hie hlt hXX HX HB0 HE0 HE1 HSY0
      go_wp2_with fail
      refine HSY.out.mono ?_
      rintro e w2 hp
      cases Y with
      | unsaid => exact absurd rfl HYU.out
      | bad =>
        obtain ⟨⟨m, o, rfl⟩, hb2⟩ := hp
        have HK := begin_kept (HB.out.trans hb2)
        have hbb := HBB.out.trans ((HB.out.trans hb2).below.mono (by omega))
        go_wp2_with fail
        refine leaves_cons (f := 28) (args := #[.pointer (some ⟨w.heap.size, 0, none⟩), .pointer (some ⟨w.heap.size + 1, 0, none⟩)]) (by simp) (by simp [go_sem]) ?_
        refine (told_panicking w.heap.size _ _ m o [] w2 HK.1 HK.2).mono ?_
        rintro e u' w' ⟨rfl, rfl, h0, h1, hb3⟩
        have d0 : w'.cell? ⟨w.heap.size, 0, none⟩ = some (.string ⟨#[]⟩) := by rw [Lib.cell_of_heap h0]; rfl
        have d1 : w'.cell? ⟨w.heap.size + 1, 0, none⟩ = some (.iface 51 (.agg #[.string m, .int .i64 o])) := by rw [Lib.cell_of_heap h1]; rfl
        have HP := Lib.hid (told_bad_post HXX.out (.agg #[.string m, .int .i64 o]) (hbb.trans hb3))
        clear hmf h0 h1 hb3 hbb HK
        simp [Leaves, settle, results, Tryd.results24, go_sem, d0, d1]
        exact HP.out
      | ok s1 =>
        obtain ⟨rfl, hr2, hb2⟩ := hp
        have c1 := hr2.c1
        have HB2 := Lib.hid (HB.out.trans hb2)
        have HR2 := Lib.hid hr2
        clear hr2 hb2 HB HSY HYU
        cases hs1 : s1.str with
        | cons c1' r1 =>
          rw [hs1] at c1
          have hz := bs_size (c1' :: r1)
          have hp1 : 0 < ((c1' :: r1).length : Int) := by simp
          have HXB : Hid (X = .bad) := Lib.hid (by rw [HXX.out]; simp only [endM]; rw [if_pos (by rw [hs1]; simp)])
          clear hs1
          go_wp2_with fail
          refine (fail_calls _ _ _ _ HR2.out).mono ?_
          rintro e w3 ⟨⟨m, o, rfl⟩, hb3⟩
          have HK := begin_kept (HB2.out.trans hb3)
          have hbb := HBB.out.trans ((HB2.out.trans hb3).below.mono (by omega))
          go_wp2_with fail
          refine leaves_cons (f := 28) (args := #[.pointer (some ⟨w.heap.size, 0, none⟩), .pointer (some ⟨w.heap.size + 1, 0, none⟩)]) (by simp) (by simp [go_sem]) ?_
          refine (told_panicking w.heap.size _ _ m o [] w3 HK.1 HK.2).mono ?_
          rintro e u' w' ⟨rfl, rfl, h0, h1, hb4⟩
          have d0 : w'.cell? ⟨w.heap.size, 0, none⟩ = some (.string ⟨#[]⟩) := by rw [Lib.cell_of_heap h0]; rfl
          have d1 : w'.cell? ⟨w.heap.size + 1, 0, none⟩ = some (.iface 51 (.agg #[.string m, .int .i64 o])) := by rw [Lib.cell_of_heap h1]; rfl
          have HP := Lib.hid (told_bad_post HXB.out (.agg #[.string m, .int .i64 o]) (hbb.trans hb4))
          clear hmf h0 h1 hb3 hbb HK hb4
          simp [Leaves, settle, results, Tryd.results24, go_sem, d0, d1]
          exact HP.out
        | nil =>
          rw [hs1] at c1
          have hz := bs_size []
          have hXX := HXX.out
          simp only [endM] at hXX
          rw [if_neg (by rw [hs1]; simp)] at hXX
          by_cases hrm : s1.room (sf.length + 10)
          case neg => rw [if_neg hrm] at hXX; exact absurd hXX HU.out
          case pos =>
          rw [if_pos hrm] at hXX
          have HXX := Lib.hid hXX
          have HRM : Hid (s1.out.length + (sf.length + 10) ≤ 140737488355000) := Lib.hid hrm
          have ht0 : (bs sf).toList = sf := by simp [bs]
          clear hs1 hXX hrm HU
          go_upto_if 66 with (fail)
          clear ht0
          go_cut [11, 13] from 67 to 86 (fun v u wc => RustAt (w.heap.size + 1 + 1) (suffixed lv sf s1) wc ∧ Fr (w.heap.size + 1 + 1) (beginW nd w) wc)
          case first =>
            by_cases hsf : sf = []
            · have HSX : Hid (suffixed lv sf s1 = s1) := Lib.hid (by unfold suffixed; rw [if_neg (by rintro ⟨_, h⟩; exact h hsf)])
              subst hsf
              go_wp2_with fail
              go_meet
              case rel => exact ⟨by rw [HSX.out]; exact HR2.out, HB2.out⟩
            · have HSF := Lib.hid hsf
              have HHC := Lib.hid (Kd.C_below HC.out (HBB.out.trans (HB2.out.below.mono (by omega))))
              obtain ⟨sf1, sf2, hsf2⟩ : ∃ a b, sf = a :: b := by cases sf; exact absurd rfl hsf; exact ⟨_, _, rfl⟩
              subst hsf2
              go_wp2_with fail
              go_loop [11, 69] (fun t v => t = .bool false ∧ ∃ i : Nat, v = .int .i64 i ∧ i ≤ L.length ∧ Hid (∀ x ∈ L.take i, x ≠ 6)) (fun _ v => L.length - (intOf v).toNat)
              case atStart => exact ⟨rfl, 0, rfl, Nat.zero_le _, Lib.hid (by simp)⟩
              case round =>
                obtain ⟨rfl, j, rfl, hj, HN⟩ := hrel
                by_cases hlt : j < L.length
                · have hlt2 : (j : Int) < (L.length : Int) := by omega
                  obtain ⟨ad, rfl, hcell⟩ := Kd.at_int HHC.out (j : Int) (by omega) hlt2
                  rw [rd_get hlt, Int.toNat_natCast] at hcell
                  have hw : IntKind.i64.wrap ((j : Int) + 1) = (j : Int) + 1 := IntWalk.i64_in _ (by have := hnn.out; omega)
                  have HMEM : Hid (L[j] ∈ L) := Lib.hid (List.getElem_mem hlt)
                  have HTK : Hid (L[j] ≠ 6 → ∀ x ∈ L.take (j + 1), x ≠ 6) := Lib.hid (by
                    intro h; rw [List.take_succ_eq_append_getElem hlt]
                    intro x hx
                    rcases List.mem_append.1 hx with hx | hx
                    · exact HN.out x hx
                    · rw [List.mem_singleton] at hx; rw [hx]; exact h)
                  generalize L[j] = x at *
                  by_cases h6 : x = 6
                  · subst h6
                    have HLT : Hid (lv = true) := Lib.hid (by rw [HLV.out]; exact decide_eq_true HMEM.out)
                    have hsk := HR2.out.setSkip false
                    have HBK := HB2.out.setCell (p := ⟨w.heap.size + 1 + 1, 5, none⟩) rfl (.bool false)
                    have c5 := HR2.out.c5
                    have f5 := HR2.out.frozen 5
                    have HW1 := Lib.hid (writeStr_calls (w.heap.size + 1 + 1) _ [32, 40] _ hsk (by show s1.out.length + _ ≤ _; have := HRM.out; simp; omega))
                    have HBK := Lib.hid HBK
                    have HSX : Hid (suffixed lv (sf1 :: sf2) s1 = (({ s1 with skip := false }.putStr [32, 40]).putStr (sf1 :: sf2)).putByte 41) := Lib.hid (by unfold suffixed; rw [if_pos ⟨HLT.out, HSF.out⟩])
                    have HL1 : Hid (({ s1 with skip := false }.putStr [32, 40]).out.length + (sf1 :: sf2).length + 5 ≤ 140737488355000) := Lib.hid (by
                      have h1 := putStr_len { s1 with skip := false } [32, 40]; simp at h1; have := HRM.out; omega)
                    clear hsk
                    go_wp2_with fail
                    refine HW1.out.mono ?_
                    rintro e w3 ⟨rfl, hr3, hb3⟩
                    have HW2 := Lib.hid (writeStr_calls (w.heap.size + 1 + 1) _ (sf1 :: sf2) w3 hr3 (by have := HL1.out; omega))
                    have HL2 : Hid ((({ s1 with skip := false }.putStr [32, 40]).putStr (sf1 :: sf2)).out.length + 5 ≤ 140737488355000) := Lib.hid (by
                      have h1 := putStr_len ({ s1 with skip := false }.putStr [32, 40]) (sf1 :: sf2); have := HL1.out; omega)
                    clear hr3
                    go_wp2_with fail
                    refine HW2.out.mono ?_
                    rintro e w4 ⟨rfl, hr4, hb4⟩
                    have HW3 := Lib.hid (writeByte_calls (w.heap.size + 1 + 1) _ 41 w4 hr4 (by have := HL2.out; omega))
                    clear hr4
                    go_wp2_with fail
                    refine HW3.out.mono ?_
                    rintro e w5 ⟨rfl, hr5, hb5⟩
                    have HR5 := Lib.hid hr5
                    clear hr5
                    go_wp2_with fail
                    go_meet
                    case rel => exact ⟨by rw [HSX.out]; exact HR5.out, ((HBK.out.trans hb3).trans hb4).trans hb5⟩
                  · have hx6 : (x == 6) = false := beq_eq_false_iff_ne.2 h6
                    have HTK2 := Lib.hid (HTK.out h6)
                    clear h6
                    go_wp2_with fail
                    go_round
                    case rel => exact ⟨rfl, j + 1, by simp, by omega, HTK2⟩
                    case measure => simp [intOf]; omega
                · have hnl : ¬ (j : Int) < (L.length : Int) := by omega
                  have HSX : Hid (suffixed lv (sf1 :: sf2) s1 = s1) := Lib.hid (by
                    unfold suffixed; rw [if_neg]
                    rintro ⟨h, _⟩
                    rw [HLV.out] at h
                    have hm := of_decide_eq_true h
                    have := HN.out 6 (by rw [List.take_of_length_le (by omega)]; exact hm)
                    exact this rfl)
                  clear hlt
                  go_wp2_with fail
                  go_meet
                  case rel => exact ⟨by rw [HSX.out]; exact HR2.out, HB2.out⟩
          case rest =>
          obtain ⟨hr6, hb6⟩ := hcut
          generalize suffixed lv sf s1 = s6 at *
          have c9 := hr6.c9
          have HR6 := Lib.hid hr6
          have HB6 := Lib.hid hb6
          clear hr6 hb6 c1 hz HR2 HB2
          have hz6 := bs_size s6.out
          have h3w : 0 < s6.mx ∧ s6.mx < (s6.out.length : Int) ∨ 0 < s6.mx ∧ ¬ s6.mx < (s6.out.length : Int) ∨ ¬ 0 < s6.mx := by omega
          rcases h3w with ⟨h0, h1⟩ | ⟨h0, h1⟩ | h0
          · have hx := bs_take s6.out s6.mx.toNat
            have HCM : Hid (cutMx s6.mx s6.out = s6.out.take s6.mx.toNat) := Lib.hid (by unfold cutMx; rw [if_pos ⟨h0, h1⟩])
            have h2 : 0 ≤ s6.mx := by omega
            have h3 : s6.mx ≤ (s6.out.length : Int) := by omega
            go_wp2_with (go_at_call 36; refine (string_calls (w.heap.size + 1 + 1) s6 _ HR6.out).mono ?_; rintro e w7 ⟨rfl, hk7, hb7⟩; have c97 := (World.cell?_of_block (w := wc) hk7).trans c9; obtain ⟨d0, d1, z0, z1⟩ := told_cells (begin_kept HB6.out) hb7 (by omega))
            have hE := told_end (t := bs (s6.out.take s6.mx.toNat)) (begin_kept HB6.out) hb7 (by omega)
            have HP := Lib.hid (told_ok_post HXX.out (s6.out.take s6.mx.toNat) HCM.out.symm (HBB.out.trans ((HB6.out.below.mono (by omega)).trans hE.2.2)))
            obtain ⟨k0, k1, _⟩ := hE
            clear hmf d0 d1 z0 z1 hk7 hb7 c97 c9
            refine leaves_cons (f := 28) (args := #[.pointer (some ⟨w.heap.size, 0, none⟩), .pointer (some ⟨w.heap.size + 1, 0, none⟩)]) (by simp) (by simp [go_sem]) ?_
            refine (told_idle _ _ _).mono ?_
            rintro e u' w'' ⟨rfl, rfl, rfl⟩
            simp [Leaves, settle, results, Tryd.results24, go_sem, k0, k1]
            exact HP.out
          · have HCM : Hid (cutMx s6.mx s6.out = s6.out) := Lib.hid (by unfold cutMx; rw [if_neg (by rintro ⟨_, h⟩; exact h1 h)])
            go_wp2_with (go_at_call 36; refine (string_calls (w.heap.size + 1 + 1) s6 _ HR6.out).mono ?_; rintro e w7 ⟨rfl, hk7, hb7⟩; have c97 := (World.cell?_of_block (w := wc) hk7).trans c9; obtain ⟨d0, d1, z0, z1⟩ := told_cells (begin_kept HB6.out) hb7 (by omega))
            have hE := told_end (t := bs s6.out) (begin_kept HB6.out) hb7 (by omega)
            have HP := Lib.hid (told_ok_post HXX.out s6.out HCM.out.symm (HBB.out.trans ((HB6.out.below.mono (by omega)).trans hE.2.2)))
            obtain ⟨k0, k1, _⟩ := hE
            clear hmf d0 d1 z0 z1 hk7 hb7 c97 c9
            refine leaves_cons (f := 28) (args := #[.pointer (some ⟨w.heap.size, 0, none⟩), .pointer (some ⟨w.heap.size + 1, 0, none⟩)]) (by simp) (by simp [go_sem]) ?_
            refine (told_idle _ _ _).mono ?_
            rintro e u' w'' ⟨rfl, rfl, rfl⟩
            simp [Leaves, settle, results, Tryd.results24, go_sem, k0, k1]
            exact HP.out
          · have HCM : Hid (cutMx s6.mx s6.out = s6.out) := Lib.hid (by unfold cutMx; rw [if_neg (by rintro ⟨h, _⟩; exact h0 h)])
            go_wp2_with (go_at_call 36; refine (string_calls (w.heap.size + 1 + 1) s6 _ HR6.out).mono ?_; rintro e w7 ⟨rfl, hk7, hb7⟩; have c97 := (World.cell?_of_block (w := wc) hk7).trans c9; obtain ⟨d0, d1, z0, z1⟩ := told_cells (begin_kept HB6.out) hb7 (by omega))
            have hE := told_end (t := bs s6.out) (begin_kept HB6.out) hb7 (by omega)
            have HP := Lib.hid (told_ok_post HXX.out s6.out HCM.out.symm (HBB.out.trans ((HB6.out.below.mono (by omega)).trans hE.2.2)))
            obtain ⟨k0, k1, _⟩ := hE
            clear hmf d0 d1 z0 z1 hk7 hb7 c97 c9
            refine leaves_cons (f := 28) (args := #[.pointer (some ⟨w.heap.size, 0, none⟩), .pointer (some ⟨w.heap.size + 1, 0, none⟩)]) (by simp) (by simp [go_sem]) ?_
            refine (told_idle _ _ _).mono ?_
            rintro e u' w'' ⟨rfl, rfl, rfl⟩
            simp [Leaves, settle, results, Tryd.results24, go_sem, k0, k1]
            exact HP.out

set_option maxHeartbeats 2000000 in
set_option maxRecDepth 100000 in
theorem symbolName_generic (b : Nat) (s : RS) (c : UInt8) (t : List UInt8) (w : World) (h : RustAt b s w) (hm : Based MapIs b w) (hs : s.str = 73 :: 67 :: 49 :: 109 :: c :: 69 :: []) (hng : s.ng = false) (ht : Dm.btext c = some t) (hlow : isLow c = true) (hlen : s.out.length + 100 ≤ 140737488355000) :
    Calls Tryd.prog 32 #[.pointer (some ⟨b, 0, none⟩)] w fun e w' => PathPost b (.ok (genS s c [] t)) w e w' := by
  have h1 := h.c1
  rw [hs] at h1
  have hz := bs_size (73 :: 67 :: 49 :: 109 :: c :: 69 :: [])
  have HP := Lib.hid (path_generic b s c [] t w h hm hs hng ht hlow hlen)
  have HS : Hid ((genS s c [] t).str = []) := Lib.hid rfl
  generalize genS s c [] t = S at *
  clear hs h hm hng ht hlow hlen
  go_enter Tryd.func32, Tryd.ntmps32
  go_wp2_with (first | (go_at_call 42; refine (isDigit_calls _ _).mono ?_; rintro e w1 ⟨rfl, rfl⟩) | fail)
  refine HP.out.mono ?_
  rintro e w2 ⟨rfl, hr2, hb2⟩
  have h12 := hr2.c1
  rw [HS.out] at h12
  have hz := bs_size []
  have H2 := Lib.hid (And.intro hr2 hb2)
  clear hr2 hb2
  go_wp2_with fail
  go_end0
  exact path_ok rfl H2.out.1 H2.out.2

/-! ### Told -/
def DoorB (w : World) : Prop := DoorIs w ∧ MapIs w
instance : Stays DoorB := ⟨fun h hb => ⟨Stays.below h.1 hb, Stays.below h.2 hb⟩⟩
/-- The name of one generic argument: a letter; else nothing. -/
def genOf : List UInt8 → Option (UInt8 × List UInt8)
  | [95, 82, 73, 67, 49, 109, c, 69] => if isLow c = true then (match Dm.btext c with | some t => some (c, t) | none => none) else none
  | _ => none
theorem genOf_eq {l : List UInt8} {c : UInt8} {t : List UInt8} (h : genOf l = some (c, t)) : l = [95, 82, 73, 67, 49, 109, c, 69] ∧ isLow c = true ∧ Dm.btext c = some t := by
  unfold genOf at h
  split at h
  · rename_i c'
    split at h
    · rename_i hl
      split at h
      · rename_i t' ht
        simp only [Option.some.injEq, Prod.mk.injEq] at h
        obtain ⟨rfl, rfl⟩ := h
        exact ⟨rfl, hl, ht⟩
      · cases h
    · cases h
  · cases h
def impl_ToldB.f (a0 : ByteArray) (o0 o1 o2 o3 o4 o5 o6 : Bool) (o7 : Int) : Option (ByteArray × Int) :=
  match genOf a0.data.toList with
  | some (c, t) => if o0 = false ∧ o1 = false ∧ o2 = false ∧ o3 = false ∧ o4 = false ∧ o5 = false ∧ o6 = false ∧ o7 = 0 then some (bs ([109, 58, 58, 60] ++ t ++ [62]), 0) else none
  | none => none

theorem gen_out (c : UInt8) (t : List UInt8) (l : List UInt8) : Shown 0 ([] ++ [109] ++ [58, 58] ++ [60] ++ t ++ [62]) (genS (RS.begin l false 0) c [] t) := by
  unfold genS
  exact (((((((shown_begin l false 0).adv _).putStr [109]).putStr [58, 58]).putByte 60).adv _).putStr t).putByte 62 |>.adv _
set_option maxHeartbeats 1000000 in
set_option maxRecDepth 100000 in
theorem rts_gen (c : UInt8) (t : List UInt8) (hlow : isLow c = true) (ht : Dm.btext c = some t) (A : Option Addr) (c0 : Nat) (w : World) (hT : DoorB w)
    (hC : (Kd.int .i64).C w A (optL false false false false false false false 0).length (optL false false false false false false false 0)) :
    Calls Tryd.prog 20 #[.string (bs [95, 82, 73, 67, 49, 109, c, 69]), .slice A (optL false false false false false false false 0).length c0] w fun e w' => e = .returned (.tuple #[.string (bs ([109, 58, 58, 60] ++ t ++ [62])), .nilIface]) ∧ Below w.heap.size w w' := by
  have hn46 : ∀ x ∈ [73, 67, 49, 109, c, 69], x ≠ 46 := by
    have := low_nums hlow
    intro x hx
    simp only [List.mem_cons, List.not_mem_nil, or_false] at hx
    rcases hx with rfl | rfl | rfl | rfl | rfl | rfl
    all_goals first | decide | (rintro rfl; revert this; decide)
  have hnd : noDot [73, 67, 49, 109, c, 69] = [73, 67, 49, 109, c, 69] := by
    have := noDot_app (r := []) hn46 (.inl rfl); rwa [List.append_nil] at this
  have hdo : dotOn [73, 67, 49, 109, c, 69] = [] := by
    have := dotOn_app (r := []) hn46 (.inl rfl); rwa [List.append_nil] at this
  have ho : opts (RS.begin (noDot [73, 67, 49, 109, c, 69]) false 0) (optL false false false false false false false 0) = RS.begin [73, 67, 49, 109, c, 69] false 0 := by rw [hnd]; rfl
  have hS := gen_out c t [73, 67, 49, 109, c, 69]
  have htl := Dm.btext_short c t ht
  have hX : PR.ok (genS (RS.begin [73, 67, 49, 109, c, 69] false 0) c [] t) = endM false (dotOn [73, 67, 49, 109, c, 69]) (.ok (genS (RS.begin [73, 67, 49, 109, c, 69] false 0) c [] t)) := by
    rw [hdo]
    simp only [endM]
    rw [if_neg (by intro h; exact h rfl), if_pos (by unfold RS.room; have := hS.len; simp at this ⊢; omega)]
    unfold suffixed
    rw [if_neg (by rintro ⟨h, _⟩; cases h)]
  have hc := rustToString_any (T := DoorB) [73, 67, 49, 109, c, 69] _ A c0 w (by simp) hC (optL_ok _ _ _ _ _ _ _ 0 (by decide)) hT false (optL_six _ _ _ _ _ _ _ 0 (by decide)) (.ok (genS (RS.begin [73, 67, 49, 109, c, 69] false 0) c [] t)) (by intro e; cases e)
    (fun wr hr hb => by
      rw [ho] at hr
      obtain ⟨w0, k0, k1, k2⟩ := hb
      exact symbolName_generic _ _ c t wr hr ⟨w0, k0.2, k1, k2⟩ rfl rfl ht hlow (by simp [RS.begin])) _ hX (by intro e; cases e)
  refine rts_calls _ _ w _ (fun e w' hp => ⟨_, _, hp.1⟩) (hc.mono ?_)
  rintro e w' ⟨rfl, hb⟩
  refine ⟨?_, hb⟩
  rw [hS.cuts]
  unfold cutMx
  rw [if_neg (by omega)]
  simp

set_option maxHeartbeats 1000000 in
set_option maxRecDepth 100000 in
theorem toldB_calls (c : UInt8) (t : List UInt8) (hlow : isLow c = true) (ht : Dm.btext c = some t) (w : World) (hT : DoorB w) :
    Calls Tryd.prog 17 #[.string (bs [95, 82, 73, 67, 49, 109, c, 69]), .agg #[.bool false, .bool false, .bool false, .bool false, .bool false, .bool false, .bool false, .int .i64 0]] w fun e w' => e = .returned (.tuple #[.string (bs ([109, 58, 58, 60] ++ t ++ [62])), .int .i64 0]) ∧ Below w.heap.size w w' := by
  have hu := Tryd.underlying39
  have HL := Lib.hid (list_calls false false false false false false false 0 (by decide))
  have HB1 := Lib.hid ((Below.refl _ w).alloc (Nat.le_refl _) (.cells #[.bool false, .bool false, .bool false, .bool false, .bool false, .bool false, .bool false, .int .i64 0] 39))
  have HT := Lib.hid hT
  have HR := Lib.hid (fun A c0 w hT hC => rts_gen c t hlow ht A c0 w hT hC)
  clear hT hlow ht
  generalize [95, 82, 73, 67, 49, 109, c, 69] = l at *
  generalize [109, 58, 58, 60] ++ t ++ [62] = u at *
  go_enter Tryd.func17, Tryd.ntmps17
  go_wp2_with fail
  refine (HL.out _).mono ?_
  rintro e w2 ⟨A, c0, rfl, hC, hb2⟩
  have HB2 := Lib.hid (HB1.out.trans (hb2.mono (by simp)))
  have HC := Lib.hid hC
  have h1 := neq_nils
  clear hC hb2 hu
  go_wp2_with fail
  refine (HR.out A c0 w2 (Stays.below HT.out HB2.out) HC.out).mono ?_
  rintro e w3 ⟨rfl, hb3⟩
  have HB3 := Lib.hid (HB2.out.trans (hb3.mono HB2.out.size))
  clear hb3
  go_wp2_with fail
  refine bodyPost_ret (v := .tuple #[.string (bs u), .int .i64 0]) ?_ rfl ⟨rfl, HB3.out⟩
  simp [results, Tryd.results17, go_sem]

theorem impl_ToldB.calls (a0 : ByteArray) (o0 o1 o2 o3 o4 o5 o6 : Bool) (o7 : Int) (r1 : ByteArray) (r2 : Int) (w : World) (hT_ : DoorB w) (h : impl_ToldB.f a0 o0 o1 o2 o3 o4 o5 o6 o7 = some (r1, r2)) :
    Calls Tryd.prog 17 #[.string a0, .agg #[.bool o0, .bool o1, .bool o2, .bool o3, .bool o4, .bool o5, .bool o6, .int .i64 o7]] w fun e w' => e = .returned (.tuple #[.string r1, .int .i64 r2]) ∧ Below w.heap.size w w' := by
  unfold impl_ToldB.f at h
  have ea : bs a0.data.toList = a0 := by apply ByteArray.ext; show a0.data.toList.toArray = a0.data; simp
  cases hg : genOf a0.data.toList with
  | none => rw [hg] at h; cases h
  | some x =>
    obtain ⟨c, t⟩ := x
    rw [hg] at h
    simp only at h
    split at h
    · rename_i ho
      obtain ⟨rfl, rfl, rfl, rfl, rfl, rfl, rfl, rfl⟩ := ho
      simp only [Option.some.injEq, Prod.mk.injEq] at h
      obtain ⟨rfl, rfl⟩ := h
      obtain ⟨e, hl, ht⟩ := genOf_eq hg
      rw [← ea, e]
      exact toldB_calls c t hl ht w hT_
    · cases h
end Go.Proofs.YtdmkdclockmjbaaDoor
