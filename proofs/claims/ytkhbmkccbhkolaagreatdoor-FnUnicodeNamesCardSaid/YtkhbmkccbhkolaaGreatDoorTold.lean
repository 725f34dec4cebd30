/- rustToString: the reader is run over a name; its own panic is turned into an error. -/
import Derived.Test.YtkhbmkccbhkolaaGreatDoorM4
import Derived.Test.YtkhbmkccbhkolaaGreatDoorPO
import Derived.Test.YtkhbmkccbhkolaaGreatDoorWMore
import Derived.Defers
import Derived.Recover
import Derived.Laws.Pointers
import Derived.Deep.RegionWith
namespace Go.Proofs.YtkhbmkccbhkolaaGreatDoor
set_option linter.unusedVariables false
set_option linter.unusedSimpArgs false
open Go.RowKit Go.Proofs.YtkhbmkccbhkolaaGreatDoorW.PrintWords Go.Proofs.YtkhbmkccbhkolaaGreatDoorW.PrintLast Go.Proofs.YtkhbmkccbhkolaaGreatDoorW.PrintMore

/-! ### the deferred closure -/
theorem told_idle (p q : Value) (w : World) :
    CallsD Tryz.prog 32 #[p, q] .returning w fun e u' w' => e = .returned (.tuple #[]) ∧ u' = .returning ∧ w' = w := by
  refine callsD_of_wpS Tryz.func32 rfl fun c₀ cs hu => ?_
  apply wpS_seq
  apply wpS_region
  simp [wpOpsS, go_sem, recoverD, hu, Tryz.ntmps32, Exit.thenS]
  apply wpS_seq
  apply wpS_region
  simp [wpOpsS, go_sem, Exit.thenS]
  refine wpS_cond (t := false) (by simp [Act.eval, Array.replicate]) ?_
  simp only [Bool.false_eq_true, if_false]
  refine wpS_of_wp (wp_skip ?_)
  cases c₀
  simp_all [bodyPostS, results, Tryz.results32]

/-- The named results behind a panic that was caught. -/
def ToldCaught (n : Nat) (m : ByteArray) (o : Int) (w w' : World) : Prop :=
  w'.heap[n]? = some (.cells #[.string ⟨#[]⟩] 9 (0, 0)) ∧ w'.heap[n + 1]? = some (.cells #[.iface 64 (.agg #[.string m, .int .i64 o])] 44 (0, 0)) ∧ Below n w w'
def ToldCaughtEnd (n : Nat) (m : ByteArray) (o : Int) (w : World) (e : Exit) (a : Act) (w' : World) : Prop :=
  e = .ret ∧ a.defers = [] ∧ ToldCaught n m o w w'

theorem told_caught_mk {n : Nat} {x0 x1 : Value} (m : ByteArray) (o : Int) {w : World}
    (h0 : w.heap[n]? = some (.cells #[x0] 9 (0, 0))) (h1 : w.heap[n + 1]? = some (.cells #[x1] 44 (0, 0))) (O : Obj) :
    ToldCaught n m o w (((w.alloc O).setCell ⟨n, 0, none⟩ (.string ⟨#[]⟩)).setCell ⟨n + 1, 0, none⟩ (.iface 64 (.agg #[.string m, .int .i64 o]))) := by
  have hlt : n + 1 < w.heap.size := (Array.getElem?_eq_some_iff.1 h1).1
  have e0 := (Lib.alloc_old w O n (by omega)).trans h0
  have e1 := (Lib.alloc_old w O (n + 1) (by omega)).trans h1
  have q3 : ¬ n + 1 = n := by omega
  have q4 : ¬ n = n + 1 := by omega
  refine ⟨?_, ?_, ?_⟩
  · simp [World.setCell, Array.getElem?_modify, e0, q3, q4]
  · simp [World.setCell, Array.getElem?_modify, e1, q3, q4]
  · exact (((Below.refl n w).alloc (by omega) O).setCell (p := ⟨n, 0, none⟩) (Nat.le_refl _) _).setCell (p := ⟨n + 1, 0, none⟩) (by simp) _

set_option maxRecDepth 100000 in
theorem told_panicking (n : Nat) (x0 x1 : Value) (m : ByteArray) (o : Int) (older : List PanicEntry) (w : World)
    (h0 : w.heap[n]? = some (.cells #[x0] 9 (0, 0))) (h1 : w.heap[n + 1]? = some (.cells #[x1] 44 (0, 0))) :
    CallsD Tryz.prog 32 #[.pointer (some ⟨n, 0, none⟩), .pointer (some ⟨n + 1, 0, none⟩)] (.panicking ({ v := .iface 64 (.agg #[.string m, .int .i64 o]), recovered := false } :: older)) w fun e u' w' =>
      e = .returned (.tuple #[]) ∧ u' = .panicking ({ v := .iface 64 (.agg #[.string m, .int .i64 o]), recovered := true } :: older) ∧ ToldCaught n m o w w' := by
  have hta : ∀ (v : Value) (W : World), (Instr.typeAssert (.iface 64 v) 20 64 true).run Tryz.prog W = .ok (.tuple #[v, .bool true]) W := fun v W => by rfl
  have hlt : n + 1 < w.heap.size := (Array.getElem?_eq_some_iff.1 h1).1
  refine callsD_of_wpS Tryz.func32 rfl fun c₀ cs hu => ?_
  apply wpS_seq
  apply wpS_region
  simp [wpOpsS, go_sem, recoverD, hu, Tryz.ntmps32, Exit.thenS]
  apply wpS_seq
  apply wpS_region
  simp [wpOpsS, go_sem, Exit.thenS]
  refine wpS_cond (t := true) (by simp [Act.eval, Array.replicate]) ?_
  simp only [if_true]
  apply wpS_seq
  apply wpS_seq
  apply wpS_region
  simp [wpOpsS, go_sem, Exit.thenS, hta]
  apply wpS_seq
  apply wpS_region
  simp [wpOpsS, go_sem, Exit.thenS]
  refine wpS_cond (t := true) (by simp [Act.eval, Array.replicate]) ?_
  simp only [if_true]
  refine wpS_of_wp (wp_mono (Q := ToldCaughtEnd n m o w) ?_ ?_)
  · have e0 : ∀ O, (w.alloc O).heap[n]? = _ := fun O => (Lib.alloc_old w O n (by omega)).trans h0
    have e1 : ∀ O, (w.alloc O).heap[n + 1]? = _ := fun O => (Lib.alloc_old w O (n + 1) (by omega)).trans h1
    have c0 : ∀ O, (w.alloc O).cell? ⟨n, 0, none⟩ = some x0 := fun O => by rw [Lib.cell_of_heap (e0 O)]; rfl
    have c1 : ∀ O, (w.alloc O).cell? ⟨n + 1, 0, none⟩ = some x1 := fun O => by rw [Lib.cell_of_heap (e1 O)]; rfl
    have z0 : ∀ O, (w.alloc O).frozen? ⟨n, 0, none⟩ = false := fun O => Lib.frozen_of_heap (e0 O) 0
    have z1 : ∀ O, (w.alloc O).frozen? ⟨n + 1, 0, none⟩ = false := fun O => Lib.frozen_of_heap (e1 O) 0
    have HC := Lib.hid (told_caught_mk m o h0 h1)
    clear h0 h1 e0 e1 hta hu
    go_wp2
    all_goals exact ⟨rfl, rfl, HC.out _⟩
  · rintro e a w' ⟨rfl, hd, hc⟩
    cases c₀
    simp_all [bodyPostS, results, Tryz.results32, Exit.thenS]

/-! ### names and options -/
def optStep (s : RS) (x : Int) : RS := if x = 1 then { s with ng := true } else if isMx x then { s with mx := mxLen x } else s
def opts (s : RS) (L : List Int) : RS := L.foldl optStep s
theorem opts_snoc (s : RS) (L : List Int) (x : Int) : opts s (L ++ [x]) = optStep (opts s L) x := by unfold opts; rw [List.foldl_append]; rfl
theorem optStep_off (s : RS) (x : Int) : (optStep s x).str = s.str ∧ (optStep s x).off = s.off := by
  unfold optStep
  repeat' split
  all_goals exact ⟨rfl, rfl⟩
theorem RustAt.setNg {b : Nat} {s : RS} {w : World} (h : RustAt b s w) (x : Bool) : RustAt b { s with ng := x } (w.setCell ⟨b, 8, none⟩ (.bool x)) :=
  h.set (s' := { s with ng := x }) 8 _ (fun _ _ => rfl) rfl h.1
theorem RustAt.setMx {b : Nat} {s : RS} {w : World} (h : RustAt b s w) (x : Int) : RustAt b { s with mx := x } (w.setCell ⟨b, 9, none⟩ (.int .i64 x)) :=
  h.set (s' := { s with mx := x }) 9 _ (fun _ _ => rfl) rfl h.1
/-- The name in front of the dot, and what the dot begins. -/
theorem dot_split (r : List UInt8) : noDot (95 :: 82 :: r) = 95 :: 82 :: noDot r ∧ dotOn (95 :: 82 :: r) = dotOn r := by
  unfold noDot dotOn
  constructor
  · rw [List.takeWhile_cons_of_pos (by decide), List.takeWhile_cons_of_pos (by decide)]
  · rw [List.dropWhile_cons_of_pos (by decide), List.dropWhile_cons_of_pos (by decide)]
theorem no_on (l : List UInt8) : noDot l ++ dotOn l = l := List.takeWhile_append_dropWhile
theorem dot_len {l : List UInt8} (h : dotOn l ≠ []) : dotAt l = ((noDot l).length : Int) := by unfold dotAt; rw [if_neg h]
theorem dot_cut (l : List UInt8) : (bs l).extract (noDot l).length l.length = bs (dotOn l) ∧ (bs l).extract 0 (noDot l).length = bs (noDot l) := by
  have h := no_on l
  constructor
  · rw [bs_extract]
    conv => lhs; arg 1; arg 2; rw [← h]
    rw [List.drop_left]
  · rw [bs_take]
    conv => lhs; arg 1; arg 2; rw [← h]
    rw [List.take_left]
theorem rust_begin (l : List UInt8) (w : World) (h : l.length ≤ 4611686018427387904) :
    RustAt w.heap.size (RS.begin l false 0) (w.alloc (.cells ((RS.begin l false 0).cells (.pointer none) (.slice none 0 0)) 72)) :=
  ⟨⟨Int.le_refl _, by simp [RS.begin]; omega⟩, none, .slice none 0 0, heap_alloc_new w _, .inl rfl, World.ownsRow_nil _ _ _ _, by simp [Value.ownBlock]⟩
/-- The world in which the options are read: two named results, and the state. -/
def beginW (l : List UInt8) (w : World) : World :=
  ((w.alloc (.cells #[.string ⟨#[]⟩] 9)).alloc (.cells #[.nilIface] 44)).alloc
    (.cells #[.string (bs l), .string (bs l), .int .i64 0, .pointer none, .slice none 0 0, .bool false, .int .i64 0, .int .u8 0, .bool false, .int .i64 0] 72)
theorem begin_rust (l : List UInt8) (w : World) (hl : l.length ≤ 4611686018427387904) : RustAt (w.heap.size + 1 + 1) (RS.begin l false 0) (beginW l w) := by
  have := rust_begin l ((w.alloc (.cells #[.string ⟨#[]⟩] 9)).alloc (.cells #[.nilIface] 44)) hl
  simp only [World.size_alloc] at this
  exact this
theorem begin_below (l : List UInt8) (w : World) : Below w.heap.size w (beginW l w) :=
  (((Below.refl _ w).alloc (Nat.le_refl _) _).alloc (by simp) _).alloc (by simp; omega) _
theorem begin_0 (l : List UInt8) (w : World) : (beginW l w).heap[w.heap.size]? = some (.cells #[.string ⟨#[]⟩] 9 (0, 0)) := by
  unfold beginW
  rw [Lib.alloc_old _ _ _ (by simp only [World.size_alloc]; omega), Lib.alloc_old _ _ _ (by simp only [World.size_alloc]; omega)]
  exact heap_alloc_new w _
theorem begin_1 (l : List UInt8) (w : World) : (beginW l w).heap[w.heap.size + 1]? = some (.cells #[.nilIface] 44 (0, 0)) := by
  unfold beginW
  rw [Lib.alloc_old _ _ _ (by simp only [World.size_alloc]; omega)]
  have := heap_alloc_new (w.alloc (.cells #[.string ⟨#[]⟩] 9)) (.cells #[.nilIface] 44)
  simp only [World.size_alloc] at this
  exact this

/-- What rustToString leaves. -/
def ToldPost (X : PR) (w : World) (e : Ending) (w' : World) : Prop :=
  match X with
  | .ok s => e = .returned (.tuple #[.string (bs (cutMx s.mx s.out)), .nilIface]) ∧ Below w.heap.size w w'
  | .bad => (∃ v, e = .returned (.tuple #[.string ⟨#[]⟩, .iface 64 v])) ∧ Below w.heap.size w w'
  | .unsaid => True

theorem rd_get {L : List Int} {i : Nat} (h : i < L.length) : rd L (i : Int) = L[i] := by
  unfold rd
  rw [Int.toNat_natCast, List.getD_eq_getElem?_getD, List.getElem?_eq_getElem h]; rfl
theorem opts_take (s : RS) {L : List Int} {i : Nat} (h : i < L.length) : opts s (L.take (i + 1)) = optStep (opts s (L.take i)) L[i] := by
  rw [List.take_succ_eq_append_getElem h, opts_snoc]

theorem told_bad_post {X : PR} (h : X = .bad) {w w' : World} (v : Value) (hb : Below w.heap.size w w') : ToldPost X w (.returned (.tuple #[.string ⟨#[]⟩, .iface 64 v])) w' := by subst h; exact ⟨⟨v, rfl⟩, hb⟩
theorem told_ok_post {X : PR} {s : RS} (h : X = .ok s) {w w' : World} (t : List UInt8) (ht : t = cutMx s.mx s.out) (hb : Below w.heap.size w w') : ToldPost X w (.returned (.tuple #[.string (bs t), .nilIface])) w' := by subst h; exact ⟨by rw [ht], hb⟩
/-- The two named results are as they were. -/
theorem begin_kept {nd : List UInt8} {w w' : World} (h : Fr (w.heap.size + 1 + 1) (beginW nd w) w') :
    w'.heap[w.heap.size]? = some (.cells #[.string ⟨#[]⟩] 9 (0, 0)) ∧ w'.heap[w.heap.size + 1]? = some (.cells #[.nilIface] 44 (0, 0)) :=
  ⟨(h.block _ (by omega)).trans (begin_0 nd w), (h.block _ (by omega)).trans (begin_1 nd w)⟩

theorem told_cells {n b : Nat} {w2 w7 : World} (h : w2.heap[n]? = some (.cells #[.string ⟨#[]⟩] 9 (0, 0)) ∧ w2.heap[n + 1]? = some (.cells #[.nilIface] 44 (0, 0))) (hb : Below b w2 w7) (hn : n + 1 < b) :
    w7.cell? ⟨n, 0, none⟩ = some (.string ⟨#[]⟩) ∧ w7.cell? ⟨n + 1, 0, none⟩ = some .nilIface ∧ w7.frozen? ⟨n, 0, none⟩ = false ∧ w7.frozen? ⟨n + 1, 0, none⟩ = false := by
  have e0 := (hb.block n (by omega)).trans h.1
  have e1 := (hb.block (n + 1) (by omega)).trans h.2
  refine ⟨?_, ?_, Lib.frozen_of_heap e0 0, Lib.frozen_of_heap e1 0⟩
  · rw [Lib.cell_of_heap e0]; rfl
  · rw [Lib.cell_of_heap e1]; rfl
theorem told_end {n b : Nat} {t : ByteArray} {w2 w7 : World} (h : w2.heap[n]? = some (.cells #[.string ⟨#[]⟩] 9 (0, 0)) ∧ w2.heap[n + 1]? = some (.cells #[.nilIface] 44 (0, 0))) (hb : Below b w2 w7) (hn : n + 1 < b) :
    ((w7.setCell ⟨n, 0, none⟩ (.string t)).setCell ⟨n + 1, 0, none⟩ .nilIface).cell? ⟨n, 0, none⟩ = some (.string t) ∧
    ((w7.setCell ⟨n, 0, none⟩ (.string t)).setCell ⟨n + 1, 0, none⟩ .nilIface).cell? ⟨n + 1, 0, none⟩ = some .nilIface ∧
    Below n w2 ((w7.setCell ⟨n, 0, none⟩ (.string t)).setCell ⟨n + 1, 0, none⟩ .nilIface) := by
  have e0 := (hb.block n (by omega)).trans h.1
  have e1 := (hb.block (n + 1) (by omega)).trans h.2
  have q3 : ¬ n + 1 = n := by omega
  have q4 : ¬ n = n + 1 := by omega
  refine ⟨?_, ?_, ((hb.mono (show n ≤ b by omega)).setCell (p := ⟨n, 0, none⟩) (Nat.le_refl _) _).setCell (p := ⟨n + 1, 0, none⟩) (by simp) _⟩
  · simp [World.cell?, World.setCell, Array.getElem?_modify, e0, q3, q4]
  · simp [World.cell?, World.setCell, Array.getElem?_modify, e1, q3, q4]

set_option maxHeartbeats 4000000 in
set_option maxRecDepth 100000 in
theorem rustToString_calls (r : List UInt8) (L : List Int) (A : Option Addr) (c : Nat) (w : World) (hl : (95 :: 82 :: r).length ≤ 4611686018427387904) (hC : (Kd.int .i64).C w A L.length L)
    (hO : ∀ x ∈ L, x ≠ 1 → isMx x = true → 0 ≤ bits .and .i64 x 2031616 / 65536 ∧ bits .and .i64 x 2031616 / 65536 ≤ 64) (hT : StrIs w)
    (lv : Bool) (hlv : lv = decide ((6 : Int) ∈ L)) (k : Nat) (X : PR) (hX : X = endM lv (dotOn r) (symM k (opts (RS.begin (noDot r) false 0) L))) (hU : X ≠ .unsaid) :
    Calls Tryz.prog 21 #[.string (bs (95 :: 82 :: r)), .slice A L.length c] w fun e w' => ToldPost X w e w' := by
  have hmf : ∀ (fn : Fn) (first cap : Array Value) (w : World), (Instr.makeFunc fn first cap).run Tryz.prog w = .ok (.func fn first cap) w := fun _ _ _ _ => rfl
  have HPR := Lib.hid (fun w => prefix_calls (95 :: 82 :: r) w)
  have HZ := Lib.hid (fun w => zzIndex_calls (95 :: 82 :: r) w hl)
  have hnl : (noDot r).length ≤ r.length := by have := congrArg List.length (no_on r); rw [List.length_append] at this; omega
  have hlr : (95 :: 82 :: r).length = r.length + 2 := rfl
  have hS := dot_split r
  have hR : isR (95 :: 82 :: r) = true := rfl
  have HB0 := Lib.hid (begin_rust (noDot r) w (by omega))
  have HBB := Lib.hid (begin_below (noDot r) w)
  have HE0 := Lib.hid (begin_0 (noDot r) w)
  have HE1 := Lib.hid (begin_1 (noDot r) w)
  have HC := Lib.hid hC
  have HO := Lib.hid hO
  have HTB : Hid (Based StrIs (w.heap.size + 1 + 1) (beginW (noDot r) w)) := Lib.hid (Based.mk' hT (by omega) (begin_below (noDot r) w))
  have HLV := Lib.hid hlv
  have HX := Lib.hid hX
  have HU := Lib.hid hU
  have HLEN : Hid ((noDot r).length ≤ 4611686018427387904 ∧ (dotOn r).length ≤ 4611686018427387904) := Lib.hid (by have := congrArg List.length (no_on r); rw [List.length_append] at this; omega)
  have hnn : Hid (L.length ≤ 9223372036854775807) := Lib.hid (Kd.C_max hC)
  have HX2 : Hid ((bs (95 :: 82 :: noDot r)).extract 2 (95 :: 82 :: noDot r).length = bs (noDot r)) := Lib.hid (bs_extract _ 2)
  have HM2 : Hid (2 ≤ (95 :: 82 :: noDot r).length) := Lib.hid (by simp)
  clear hC hO hT hlv hX hU hnl hlr
  generalize 95 :: 82 :: r = l at *
  generalize hnd : noDot r = nd at *
  generalize hsf : dotOn r = sf at *
  generalize hml : 95 :: 82 :: nd = ml at *
  obtain ⟨hS1, hS2⟩ := hS
  have HD := Lib.hid (dot_cut l)
  rw [hS1, hS2] at HD
  have HNO : Hid (sf = [] → ml = l) := Lib.hid (fun h => by have := no_on l; rw [hS1, hS2, h, List.append_nil] at this; exact this)
  have HDL : Hid (sf ≠ [] → dotAt l = (ml.length : Int)) := Lib.hid (fun h => by rw [dot_len (by rw [hS2]; exact h), hS1])
  have HDN : Hid (sf = [] → dotAt l = -1) := Lib.hid (fun h => by unfold dotAt; rw [if_pos (by rw [hS2]; exact h)])
  have HML : Hid (ml.length ≤ l.length) := Lib.hid (by have := congrArg List.length (no_on l); rw [hS1, List.length_append] at this; omega)
  generalize dotAt l = D at *
  have hz := bs_size l
  have HZM := Lib.hid (bs_size ml)
  have HL := Lib.hid hl
  rw [hR] at HPR
  clear hl hR hS1 hS2 hnd hsf hml
  go_enter_defers Tryz.func21, Tryz.ntmps21
  go_upto_if 23 with (first | (go_at_call 31; refine (HPR.out _).mono ?_; rintro e w1 ⟨rfl, rfl⟩) | (go_at_call 33; refine (HZ.out _).mono ?_; rintro e w1 ⟨rfl, rfl⟩))
  go_cut [0, 6] from 24 to 29 (fun v s wc => v = .string (bs ml) ∧ s = .string (bs sf) ∧ ((w.alloc (.cells #[.string ⟨#[]⟩] 9)).alloc (.cells #[.nilIface] 44)) = wc)
  case first =>
    by_cases hs : sf = []
    · have hd : ¬ 0 ≤ D := by rw [HDN.out hs]; decide
      have HSS := Lib.hid hs
      clear hs
      go_wp2_with fail
      go_meet
      case rel => exact ⟨by rw [HNO.out HSS.out], by rw [HSS.out]; rfl, rfl⟩
    · obtain rfl := HDL.out hs
      obtain ⟨hx1, hx2⟩ := HD.out
      have hle := HML.out
      have hle2 : (ml.length : Int) ≤ (l.length : Int) := by omega
      clear hs
      go_wp2_with fail
      go_meet
      case rel => exact ⟨rfl, rfl, rfl⟩
  case rest =>
  obtain ⟨rfl, rfl, rfl⟩ := hcut
  clear hz HPR HZ HD HNO HDL HDN
  have hx2 := HX2.out
  have hm2 := HM2.out
  have hm3 : (2 : Int) ≤ (ml.length : Int) := by omega
  have hzm := HZM.out
  go_wp2_with fail
  go_loopw [38] (fun v wr => ∃ i : Nat, v = .int .i64 i ∧ i ≤ L.length ∧ RustAt (w.heap.size + 1 + 1) (opts (RS.begin nd false 0) (L.take i)) wr ∧ Fr (w.heap.size + 1 + 1) (beginW nd w) wr) (fun v wr => L.length - (intOf v).toNat)
  case atStart => exact ⟨0, rfl, Nat.zero_le _, HB0.out, Fr.refl _ _⟩
  case round =>
    clear hx2 hm2 hm3 hzm HX2 HM2 HZM HML
    obtain ⟨i, rfl, hi, hr, hb⟩ := hrel
    by_cases hlt : i < L.length
    · have hlt2 : (i : Int) < (L.length : Int) := by omega
      obtain ⟨ad, rfl, hcell⟩ := Kd.at_int (Kd.C_below HC.out (HBB.out.trans (hb.below.mono (by omega)))) (i : Int) (by omega) hlt2
      rw [rd_get hlt, Int.toNat_natCast] at hcell
      have hst := opts_take (RS.begin nd false 0) hlt
      have HOX := Lib.hid (HO.out L[i] (List.getElem_mem hlt))
      have hw : IntKind.i64.wrap ((i : Int) + 1) = (i : Int) + 1 := IntWalk.i64_in _ (by have := hnn.out; omega)
      generalize L[i] = x at *
      by_cases h1 : x = 1
      · subst h1
        have hs1 := hr.setNg true
        rw [show ({ opts (RS.begin nd false 0) (L.take i) with ng := true } : RS) = opts (RS.begin nd false 0) (L.take (i + 1)) by rw [hst]; unfold optStep; rw [if_pos rfl]] at hs1
        have c8 := hr.c8
        have f8 := hr.frozen 8
        have HS1 := Lib.hid hs1
        have HBS := Lib.hid (hb.setCell (p := ⟨w.heap.size + 1 + 1, 8, none⟩) rfl (.bool true))
        clear hr hs1 hst hb HOX
        go_wp2_with fail
        go_roundw
        case rel => exact ⟨i + 1, by simp, by omega, HS1.out, HBS.out⟩
        case measure => simp [intOf]; omega
      · have hx1 : (x == 1) = false := beq_eq_false_iff_ne.2 h1
        cases hm : isMx x with
        | true =>
          have hs1 := hr.setMx (mxLen x)
          rw [show ({ opts (RS.begin nd false 0) (L.take i) with mx := mxLen x } : RS) = opts (RS.begin nd false 0) (L.take (i + 1)) by rw [hst]; unfold optStep; rw [if_neg h1, if_pos hm]] at hs1
          have c9 := hr.c9
          have f9 := hr.frozen 9
          have HS1 := Lib.hid hs1
          have HBS := Lib.hid (hb.setCell (p := ⟨w.heap.size + 1 + 1, 9, none⟩) rfl (.int .i64 (mxLen x)))
          have HIM := Lib.hid (fun w => isMax_calls x w)
          rw [hm] at HIM
          have HML := Lib.hid (fun w => maxLength_calls x (HOX.out h1 hm).1 (HOX.out h1 hm).2 w)
          clear hr hs1 hst hb HOX h1 hm
          go_wp2_with (first | (go_at_call 34; refine (HIM.out _).mono ?_; rintro e w1 ⟨rfl, rfl⟩) | (go_at_call 35; refine (HML.out _).mono ?_; rintro e w1 ⟨rfl, rfl⟩))
          go_roundw
          case rel => exact ⟨i + 1, by simp, by omega, HS1.out, HBS.out⟩
          case measure => simp [intOf]; omega
        | false =>
          have HS1 : Hid (RustAt (w.heap.size + 1 + 1) (opts (RS.begin nd false 0) (L.take (i + 1))) wr) := Lib.hid (by
            rw [hst]; unfold optStep; rw [if_neg h1, if_neg (by rw [hm]; decide)]; exact hr)
          have HBS := Lib.hid hb
          have HIM := Lib.hid (fun w => isMax_calls x w)
          rw [hm] at HIM
          clear hr hst hb HOX h1 hm
          go_wp2_with (go_at_call 34; refine (HIM.out _).mono ?_; rintro e w1 ⟨rfl, rfl⟩)
          go_roundw
          case rel => exact ⟨i + 1, by simp, by omega, HS1.out, HBS.out⟩
          case measure => simp [intOf]; omega
    · have hie : i = L.length := by omega
      rw [hie, List.take_of_length_le (Nat.le_refl _)] at hr
      have hnl : ¬ (i : Int) < (L.length : Int) := by omega
      have HB := Lib.hid hb
      have hXX := HX.out
      have hYU : symM k (opts (RS.begin nd false 0) L) ≠ .unsaid := by intro e; rw [e] at hXX; exact HU.out hXX
      have HSY := Lib.hid (symbolName_calls (w.heap.size + 1 + 1) k _ wr hr (HTB.out.on hb.below) hYU)
      generalize symM k (opts (RS.begin nd false 0) L) = Y at *
      have HXX := Lib.hid hXX
      have HYU := Lib.hid hYU
      clear hr hb hie hlt hXX hYU HX HB0 HE0 HE1
      go_wp2_with fail
      refine HSY.out.mono ?_
      rintro e w2 hp
      cases Y with
      | unsaid => exact absurd rfl HYU.out
      | bad =>
        obtain ⟨⟨m, o, rfl⟩, hb2⟩ := hp
        have HK := begin_kept (HB.out.trans hb2)
        have hbb := HBB.out.trans ((HB.out.trans hb2).below.mono (by omega))
        go_wp2_with fail
        refine leaves_cons (f := 32) (args := #[.pointer (some ⟨w.heap.size, 0, none⟩), .pointer (some ⟨w.heap.size + 1, 0, none⟩)]) (by simp) (by simp [go_sem]) ?_
        refine (told_panicking w.heap.size _ _ m o [] w2 HK.1 HK.2).mono ?_
        rintro e u' w' ⟨rfl, rfl, h0, h1, hb3⟩
        have d0 : w'.cell? ⟨w.heap.size, 0, none⟩ = some (.string ⟨#[]⟩) := by rw [Lib.cell_of_heap h0]; rfl
        have d1 : w'.cell? ⟨w.heap.size + 1, 0, none⟩ = some (.iface 64 (.agg #[.string m, .int .i64 o])) := by rw [Lib.cell_of_heap h1]; rfl
        have HP := Lib.hid (told_bad_post HXX.out (.agg #[.string m, .int .i64 o]) (hbb.trans hb3))
        clear hmf h0 h1 hb3 hbb HK
        simp [Leaves, settle, results, Tryz.results21, go_sem, d0, d1]
        exact HP.out
      | ok s1 =>
        obtain ⟨rfl, hr2, hb2⟩ := hp
        have c1 := hr2.c1
        have HB2 := Lib.hid (HB.out.trans hb2)
        have HR2 := Lib.hid hr2
        clear hr2 hb2 HB HSY HYU
        cases hs1 : s1.str with
        | cons c1' r1 =>
          rw [hs1] at c1
          have hz := bs_size (c1' :: r1)
          have hp1 : 0 < ((c1' :: r1).length : Int) := by simp
          have HXB : Hid (X = .bad) := Lib.hid (by rw [HXX.out]; simp only [endM]; rw [if_pos (by rw [hs1]; simp)])
          clear hs1
          go_wp2_with fail
          refine (fail_calls _ _ _ _ HR2.out).mono ?_
          rintro e w3 ⟨⟨m, o, rfl⟩, hb3⟩
          have HK := begin_kept (HB2.out.trans hb3)
          have hbb := HBB.out.trans ((HB2.out.trans hb3).below.mono (by omega))
          go_wp2_with fail
          refine leaves_cons (f := 32) (args := #[.pointer (some ⟨w.heap.size, 0, none⟩), .pointer (some ⟨w.heap.size + 1, 0, none⟩)]) (by simp) (by simp [go_sem]) ?_
          refine (told_panicking w.heap.size _ _ m o [] w3 HK.1 HK.2).mono ?_
          rintro e u' w' ⟨rfl, rfl, h0, h1, hb4⟩
          have d0 : w'.cell? ⟨w.heap.size, 0, none⟩ = some (.string ⟨#[]⟩) := by rw [Lib.cell_of_heap h0]; rfl
          have d1 : w'.cell? ⟨w.heap.size + 1, 0, none⟩ = some (.iface 64 (.agg #[.string m, .int .i64 o])) := by rw [Lib.cell_of_heap h1]; rfl
          have HP := Lib.hid (told_bad_post HXB.out (.agg #[.string m, .int .i64 o]) (hbb.trans hb4))
          clear hmf h0 h1 hb3 hbb HK hb4
          simp [Leaves, settle, results, Tryz.results21, go_sem, d0, d1]
          exact HP.out
        | nil =>
          rw [hs1] at c1
          have hz := bs_size []
          have hXX := HXX.out
          simp only [endM] at hXX
          rw [if_neg (by rw [hs1]; simp)] at hXX
          by_cases hrm : s1.room (sf.length + 10)
          case neg => rw [if_neg hrm] at hXX; exact absurd hXX HU.out
          case pos =>
          rw [if_pos hrm] at hXX
          have HXX := Lib.hid hXX
          have HRM : Hid (s1.out.length + (sf.length + 10) ≤ 140737488355000) := Lib.hid hrm
          have ht0 : (bs sf).toList = sf := by simp [bs]
          clear hs1 hXX hrm HU
          go_upto_if 66 with (fail)
          clear ht0
          go_cut [11, 13] from 67 to 86 (fun v u wc => RustAt (w.heap.size + 1 + 1) (suffixed lv sf s1) wc ∧ Fr (w.heap.size + 1 + 1) (beginW nd w) wc)
          case first =>
            by_cases hsf : sf = []
            · have HSX : Hid (suffixed lv sf s1 = s1) := Lib.hid (by unfold suffixed; rw [if_neg (by rintro ⟨_, h⟩; exact h hsf)])
              subst hsf
              go_wp2_with fail
              go_meet
              case rel => exact ⟨by rw [HSX.out]; exact HR2.out, HB2.out⟩
            · have HSF := Lib.hid hsf
              have HHC := Lib.hid (Kd.C_below HC.out (HBB.out.trans (HB2.out.below.mono (by omega))))
              obtain ⟨sf1, sf2, hsf2⟩ : ∃ a b, sf = a :: b := by cases sf; exact absurd rfl hsf; exact ⟨_, _, rfl⟩
              subst hsf2
              go_wp2_with fail
              go_loop [11, 69] (fun t v => t = .bool false ∧ ∃ i : Nat, v = .int .i64 i ∧ i ≤ L.length ∧ Hid (∀ x ∈ L.take i, x ≠ 6)) (fun _ v => L.length - (intOf v).toNat)
              case atStart => exact ⟨rfl, 0, rfl, Nat.zero_le _, Lib.hid (by simp)⟩
              case round =>
                obtain ⟨rfl, j, rfl, hj, HN⟩ := hrel
                by_cases hlt : j < L.length
                · have hlt2 : (j : Int) < (L.length : Int) := by omega
                  obtain ⟨ad, rfl, hcell⟩ := Kd.at_int HHC.out (j : Int) (by omega) hlt2
                  rw [rd_get hlt, Int.toNat_natCast] at hcell
                  have hw : IntKind.i64.wrap ((j : Int) + 1) = (j : Int) + 1 := IntWalk.i64_in _ (by have := hnn.out; omega)
                  have HMEM : Hid (L[j] ∈ L) := Lib.hid (List.getElem_mem hlt)
                  have HTK : Hid (L[j] ≠ 6 → ∀ x ∈ L.take (j + 1), x ≠ 6) := Lib.hid (by
                    intro h; rw [List.take_succ_eq_append_getElem hlt]
                    intro x hx
                    rcases List.mem_append.1 hx with hx | hx
                    · exact HN.out x hx
                    · rw [List.mem_singleton] at hx; rw [hx]; exact h)
                  generalize L[j] = x at *
                  by_cases h6 : x = 6
                  · subst h6
                    have HLT : Hid (lv = true) := Lib.hid (by rw [HLV.out]; exact decide_eq_true HMEM.out)
                    have hsk := HR2.out.setSkip false
                    have HBK := HB2.out.setCell (p := ⟨w.heap.size + 1 + 1, 5, none⟩) rfl (.bool false)
                    have c5 := HR2.out.c5
                    have f5 := HR2.out.frozen 5
                    have HW1 := Lib.hid (writeStr_calls (w.heap.size + 1 + 1) _ [32, 40] _ hsk (by show s1.out.length + _ ≤ _; have := HRM.out; simp; omega))
                    have HBK := Lib.hid HBK
                    have HSX : Hid (suffixed lv (sf1 :: sf2) s1 = (({ s1 with skip := false }.putStr [32, 40]).putStr (sf1 :: sf2)).putByte 41) := Lib.hid (by unfold suffixed; rw [if_pos ⟨HLT.out, HSF.out⟩])
                    have HL1 : Hid (({ s1 with skip := false }.putStr [32, 40]).out.length + (sf1 :: sf2).length + 5 ≤ 140737488355000) := Lib.hid (by
                      have h1 := putStr_len { s1 with skip := false } [32, 40]; simp at h1; have := HRM.out; omega)
                    clear hsk
                    go_wp2_with fail
                    refine HW1.out.mono ?_
                    rintro e w3 ⟨rfl, hr3, hb3⟩
                    have HW2 := Lib.hid (writeStr_calls (w.heap.size + 1 + 1) _ (sf1 :: sf2) w3 hr3 (by have := HL1.out; omega))
                    have HL2 : Hid ((({ s1 with skip := false }.putStr [32, 40]).putStr (sf1 :: sf2)).out.length + 5 ≤ 140737488355000) := Lib.hid (by
                      have h1 := putStr_len ({ s1 with skip := false }.putStr [32, 40]) (sf1 :: sf2); have := HL1.out; omega)
                    clear hr3
                    go_wp2_with fail
                    refine HW2.out.mono ?_
                    rintro e w4 ⟨rfl, hr4, hb4⟩
                    have HW3 := Lib.hid (writeByte_calls (w.heap.size + 1 + 1) _ 41 w4 hr4 (by have := HL2.out; omega))
                    clear hr4
                    go_wp2_with fail
                    refine HW3.out.mono ?_
                    rintro e w5 ⟨rfl, hr5, hb5⟩
                    have HR5 := Lib.hid hr5
                    clear hr5
                    go_wp2_with fail
                    go_meet
                    case rel => exact ⟨by rw [HSX.out]; exact HR5.out, ((HBK.out.trans hb3).trans hb4).trans hb5⟩
                  · have hx6 : (x == 6) = false := beq_eq_false_iff_ne.2 h6
                    have HTK2 := Lib.hid (HTK.out h6)
                    clear h6
                    go_wp2_with fail
                    go_round
                    case rel => exact ⟨rfl, j + 1, by simp, by omega, HTK2⟩
                    case measure => simp [intOf]; omega
                · have hnl : ¬ (j : Int) < (L.length : Int) := by omega
                  have HSX : Hid (suffixed lv (sf1 :: sf2) s1 = s1) := Lib.hid (by
                    unfold suffixed; rw [if_neg]
                    rintro ⟨h, _⟩
                    rw [HLV.out] at h
                    have hm := of_decide_eq_true h
                    have := HN.out 6 (by rw [List.take_of_length_le (by omega)]; exact hm)
                    exact this rfl)
                  clear hlt
                  go_wp2_with fail
                  go_meet
                  case rel => exact ⟨by rw [HSX.out]; exact HR2.out, HB2.out⟩
          case rest =>
          obtain ⟨hr6, hb6⟩ := hcut
          generalize suffixed lv sf s1 = s6 at *
          have c9 := hr6.c9
          have HR6 := Lib.hid hr6
          have HB6 := Lib.hid hb6
          clear hr6 hb6 c1 hz HR2 HB2
          have hz6 := bs_size s6.out
          have h3w : 0 < s6.mx ∧ s6.mx < (s6.out.length : Int) ∨ 0 < s6.mx ∧ ¬ s6.mx < (s6.out.length : Int) ∨ ¬ 0 < s6.mx := by omega
          rcases h3w with ⟨h0, h1⟩ | ⟨h0, h1⟩ | h0
          · have hx := bs_take s6.out s6.mx.toNat
            have HCM : Hid (cutMx s6.mx s6.out = s6.out.take s6.mx.toNat) := Lib.hid (by unfold cutMx; rw [if_pos ⟨h0, h1⟩])
            have h2 : 0 ≤ s6.mx := by omega
            have h3 : s6.mx ≤ (s6.out.length : Int) := by omega
            go_wp2_with (go_at_call 40; refine (string_calls (w.heap.size + 1 + 1) s6 _ HR6.out).mono ?_; rintro e w7 ⟨rfl, hk7, hb7⟩; have c97 := (World.cell?_of_block (w := wc) hk7).trans c9; obtain ⟨d0, d1, z0, z1⟩ := told_cells (begin_kept HB6.out) hb7 (by omega))
            have hE := told_end (t := bs (s6.out.take s6.mx.toNat)) (begin_kept HB6.out) hb7 (by omega)
            have HP := Lib.hid (told_ok_post HXX.out (s6.out.take s6.mx.toNat) HCM.out.symm (HBB.out.trans ((HB6.out.below.mono (by omega)).trans hE.2.2)))
            obtain ⟨k0, k1, _⟩ := hE
            clear hmf d0 d1 z0 z1 hk7 hb7 c97 c9
            refine leaves_cons (f := 32) (args := #[.pointer (some ⟨w.heap.size, 0, none⟩), .pointer (some ⟨w.heap.size + 1, 0, none⟩)]) (by simp) (by simp [go_sem]) ?_
            refine (told_idle _ _ _).mono ?_
            rintro e u' w'' ⟨rfl, rfl, rfl⟩
            simp [Leaves, settle, results, Tryz.results21, go_sem, k0, k1]
            exact HP.out
          · have HCM : Hid (cutMx s6.mx s6.out = s6.out) := Lib.hid (by unfold cutMx; rw [if_neg (by rintro ⟨_, h⟩; exact h1 h)])
            go_wp2_with (go_at_call 40; refine (string_calls (w.heap.size + 1 + 1) s6 _ HR6.out).mono ?_; rintro e w7 ⟨rfl, hk7, hb7⟩; have c97 := (World.cell?_of_block (w := wc) hk7).trans c9; obtain ⟨d0, d1, z0, z1⟩ := told_cells (begin_kept HB6.out) hb7 (by omega))
            have hE := told_end (t := bs s6.out) (begin_kept HB6.out) hb7 (by omega)
            have HP := Lib.hid (told_ok_post HXX.out s6.out HCM.out.symm (HBB.out.trans ((HB6.out.below.mono (by omega)).trans hE.2.2)))
            obtain ⟨k0, k1, _⟩ := hE
            clear hmf d0 d1 z0 z1 hk7 hb7 c97 c9
            refine leaves_cons (f := 32) (args := #[.pointer (some ⟨w.heap.size, 0, none⟩), .pointer (some ⟨w.heap.size + 1, 0, none⟩)]) (by simp) (by simp [go_sem]) ?_
            refine (told_idle _ _ _).mono ?_
            rintro e u' w'' ⟨rfl, rfl, rfl⟩
            simp [Leaves, settle, results, Tryz.results21, go_sem, k0, k1]
            exact HP.out
          · have HCM : Hid (cutMx s6.mx s6.out = s6.out) := Lib.hid (by unfold cutMx; rw [if_neg (by rintro ⟨h, _⟩; exact h0 h)])
            go_wp2_with (go_at_call 40; refine (string_calls (w.heap.size + 1 + 1) s6 _ HR6.out).mono ?_; rintro e w7 ⟨rfl, hk7, hb7⟩; have c97 := (World.cell?_of_block (w := wc) hk7).trans c9; obtain ⟨d0, d1, z0, z1⟩ := told_cells (begin_kept HB6.out) hb7 (by omega))
            have hE := told_end (t := bs s6.out) (begin_kept HB6.out) hb7 (by omega)
            have HP := Lib.hid (told_ok_post HXX.out s6.out HCM.out.symm (HBB.out.trans ((HB6.out.below.mono (by omega)).trans hE.2.2)))
            obtain ⟨k0, k1, _⟩ := hE
            clear hmf d0 d1 z0 z1 hk7 hb7 c97 c9
            refine leaves_cons (f := 32) (args := #[.pointer (some ⟨w.heap.size, 0, none⟩), .pointer (some ⟨w.heap.size + 1, 0, none⟩)]) (by simp) (by simp [go_sem]) ?_
            refine (told_idle _ _ _).mono ?_
            rintro e u' w'' ⟨rfl, rfl, rfl⟩
            simp [Leaves, settle, results, Tryz.results21, go_sem, k0, k1]
            exact HP.out
end Go.Proofs.YtkhbmkccbhkolaaGreatDoor
