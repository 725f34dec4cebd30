/- The walk of the reader's Punycode. -/
import Derived.Test.YtkhbmkccbhkolaaGreatDoorM2
import Derived.Deep.DeepCutAuto
import Derived.Deep.CutBlock
import Derived.Deep.RegionLaw
import Derived.Laws.CopyOwn
import Derived.Laws.RangeString
namespace Go.Proofs.YtkhbmkccbhkolaaGreatDoor
set_option linter.unusedVariables false
set_option linter.unusedSimpArgs false
open Go.RowKit

/-- What expandPunycode leaves. -/
def ExpPost (b : Nat) (l : List UInt8) (w : World) (e : Ending) (w' : World) : Prop :=
  Below w.heap.size w w' ∧ match Dm.expand l with
  | some out => e = .returned (.string (runesBytes out))
  | none => ∃ m o, e = .panicked [{ v := .iface 64 (.agg #[.string m, .int .i64 o]), recovered := false }]
theorem exp_post {b : Nat} {l : List UInt8} {w w' : World} {out : List Int} (h : Dm.expand l = some out) (hb : Below w.heap.size w w') : ExpPost b l w (.returned (.string (runesBytes out))) w' := by
  unfold ExpPost; rw [h]; exact ⟨hb, rfl⟩
theorem exp_fails {b : Nat} {l : List UInt8} {w w' : World} {m : ByteArray} {o : Int} (h : Dm.expand l = none) (hb : Below w.heap.size w w') :
    ExpPost b l w (.panicked [{ v := .iface 64 (.agg #[.string m, .int .i64 o]), recovered := false }]) w' := by
  unfold ExpPost; rw [h]; exact ⟨hb, m, o, rfl⟩

/-- The state stays in whatever world keeps what lay there. -/
theorem RustAt.below {b : Nat} {s : RS} {w w' : World} (h : RustAt b s w) (hb : Below w.heap.size w w') : RustAt b s w' := by
  have hlt := h.lt
  obtain ⟨hoff, p, v, hbk, hp, hown, hne⟩ := h
  exact ⟨hoff, p, v, (hb.block b hlt).trans hbk, hp, hown.kept (row := none) ⟨hb.os, hb.tape, hb.output, hb.size, fun k hk _ => hb.block k hk⟩ (by cases v.ownBlock <;> simp), hne⟩

theorem rust_own_slice {w : World} {B n : Nat} {e : TypeId} {v : Value} {xs : List Value} (h : w.ownsRow B e 1 v n xs) : ∃ ao cap, v = .slice ao n cap := by
  rcases h.2 with ⟨hv, h0⟩ | ⟨g, cap, cur, hv, _⟩
  · exact ⟨none, 0, by rw [hv, h0]⟩
  · exact ⟨_, _, hv⟩

def i32s (l : List Int) : List Value := l.map (Value.int .i32)

/-- The outer loop. -/
def ExpRel (b : Nat) (l enc : List UInt8) (w : World) (vo vi vn vb vp : Value) (wr : World) : Prop :=
  ∃ (out : List Int) (i n bias : Int) (p f : Nat), wr.ownsRow w.heap.size 21 1 vo out.length (i32s out) ∧ vi = .int .i64 i ∧ vn = .int .i64 n ∧ vb = .int .i64 bias ∧ vp = .int .i64 p ∧
    Below w.heap.size w wr ∧ p ≤ enc.length ∧ (enc.drop p).length < f ∧ Dm.deltas f out i n bias (enc.drop p) = Dm.expand l ∧
    0 ≤ i ∧ i ≤ out.length ∧ 128 ≤ n ∧ n ≤ 1114111 ∧ 0 ≤ bias ∧ bias ≤ 10000000000000 ∧ out.length ≤ l.length + p

/-- The loop over the digits of a delta. -/
def DelRel (enc : List UInt8) (p : Nat) (i bias : Int) (vi vp vw vk : Value) : Prop :=
  ∃ (j W k : Int) (q : Nat), vi = .int .i64 j ∧ vp = .int .i64 q ∧ vw = .int .i64 W ∧ vk = .int .i64 k ∧ p ≤ q ∧ q ≤ enc.length ∧
    Dm.delta bias k j W (enc.drop q) = Dm.delta bias 36 i 1 (enc.drop p) ∧ 1 ≤ W ∧ W ≤ 2147483647 ∧ 36 ≤ k ∧ k ≤ 36 * (q - p + 1 : Nat) ∧ i ≤ j ∧ j ≤ i + 4 * W

/-- The step of a delta. -/
theorem delta_none {bias k i W : Int} {c : UInt8} {r : List UInt8} (h : Dm.pdig c = none) : Dm.delta bias k i W (c :: r) = none := by
  rw [Dm.delta, h]
theorem delta_last {bias k i W g : Int} {c : UInt8} {r : List UInt8} (h : Dm.pdig c = some g) (ht : g < Dm.thr k bias) : Dm.delta bias k i W (c :: r) = some (i + g * W, r) := by
  rw [Dm.delta, h]; simp only; rw [if_pos ht]
theorem delta_over {bias k i W g : Int} {c : UInt8} {r : List UInt8} (h : Dm.pdig c = some g) (ht : ¬ g < Dm.thr k bias) (hw : W ≥ 59652323) : Dm.delta bias k i W (c :: r) = none := by
  rw [Dm.delta, h]; simp only; rw [if_neg ht, if_pos hw]
theorem delta_next {bias k i W g : Int} {c : UInt8} {r : List UInt8} (h : Dm.pdig c = some g) (ht : ¬ g < Dm.thr k bias) (hw : ¬ W ≥ 59652323) :
    Dm.delta bias k i W (c :: r) = Dm.delta bias (k + 36) (i + g * W) (W * (36 - Dm.thr k bias)) r := by
  rw [Dm.delta, h]; simp only; rw [if_neg ht, if_neg hw]
theorem deltas_none {f : Nat} {out : List Int} {i n bias : Int} {enc : List UInt8} (hf : enc.length < f) (he : enc ≠ []) (h : Dm.delta bias 36 i 1 enc = none) : Dm.deltas f out i n bias enc = none := by
  obtain ⟨f, rfl⟩ : ∃ m, f = m + 1 := ⟨f - 1, by omega⟩
  rw [Dm.deltas, if_neg he, h]

theorem deltas_step {f : Nat} {out : List Int} {i n bias j : Int} {enc r : List UInt8} (hf : enc.length < f) (he : enc ≠ []) (h : Dm.delta bias 36 i 1 enc = some (j, r)) :
    ∃ g, f = g + 1 ∧ Dm.deltas f out i n bias enc = (if n + j / ((out.length : Int) + 1) > 1114111 then none else if Dm.validRune (n + j / ((out.length : Int) + 1)) = false then none
      else Dm.deltas g (out.take (j % ((out.length : Int) + 1)).toNat ++ (n + j / ((out.length : Int) + 1)) :: out.drop (j % ((out.length : Int) + 1)).toNat) (j % ((out.length : Int) + 1) + 1) (n + j / ((out.length : Int) + 1)) (Dm.adapted (j - i) ((out.length : Int) + 1) (i == 0)) r) := by
  obtain ⟨g, rfl⟩ : ∃ m, f = m + 1 := ⟨f - 1, by omega⟩
  refine ⟨g, rfl, ?_⟩
  rw [Dm.deltas, if_neg he, h]

theorem i32s_one (l : List Int) : ∀ v ∈ i32s l, v.oneCell' = true := fun v hv => by
  obtain ⟨x, _, rfl⟩ := List.mem_map.1 hv; rfl
theorem i32s_app (a b : List Int) : i32s (a ++ b) = i32s a ++ i32s b := List.map_append
theorem i32s_get {out : List Int} {x : Nat} (h : x < out.length) : (i32s out)[x]? = some (.int .i32 (out.getD x 0)) := by
  simp [i32s, List.getElem?_eq_getElem h]
theorem row_split {cur : Array Value} {out : List Int} (ht : cur.toList.take ((out.length + 1) * 1) = i32s out ++ [.int .i32 0]) : cur.toList = i32s out ++ .int .i32 0 :: cur.toList.drop (out.length + 1) := by
  have := List.take_append_drop (out.length + 1) cur.toList
  rw [Nat.mul_one] at ht
  rw [ht] at this
  simpa using this.symm
theorem row_at {w : World} {g : Nat} {cur : Array Value} {T : TypeId} {fr : Nat × Nat} {out : List Int} (hg : w.heap[g]? = some (.cells cur T fr)) (ht : cur.toList.take ((out.length + 1) * 1) = i32s out ++ [.int .i32 0]) (x : Nat) (hx : x < out.length) :
    w.cell? ⟨g, x, none⟩ = some (.int .i32 (out.getD x 0)) := by
  rw [Lib.cell_of_heap hg, ← Array.getElem?_toList, row_split ht, List.getElem?_append_left (by simp [i32s]; exact hx), i32s_get hx]
theorem ins_row {L rest : List Value} {out : List Int} {m : Nat} (x : Int) (hm : m ≤ out.length) (hL : L = i32s out ++ .int .i32 0 :: rest) :
    (splice L (m + 1) (i32s (out.drop m))).set m (.int .i32 x) = i32s (out.take m ++ x :: out.drop m) ++ rest := by
  have hl : (i32s (out.take m)).length = m := by simp [i32s]; omega
  have h1 : ∃ y, L.take (m + 1) = i32s (out.take m) ++ [y] := by
    have h2 : L.take m = i32s (out.take m) := by
      rw [hL, List.take_append_of_le_length (by simp [i32s]; exact hm)]; simp [i32s, List.map_take]
    have h3 : m < L.length := by rw [hL]; simp [i32s]; omega
    exact ⟨L[m], by rw [List.take_succ_eq_append_getElem h3, h2]⟩
  obtain ⟨y, hy⟩ := h1
  have h4 : L.drop (m + 1 + (i32s (out.drop m)).length) = rest := by
    have : m + 1 + (i32s (out.drop m)).length = (i32s out).length + 1 := by simp [i32s]; omega
    rw [this, hL, List.drop_append]
    simp
  unfold splice
  rw [hy, h4, List.append_assoc, List.set_append_right _ _ (by omega), hl, Nat.sub_self]
  rw [i32s_app]
  simp [i32s]
theorem splice_len {L rest : List Value} {out : List Int} {m : Nat} (hm : m ≤ out.length) (hL : L = i32s out ++ .int .i32 0 :: rest) : (splice L (m + 1) (i32s (out.drop m))).length = L.length :=
  length_splice _ _ _ (by rw [hL]; simp [i32s]; omega)

theorem own_ins {wc : World} {B g cap' m : Nat} {cur : Array Value} {out : List Int} (x : Int) (hgb : B ≤ g) (hg4 : wc.heap[g]? = some (.cells (splice cur.toList (m + 1) (i32s (out.drop m))).toArray 21 (0, 0)))
    (hm : m ≤ out.length) (ht : cur.toList.take ((out.length + 1) * 1) = i32s out ++ [.int .i32 0]) (hc : cur.size = cap' * 1) (hnc : out.length + 1 ≤ cap') (hcm : cap' ≤ maxLen) :
    (wc.setCell ⟨g, m, none⟩ (.int .i32 x)).ownsRow B 21 1 (.slice (some ⟨g, 0, none⟩) (out.length + 1) cap') (out.take m ++ x :: out.drop m).length (i32s (out.take m ++ x :: out.drop m)) := by
  have hL := row_split ht
  have hl : (out.take m ++ x :: out.drop m).length = out.length + 1 := by simp; omega
  have hI := ins_row x hm hL
  have hsl := splice_len hm hL
  rw [hl]
  refine ⟨by simp only [i32s, List.length_map, hl, Nat.mul_one], .inr ⟨g, cap', ((splice cur.toList (m + 1) (i32s (out.drop m))).set m (.int .i32 x)).toArray, rfl, hgb, ?_, hnc, hcm, ?_, ?_⟩⟩
  · simp [World.setCell, Array.getElem?_modify, hg4]
  · simp [hsl, hc]
  · show List.take _ ((splice cur.toList (m + 1) (i32s (out.drop m))).set m (.int .i32 x)) = _
    rw [hI, Nat.mul_one, List.take_append_of_le_length (by simp only [i32s, List.length_map, hl]; omega)]
    exact List.take_of_length_le (by simp only [i32s, List.length_map, hl]; omega)

theorem runesFrom_ascii (l : List UInt8) (ha : ∀ c ∈ l, c.toNat < 128) : ∀ (d i : Nat) (acc : Array Value), i + d = l.length → Conv.runesFrom (bs l) d i acc = acc ++ (i32s ((l.drop i).map fun c => (c.toNat : Int))).toArray := by
  intro d
  induction d with
  | zero =>
    intro i acc hi
    rw [List.drop_eq_nil_of_le (by omega)]
    simp [Conv.runesFrom, i32s]
  | succ d ih =>
    intro i acc hi
    have hlt : i < l.length := by omega
    have hdr := List.drop_eq_getElem_cons hlt
    unfold Conv.runesFrom
    rw [if_pos (by rw [bs_size]; exact hlt), decode_ascii (bs l) i (by rw [bs_size]; exact hlt) (by rw [bs_getE l i _ hlt]; exact ha _ (List.getElem_mem hlt))]
    simp only
    rw [ih (i + 1) _ (by omega), hdr, bs_getE l i _ hlt]
    generalize l.drop (i + 1) = t
    generalize l[i] = c
    simp [i32s]

theorem runes_ascii (l : List UInt8) (ha : ∀ c ∈ l, c.toNat < 128) : Conv.runesFrom (bs l) (bs l).size 0 #[] = (i32s (l.map fun c => (c.toNat : Int))).toArray := by
  rw [bs_size, runesFrom_ascii l ha l.length 0 #[] (by omega)]
  simp

/-- '[]rune(s)' of plain characters: a new row that the call owns. -/
theorem conv_runes (l : List UInt8) (w : World) (ha : ∀ c ∈ l, c.toNat < 128) (hl : l.length ≤ 2147483647) :
    ∃ v w', (convert 9 117 (.string (bs l))).run Tryz.prog w = .ok v w' ∧ w'.ownsRow w.heap.size 21 1 v l.length (i32s (l.map fun c => (c.toNat : Int))) ∧ Below w.heap.size w w' := by
  have hr := runes_ascii l ha
  have hz : (Conv.runesFrom (bs l) (bs l).size 0 #[]).size = l.length := by rw [hr]; simp [i32s]
  have hc := run_runes_of_string (P := Tryz.prog) w 9 117 21 (bs l) Tryz.underlying9 Tryz.underlying117 Tryz.underlying21 (by rw [hz]; omega)
  rw [hz, hr] at hc
  have hge := grownCap_ge w l.length 0 21
  have hcm := grownCap_le_maxLen w l.length 0 21 (by unfold maxLen; omega)
  refine ⟨_, _, hc, ⟨by simp [i32s], .inr ⟨w.heap.size, _, _, rfl, Nat.le_refl _, heap_alloc_new w.drew _, hge, hcm, ?_, ?_⟩⟩, (Below.refl _ w).drew.alloc (Nat.le_refl _) _⟩
  · simp [i32s]; omega
  · simp [i32s, List.take_append_of_le_length]

theorem addr_add (g m j : Nat) : ((⟨g, m, none⟩ : Addr).add j) = ⟨g, m + j, none⟩ := by unfold Addr.add; split <;> simp_all

/-- 'string(rs)' of a row that the call owns. -/
theorem conv_string {w : World} {B : Nat} {v : Value} {out : List Int} (h : w.ownsRow B 21 1 v out.length (i32s out)) :
    (convert 117 9 v).run Tryz.prog w = .ok (.string (runesBytes out)) w := by
  rcases h.2 with ⟨rfl, h0⟩ | ⟨g, cap, cur, rfl, _, hg, _, _, _, htk⟩
  · have : out = [] := List.length_eq_zero_iff.1 h0
    subst this
    exact run_convert_runes_nil w 117 9 21 0 0 Tryz.underlying117 Tryz.underlying21 Tryz.underlying9
  · have := run_convert_runes (P := Tryz.prog) w 117 9 21 ⟨g, 0, none⟩ out.length cap out (Nat.le_refl _) Tryz.underlying117 Tryz.underlying21 Tryz.underlying9 (fun j hj => by
      rw [addr_add, Nat.zero_add, Lib.cell_of_heap hg, ← Array.getElem?_toList]
      have h2 : (cur.toList.take (out.length * 1))[j]? = cur.toList[j]? := by rw [List.getElem?_take, if_pos (by omega)]
      rw [← h2, htk, i32s_get hj])
    rw [this, List.take_length]


theorem i32_info : (Tryz.prog.info? 21).map (fun i => (i.zero, i.size, i.bytes)) = some (some (.int .i32 0), 1, 4) := by kernel_rfl

set_option maxHeartbeats 4000000 in
set_option maxRecDepth 100000 in
theorem expand_calls (b : Nat) (s : RS) (l : List UInt8) (w : World) (h : RustAt b s w) (hl : l.length ≤ 2147483647) (ha : ∀ c ∈ l.take (Dm.lastU l).toNat, c.toNat < 128) :
    Calls Tryz.prog 90 #[.pointer (some ⟨b, 0, none⟩), .string (bs l)] w fun e w' => ExpPost b l w e w' := by
  have hi := lastIndex_calls l w (by omega)
  obtain ⟨u0, u1⟩ := lastU_lt l
  have hz := bs_size l
  go_enter Tryz.func90, Tryz.ntmps90
  go_wp2_with fail
  refine hi.mono ?_
  rintro e w1 ⟨rfl, rfl⟩
  go_upto_if 25 with (fail)
  go_cut [5, 6, 7] from 22 to 34 (fun vo ve _ wc => ∃ (out : List Int) (enc : List UInt8), ve = .string (bs enc) ∧ wc.ownsRow w.heap.size 21 1 vo out.length (i32s out) ∧ Below w.heap.size w wc ∧ out.length ≤ l.length ∧ enc.length ≤ l.length ∧
    Hid (Dm.deltas (l.length + 1) out 0 128 72 enc = Dm.expand l))
  case first =>
    --{P
    by_cases hu : 0 ≤ Dm.lastU l
    · have hX : Hid (Dm.expand l = Dm.deltas (l.length + 1) ((l.take (Dm.lastU l).toNat).map fun c => (c.toNat : Int)) 0 128 72 (l.drop ((Dm.lastU l).toNat + 1))) := Lib.hid (by unfold Dm.expand; rw [if_pos hu])
      obtain ⟨v, w1, hcv, hown, hbl⟩ := conv_runes (l.take (Dm.lastU l).toNat) w ha (by simp; omega)
      rw [← bs_take l] at hcv
      obtain ⟨u, hu2⟩ := Int.eq_ofNat_of_zero_le hu
      have HL := Lib.hid hown
      rw [hu2] at hcv u0 ⊢
      simp only [Int.toNat_natCast] at hcv
      have HU2 := Lib.hid hu2
      clear hi hown hu hu2 ha
      go_wp2_with fail
      go_meet
      case rel =>
        refine ⟨(l.take (Dm.lastU l).toNat).map fun c => (c.toNat : Int), l.drop (u + 1), ?_, ?_, hbl, by rw [List.length_map, List.length_take]; omega, by rw [List.length_drop]; omega, Lib.hid ?_⟩
        · rw [← bs_extract]
        · simpa using HL.out
        · rw [hX.out, HU2.out]; simp
    · have hX : Hid (Dm.expand l = Dm.deltas (l.length + 1) [] 0 128 72 l) := Lib.hid (by unfold Dm.expand; rw [if_neg hu])
      clear hi
      go_wp2_with fail
      go_meet
      case rel => exact ⟨[], l, rfl, World.ownsRow_nil _ _ _ _, Below.refl _ _, by simp, Nat.le_refl _, Lib.hid hX.out.symm⟩
    --}P
  case rest =>
    obtain ⟨out, enc, rfl, hown, hb, ho, he, HD⟩ := hcut
    clear hi hz
    have hz := bs_size enc
    clear hz u0 u1
    go_wp2_with fail
    go_loopw [5, 8, 9, 10, 11] (fun vo vi vn vb vp wr => ExpRel b l enc w vo vi vn vb vp wr) (fun _ _ _ _ vp _ => enc.length - (intOf vp).toNat)
    case atStart => exact ⟨out, 0, 128, 72, 0, l.length + 1, hown, rfl, rfl, rfl, rfl, hb, Nat.zero_le _, by simp; omega, HD.out, by omega, by omega, by omega, by omega, by omega, by omega, by omega⟩
    case round =>
      clear hown hb HD ho out
      obtain ⟨out, i, n, bias, p, f, hown, rfl, rfl, rfl, rfl, hb, hp, hf, hd, i0, i1, n0, n1, b0, b1, ho⟩ := hrel
      have hz := bs_size enc
      by_cases hpl : p < enc.length
      · have HD := Lib.hid hd
        have HF := Lib.hid hf
        clear hd hf
        go_upto_block 2 with (fail)
        go_cut [8, 11, 13, 14, 15, 16, 17] from 40 to 114 (fun vi vp _ _ _ _ _ wc => ∃ (j : Int) (q : Nat), vi = .int .i64 j ∧ vp = .int .i64 q ∧ wr = wc ∧ p < q ∧ q ≤ enc.length ∧ Hid (Dm.delta bias 36 i 1 (enc.drop p) = some (j, enc.drop q)) ∧ i ≤ j ∧ j ≤ i + 100000000000)
        case first =>
          --{A
          have hne : enc.drop p ≠ [] := by intro e; have := congrArg List.length e; simp at this; omega
          have HFail : Hid (Dm.delta bias 36 i 1 (enc.drop p) = none → Dm.expand l = none) := Lib.hid fun e => by rw [← HD.out]; exact deltas_none HF.out hne e
          have hrw := h.below hb
          clear hne hown
          go_wp2_with fail
          go_loop [8, 11, 13, 14] (fun vi vp vw vk => DelRel enc p i bias vi vp vw vk) (fun _ vp _ _ => enc.length - (intOf vp).toNat)
          case atStart => exact ⟨i, 1, 36, p, rfl, rfl, rfl, rfl, by omega, by omega, rfl, by omega, by omega, by omega, by omega, by omega, by omega⟩
          case round =>
            obtain ⟨j, W, k, q, rfl, rfl, rfl, rfl, hpq, hq, hdl, W0, W1, k0, k1, j0, j1⟩ := hrel
            by_cases hql : q < enc.length
            · have hdr : enc.drop q = enc[q] :: enc.drop (q + 1) := List.drop_eq_getElem_cons hql
              rw [hdr] at hdl
              have hbt : (bs enc)[q]'(by rw [hz]; exact hql) = enc[q] := rfl
              have hne : ((q : Int) == (enc.length : Int)) = false := by rw [beq_eq_false_iff_ne]; omega
              generalize hc : enc[q] = c at hdl hbt
              clear hc hdr
              have hcb := UInt8.toNat_lt c
              have HDL := Lib.hid hdl
              clear hdl
              go_upto_block 4 with (fail)
              have hcs : (∃ g, Dm.pdig c = some g ∧ 48 ≤ (c.toNat : Int) ∧ (c.toNat : Int) ≤ 57 ∧ g = (c.toNat : Int) - 48 + 26) ∨ (∃ g, Dm.pdig c = some g ∧ 65 ≤ (c.toNat : Int) ∧ (c.toNat : Int) ≤ 90 ∧ g = (c.toNat : Int) - 65) ∨
                  (∃ g, Dm.pdig c = some g ∧ 97 ≤ (c.toNat : Int) ∧ (c.toNat : Int) ≤ 122 ∧ g = (c.toNat : Int) - 97) ∨
                  (Dm.pdig c = none ∧ ((c.toNat : Int) < 48 ∨ 57 < (c.toNat : Int)) ∧ ((c.toNat : Int) < 65 ∨ 90 < (c.toNat : Int)) ∧ ((c.toNat : Int) < 97 ∨ 122 < (c.toNat : Int))) := by
                unfold Dm.pdig
                by_cases a1 : 48 ≤ (c.toNat : Int) ∧ (c.toNat : Int) ≤ 57
                · rw [if_pos a1]; exact .inl ⟨_, rfl, a1.1, a1.2, rfl⟩
                · rw [if_neg a1]
                  by_cases a2 : 65 ≤ (c.toNat : Int) ∧ (c.toNat : Int) ≤ 90
                  · rw [if_pos a2]; exact .inr (.inl ⟨_, rfl, a2.1, a2.2, rfl⟩)
                  · rw [if_neg a2]
                    by_cases a3 : 97 ≤ (c.toNat : Int) ∧ (c.toNat : Int) ≤ 122
                    · rw [if_pos a3]; exact .inr (.inr (.inl ⟨_, rfl, a3.1, a3.2, rfl⟩))
                    · rw [if_neg a3]; exact .inr (.inr (.inr ⟨rfl, by omega, by omega, by omega⟩))
              go_cut [15] from 53 to 82 (fun vg wc => ∃ g : Int, vg = .int .u8 g ∧ wr = wc ∧ Hid (Dm.pdig c = some g) ∧ 0 ≤ g ∧ g ≤ 35)
              case first =>
                rcases hcs with ⟨g, hg, a1, a2, a3⟩ | ⟨g, hg, a1, a2, a3⟩ | ⟨g, hg, a1, a2, a3⟩ | ⟨hg, a1, a2, a3⟩
                · have HG : Hid (Dm.pdig c = some ((c.toNat : Int) - 48 + 26)) := Lib.hid (by rw [hg, a3])
                  clear hg a3
                  go_wp2_with fail
                  go_meet
                  case rel => exact ⟨_, rfl, rfl, HG, by omega, by omega⟩
                · have HG : Hid (Dm.pdig c = some ((c.toNat : Int) - 65)) := Lib.hid (by rw [hg, a3])
                  clear hg a3
                  go_wp2_with fail
                  go_meet
                  case rel => exact ⟨_, rfl, rfl, HG, by omega, by omega⟩
                · have HG : Hid (Dm.pdig c = some ((c.toNat : Int) - 97)) := Lib.hid (by rw [hg, a3])
                  clear hg a3
                  go_wp2_with fail
                  go_meet
                  case rel => exact ⟨_, rfl, rfl, HG, by omega, by omega⟩
                · have HX : Hid (Dm.expand l = none) := Lib.hid (HFail.out (by rw [← HDL.out]; exact delta_none hg))
                  clear hg
                  go_wp2_with (go_at_call 37; refine (fail_same b s _ _ hrw).mono ?_; rintro e w2 ⟨⟨m, o, rfl⟩, rfl⟩)
                  all_goals exact ⟨rfl, exp_fails HX.out hb⟩
              case rest =>
                obtain ⟨g, rfl, rfl, HG, g0, g1⟩ := hcut
                clear hcs hcb hbt hne
                have hmul0 : 0 ≤ g * W := Int.mul_nonneg g0 (by omega)
                have hmul1 : g * W ≤ 35 * W := Int.mul_le_mul_of_nonneg_right g1 (by omega)
                go_upto_if 95 with (fail)
                go_cut [17] from 95 to 102 (fun vt wc => vt = .int .i64 (Dm.thr k bias) ∧ wr = wc)
                case first =>
                  by_cases t1 : k ≤ bias
                  · have HT : Hid (Dm.thr k bias = 1) := Lib.hid (by unfold Dm.thr; rw [if_pos t1])
                    go_wp2_with fail
                    go_meet
                    case rel => exact ⟨by rw [HT.out], rfl⟩
                  · by_cases t2 : bias + 26 < k
                    · have HT : Hid (Dm.thr k bias = 26) := Lib.hid (by unfold Dm.thr; rw [if_neg t1, if_pos t2])
                      go_wp2_with fail
                      go_meet
                      case rel => exact ⟨by rw [HT.out], rfl⟩
                    · have HT : Hid (Dm.thr k bias = k - bias) := Lib.hid (by unfold Dm.thr; rw [if_neg t1, if_neg t2])
                      go_wp2_with fail
                      go_meet
                      case rel => exact ⟨by rw [HT.out], rfl⟩
                case rest =>
                  obtain ⟨rfl, rfl⟩ := hcut
                  obtain ⟨t0, t1⟩ := Dm.thr_range k bias
                  by_cases hgt : g < Dm.thr k bias
                  · have HL : Hid (Dm.delta bias 36 i 1 (enc.drop p) = some (j + g * W, enc.drop (q + 1))) := Lib.hid (by rw [← HDL.out]; exact delta_last HG.out hgt)
                    generalize Dm.thr k bias = th at hgt t0 t1 ⊢
                    go_wp2_with fail
                    go_meet
                    case rel => exact ⟨j + g * W, q + 1, rfl, by go_num, rfl, by omega, by omega, HL, by omega, by omega⟩
                  · by_cases hw : W ≥ 59652323
                    · have HX : Hid (Dm.expand l = none) := Lib.hid (HFail.out (by rw [← HDL.out]; exact delta_over HG.out hgt hw))
                      generalize Dm.thr k bias = th at hgt t0 t1 ⊢
                      go_wp2_with (go_at_call 37; refine (fail_same b s _ _ hrw).mono ?_; rintro e w2 ⟨⟨m, o, rfl⟩, rfl⟩)
                      all_goals exact ⟨rfl, exp_fails HX.out hb⟩
                    · have HN : Hid (Dm.delta bias (k + 36) (j + g * W) (W * (36 - Dm.thr k bias)) (enc.drop (q + 1)) = Dm.delta bias 36 i 1 (enc.drop p)) := Lib.hid (by rw [← HDL.out]; exact (delta_next HG.out hgt hw).symm)
                      generalize Dm.thr k bias = th at hgt t0 t1 HN ⊢
                      have m0 : W * 10 ≤ W * (36 - th) := Int.mul_le_mul_of_nonneg_left (by omega) (by omega)
                      have m1 : W * (36 - th) ≤ W * 35 := Int.mul_le_mul_of_nonneg_left (by omega) (by omega)
                      go_wp2_with fail
                      go_round
                      case rel => exact ⟨j + g * W, W * (36 - th), k + 36, q + 1, rfl, by go_num, rfl, rfl, by omega, by omega, HN.out, by omega, by omega, by omega, by omega, by omega, by omega⟩
                      case measure => simp [intOf]; omega
            · have HX : Hid (Dm.expand l = none) := Lib.hid (HFail.out (by rw [← hdl, List.drop_eq_nil_of_le (by omega)]; rfl))
              have hne : ((q : Int) == (enc.length : Int)) = true := by rw [beq_iff_eq]; omega
              clear hdl
              go_wp2_with (go_at_call 37; refine (fail_same b s _ _ hrw).mono ?_; rintro e w2 ⟨⟨m, o, rfl⟩, rfl⟩)
              all_goals exact ⟨rfl, exp_fails HX.out hb⟩
          --}A
        case rest =>
          obtain ⟨j, q, rfl, rfl, rfl, hpq, hq, HJ, j0, j1⟩ := hcut
          obtain ⟨ao, cap, rfl⟩ := rust_own_slice hown
          have HO := Lib.hid hown
          have hrw := h.below hb
          clear hown h
          have hlen : (out.length : Int) ≤ 10000000000 := by omega
          go_upto_if 123 with (fail)
          go_cut [18, 20] from 122 to 127 (fun vd _ wc => vd = .int .i64 (if (i == 0) = true then (j - i) / 700 else (j - i) / 2) ∧ wr = wc)
          case first =>
            --{B
            by_cases hi0 : i = 0
            · have hz0 : (i == 0) = true := by rw [hi0]; rfl
              have HD0 : Hid ((if (i == 0) = true then (j - i) / 700 else (j - i) / 2) = (j - i) / 700) := Lib.hid (by rw [if_pos hz0])
              clear hi0
              go_wp2_with fail
              go_meet
              case rel => exact ⟨by rw [HD0.out], rfl⟩
            · have hz0 : (i == 0) = false := by rw [beq_eq_false_iff_ne]; exact hi0
              have HD0 : Hid ((if (i == 0) = true then (j - i) / 700 else (j - i) / 2) = (j - i) / 2) := Lib.hid (by rw [if_neg (by rw [hz0]; simp)])
              clear hi0
              go_wp2_with fail
              go_meet
              case rel => exact ⟨by rw [HD0.out], rfl⟩
            --}B
          case rest =>
            obtain ⟨rfl, rfl⟩ := hcut
            have hD0 : 0 ≤ (if (i == 0) = true then (j - i) / 700 else (j - i) / 2) ∧ (if (i == 0) = true then (j - i) / 700 else (j - i) / 2) ≤ 50000000000 := by
              split <;> omega
            have HA : Hid (Dm.adapted (j - i) ((out.length : Int) + 1) (i == 0) = (Dm.small ((if (i == 0) = true then (j - i) / 700 else (j - i) / 2) + (if (i == 0) = true then (j - i) / 700 else (j - i) / 2) / ((out.length : Int) + 1)) 0).2 +
                36 * (Dm.small ((if (i == 0) = true then (j - i) / 700 else (j - i) / 2) + (if (i == 0) = true then (j - i) / 700 else (j - i) / 2) / ((out.length : Int) + 1)) 0).1 /
                  ((Dm.small ((if (i == 0) = true then (j - i) / 700 else (j - i) / 2) + (if (i == 0) = true then (j - i) / 700 else (j - i) / 2) / ((out.length : Int) + 1)) 0).1 + 38)) := Lib.hid rfl
            generalize (if (i == 0) = true then (j - i) / 700 else (j - i) / 2) = D0 at hD0 HA ⊢
            obtain ⟨hD1, hD2⟩ := hD0
            have hq0 : 0 ≤ D0 / ((out.length : Int) + 1) := Int.ediv_nonneg hD1 (by omega)
            have hq1 : D0 / ((out.length : Int) + 1) ≤ D0 := Int.ediv_le_self _ hD1
            have hD3 : 0 ≤ D0 + D0 / ((out.length : Int) + 1) ∧ D0 + D0 / ((out.length : Int) + 1) ≤ 100000000000 := by omega
            go_upto_block 5 with (fail)
            generalize D0 + D0 / ((out.length : Int) + 1) = D at hD3 HA ⊢
            clear hq0 hq1 hD1 hD2
            obtain ⟨hD1, hD2⟩ := hD3
            go_cut [18, 21] from 133 to 138 (fun vd vk wc => ∃ d k : Int, vd = .int .i64 d ∧ vk = .int .i64 k ∧ wr = wc ∧ Hid (Dm.small D 0 = (d, k)) ∧ 0 ≤ d ∧ d ≤ 455 ∧ 0 ≤ k ∧ k ≤ 3600000000000)
            case first =>
              --{C
              go_wp2_with fail
              go_loop [18, 21] (fun vd vk => ∃ d k : Int, vd = .int .i64 d ∧ vk = .int .i64 k ∧ Hid (Dm.small d k = Dm.small D 0) ∧ 0 ≤ d ∧ d ≤ D ∧ 0 ≤ k ∧ k ≤ 36 * (D - d)) (fun vd _ => (intOf vd).toNat)
              case atStart => exact ⟨D, 0, rfl, rfl, Lib.hid rfl, by omega, by omega, by omega, by omega⟩
              case round =>
                obtain ⟨d, k, rfl, rfl, HS, d0, d1, k0, k1⟩ := hrel
                by_cases hd : 455 < d
                · have HS2 : Hid (Dm.small (d / 35) (k + 36) = Dm.small D 0) := Lib.hid (by rw [← HS.out, Dm.small.eq_1 d k, if_pos hd])
                  go_wp2_with fail
                  go_round
                  case rel => exact ⟨d / 35, k + 36, rfl, rfl, HS2, by omega, by omega, by omega, by omega⟩
                  case measure => simp [intOf]; omega
                · have HS2 : Hid (Dm.small D 0 = (d, k)) := Lib.hid (by rw [← HS.out, Dm.small.eq_1 d k, if_neg hd])
                  go_wp2_with fail
                  go_meet
                  case rel => exact ⟨d, k, rfl, rfl, rfl, HS2, by omega, by omega, by omega, by omega⟩
              --}C
            case rest =>
              obtain ⟨d, k, rfl, rfl, rfl, HS, d0, d1, k0, k1⟩ := hcut
              have HA2 : Hid (Dm.adapted (j - i) ((out.length : Int) + 1) (i == 0) = k + 36 * d / (d + 38)) := Lib.hid (by rw [HA.out, HS.out])
              clear HA HS
              have hb0 : 0 ≤ 36 * d / (d + 38) := Int.ediv_nonneg (by omega) (by omega)
              have hb1 : 36 * d / (d + 38) ≤ 36 * d := Int.ediv_le_self _ (by omega)
              have hj0 : 0 ≤ j / ((out.length : Int) + 1) := Int.ediv_nonneg (by omega) (by omega)
              have hj1 : j / ((out.length : Int) + 1) ≤ j := Int.ediv_le_self _ (by omega)
              have hm0 : 0 ≤ j % ((out.length : Int) + 1) := Int.emod_nonneg _ (by omega)
              have hm1 : j % ((out.length : Int) + 1) < (out.length : Int) + 1 := Int.emod_lt_of_pos _ (by omega)
              have hne : enc.drop p ≠ [] := by intro e; have := congrArg List.length e; simp at this; omega
              obtain ⟨f', hf', hst⟩ := deltas_step (out := out) (n := n) HF.out hne HJ.out
              rw [HD.out] at hst
              have HST := Lib.hid hst
              have HF2 := Lib.hid hf'
              clear hst hf' hne
              by_cases hbig : 1114111 < n + j / ((out.length : Int) + 1)
              · have HX : Hid (Dm.expand l = none) := Lib.hid (by rw [HST.out, if_pos hbig])
                go_wp2_with (go_at_call 37; refine (fail_same b s _ _ hrw).mono ?_; rintro e w2 ⟨⟨m, o, rfl⟩, rfl⟩)
                all_goals exact ⟨rfl, exp_fails HX.out hb⟩
              · by_cases hv : Dm.validRune (n + j / ((out.length : Int) + 1)) = false
                · have HX : Hid (Dm.expand l = none) := Lib.hid (by rw [HST.out, if_neg hbig, if_pos hv])
                  go_wp2_with (first | (go_at_call 95; refine (validRune_calls _ _).mono ?_; rintro e w2 ⟨rfl, rfl⟩) | (go_at_call 37; refine (fail_same b s _ _ hrw).mono ?_; rintro e w2 ⟨⟨m, o, rfl⟩, rfl⟩))
                  all_goals exact ⟨rfl, exp_fails HX.out hb⟩
                · have hv2 : Dm.validRune (n + j / ((out.length : Int) + 1)) = true := by simpa using hv
                  have HST2 : Hid (Dm.expand l = Dm.deltas f' (out.take (j % ((out.length : Int) + 1)).toNat ++ (n + j / ((out.length : Int) + 1)) :: out.drop (j % ((out.length : Int) + 1)).toNat) (j % ((out.length : Int) + 1) + 1) (n + j / ((out.length : Int) + 1)) (k + 36 * d / (d + 38)) (enc.drop q)) :=
                    Lib.hid (by rw [HST.out, if_neg hbig, if_neg hv, HA2.out])
                  clear HST HA2 hv
                  obtain ⟨i0_, hinf, hz0, hz1, hz2⟩ := info_parts i32_info
                  go_wp2_with (first | (go_at_call 95; refine (validRune_calls _ _).mono ?_; rintro e w2 ⟨rfl, rfl⟩) |
                    (at_builtin; go_must (refine wpList_append_own _ rfl _ _ 117 rfl w.heap.size 21 i0_ (.int .i32 0) 1 4 Tryz.underlying117 hinf hz0 hz1 hz2 rfl (by decide) _ _ _ rfl (HO.out.alloc _) ⟨wr.heap.size, 0, none⟩ 1 1 [.int .i32 0] rfl rfl ?c1 ?c2 ?c3 ?c4 ?c5 ?_)))
                  case c1 =>
                    intro j u hj
                    match j, hj with
                    | 0, hj => simp at hj; subst hj; simp [Addr.add]
                  case c2 => intro u hu; simp at hu; subst hu; rfl
                  case c3 => unfold maxLen; omega
                  case c4 => omega
                  case c5 => have := hb.size; simp; omega
                  intro v' w1 hown' hgrow _
                  have hb1 : Below w.heap.size w w1 := (hb.alloc (by have := hb.size; omega) _).grown hgrow (by have := hb.size; simp; omega) (fun k hk => (HO.out.lt k hk).1)
                  obtain ⟨g, cap', cur, rfl, hgb, hg, hnc, hcm, hcs, htk⟩ : ∃ g cap' cur, v' = .slice (some ⟨g, 0, none⟩) (out.length + 1) cap' ∧ w.heap.size ≤ g ∧ w1.heap[g]? = some (.cells cur 21 (0, 0)) ∧ out.length + 1 ≤ cap' ∧ cap' ≤ maxLen ∧ cur.size = cap' * 1 ∧ cur.toList.take ((out.length + 1) * 1) = i32s out ++ [.int .i32 0] := by
                    rcases hown'.2 with ⟨_, h0⟩ | ⟨g, cap', cur, hv, r⟩
                    · omega
                    · exact ⟨g, cap', cur, hv, r⟩
                  clear hown' hgrow
                  obtain ⟨m, hm⟩ := Int.eq_ofNat_of_zero_le hm0
                  rw [hm] at hm1 HST2 ⊢
                  simp only [Int.toNat_natCast] at HST2
                  have hmn : m ≤ out.length := by omega
                  unfold maxLen at hcm
                  have Hg := Lib.hid hg
                  have Ht := Lib.hid htk
                  have Hc := Lib.hid hcs
                  clear hg htk hcs hm hm0 hm1
                  go_wp2_with fail
                  have h32 : (Tryz.prog.info? 21).map (·.size) = some 1 := by kernel_rfl
                  go_cut [] from 171 to 178 (fun wc => Below w.heap.size w wc ∧ Hid (wc.heap[g]? = some (.cells (splice cur.toList (m + 1) (i32s (out.drop m))).toArray 21 (0, 0))))
                  case first =>
                    have w0_ : IntKind.i64.wrap ((m : Int) + 1) = (m : Int) + 1 := IntWalk.i64_in _ (by omega)
                    have hm3 : 0 ≤ (m : Int) + 1 := by omega
                    have hm4 : ((m : Int) + 1).toNat = m + 1 := by omega
                    have hm5 : (m : Int) + 1 ≤ (out.length : Int) + 1 := by omega
                    have hm6 : (m : Int) ≤ (out.length : Int) + 1 := by omega
                    have hm7 : ¬ cap' = m := by omega
                    have H1 := i32s_one (out.drop m)
                    have H2 : (i32s (out.drop m)).length = Nat.min (out.length + 1 - m) (out.length + 1 - (m + 1)) := by
                      simp only [i32s, List.length_map, List.length_drop]; show _ = min _ _; omega
                    have H3 : m + 1 + (i32s (out.drop m)).length ≤ cur.toList.length := by
                      have := Hc.out; simp [i32s]; omega
                    have Hb := Lib.hid (Below.drew hb1)
                    by_cases hce : cap' = m + 1
                    · have hmo : m = out.length := by omega
                      have H4 : 0 < (i32s (out.drop m)).length → some (⟨g, 0, none⟩ : Addr) = some ⟨g, m + 1, none⟩ ∧ ∃ ad, some (⟨g, m, none⟩ : Addr) = some ad ∧ ∀ jj v, (i32s (out.drop m))[jj]? = some v → w1.drew.cell? (ad.add jj) = some v := by
                        intro h; simp [i32s] at h; omega
                      have K1 := Lib.hid H1
                      have K2 := Lib.hid H2
                      have K3 := Lib.hid H3
                      have K4 := Lib.hid H4
                      clear H1 H2 H3 H4 hb1 hmo hm7
                      subst hce
                      have hm7 : ¬ m + 1 = m := by omega
                      go_region_law (refine step_copy_splice rfl (.tmp 174) (.tmp 177) 117 117 rfl 21 Tryz.underlying117 h32 (some ⟨g, 0, none⟩) (some ⟨g, m, none⟩) (out.length + 1 - (m + 1)) (m + 1 - (m + 1)) (out.length + 1 - m) (m + 1 - m) (by simp [Act.eval, Act.put] <;> omega) (by simp [Act.eval, Act.put] <;> omega) g (m + 1) cur.toList 21 (by rw [Array.toArray_toList]; exact Hg.out) (i32s (out.drop m)) K2.out K4.out K3.out K1.out w.heap.size w Hb.out hgb ?_; intro w4 hg4 hb4)
                      all_goals
                        go_wp2_with fail
                        go_meet
                        case rel => exact ⟨hb4, hg4⟩
                    · have H4 : 0 < (i32s (out.drop m)).length → some (⟨g, m + 1, none⟩ : Addr) = some ⟨g, m + 1, none⟩ ∧ ∃ ad, some (⟨g, m, none⟩ : Addr) = some ad ∧ ∀ jj v, (i32s (out.drop m))[jj]? = some v → w1.drew.cell? (ad.add jj) = some v := by
                        intro _
                        refine ⟨rfl, _, rfl, fun jj v hv => ?_⟩
                        have hjj : m + jj < out.length := by
                          have := (List.getElem?_eq_some_iff.1 hv).1
                          simp [i32s] at this; omega
                        rw [addr_add]
                        have hr : w1.drew.cell? ⟨g, m + jj, none⟩ = _ := row_at (w := w1.drew) (out := out) Hg.out Ht.out (m + jj) hjj
                        rw [hr, ← i32s_get hjj]
                        rw [← hv]
                        simp [i32s]
                      have K1 := Lib.hid H1
                      have K2 := Lib.hid H2
                      have K3 := Lib.hid H3
                      have K4 := Lib.hid H4
                      clear H1 H2 H3 H4 hm5 hb1
                      have hm5 : (m : Int) ≤ (out.length : Int) := by omega
                      go_region_law (refine step_copy_splice rfl (.tmp 174) (.tmp 177) 117 117 rfl 21 Tryz.underlying117 h32 (some ⟨g, m + 1, none⟩) (some ⟨g, m, none⟩) (out.length + 1 - (m + 1)) (cap' - (m + 1)) (out.length + 1 - m) (cap' - m) (by simp [Act.eval, Act.put]) (by simp [Act.eval, Act.put]) g (m + 1) cur.toList 21 (by rw [Array.toArray_toList]; exact Hg.out) (i32s (out.drop m)) K2.out K4.out K3.out K1.out w.heap.size w Hb.out hgb ?_; intro w4 hg4 hb4)
                      all_goals
                        go_wp2_with fail
                        go_meet
                        case rel => exact ⟨hb4, hg4⟩
                  case rest =>
                    obtain ⟨hb4, hg4⟩ := hcut
                    have hL := row_split Ht.out
                    have hcl : cur.toList.length = cap' := by have := Hc.out; simp; omega
                    have hsz := splice_len hmn hL
                    have HI := Lib.hid (ins_row (n + j / ((out.length : Int) + 1)) hmn hL)
                    have hcell : wc.cell? ⟨g, m, none⟩ = some ((splice cur.toList (m + 1) (i32s (out.drop m))).getD m undef) := by
                      rw [Lib.cell_of_heap hg4.out, ← Array.getElem?_toList]
                      simp only [List.getD_eq_getElem?_getD]
                      rw [List.getElem?_eq_getElem (by rw [hsz]; omega)]; rfl
                    have hfrz : wc.frozen? ⟨g, m, none⟩ = false := Lib.frozen_of_heap hg4.out m
                    have HSZ := Lib.hid hsz
                    have HCL := Lib.hid hcl
                    clear hL hsz hcl
                    generalize (splice cur.toList (m + 1) (i32s (out.drop m))).getD m undef = y at hcell
                    go_wp2_with fail
                    go_roundw
                    case rel =>
                      refine ⟨out.take m ++ (n + j / ((out.length : Int) + 1)) :: out.drop m, m + 1, n + j / ((out.length : Int) + 1), k + 36 * d / (d + 38), q, f', own_ins _ hgb hg4.out hmn Ht.out Hc.out hnc (by unfold maxLen; omega), rfl, rfl, rfl, rfl,
                        hb4.setCell (p := ⟨g, m, none⟩) hgb _, hq, ?_, HST2.out.symm, by omega, ?_, by omega, by omega, by omega, by omega, ?_⟩
                      · have := HF.out; have := HF2.out; simp at *; omega
                      · simp; omega
                      · simp; omega
                    case measure => simp [intOf]; omega
      · have hdn : enc.drop p = [] := List.drop_eq_nil_of_le (by omega)
        have HX : Hid (Dm.expand l = some out) := Lib.hid (by
          obtain ⟨f, rfl⟩ : ∃ m, f = m + 1 := ⟨f - 1, by omega⟩
          rw [← hd, Dm.deltas, if_pos hdn])
        have hcv := conv_string hown
        clear hd hdn hf
        go_wp2_with fail
        go_ret
        exact exp_post HX.out hb

end Go.Proofs.YtkhbmkccbhkolaaGreatDoor
