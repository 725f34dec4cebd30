/- spec.IdCharacters: whether a text is UTF-8, and its characters. -/
import Derived.Test.YtkhbmkccbhkolaaDoorIdV
import Derived.Test.YtkhbmkccbhkolaaDoorWMore
namespace Go.Proofs.YtkhbmkccbhkolaaDoor
set_option linter.unusedVariables false
set_option linter.unusedSimpArgs false
open Go.RowKit Go.Proofs.YtkhbmkccbhkolaaDoorW.PrintWords Go.Proofs.YtkhbmkccbhkolaaDoorW.PrintLast Go.Proofs.YtkhbmkccbhkolaaDoorW.PrintMore
theorem iter_R {w : World} {it : Nat} {v : Value} {xs : List Int} {base : Nat} (h : (Kd.int .i64).R 3 w base (fun k => k ≠ it) v xs) (s : ByteArray) (pos : Nat) : (Kd.int .i64).R 3 (w.iterAt it s pos) base (fun k => k ≠ it) v xs :=
  Kd.R_step h (fun k hk _ => Lib.iterAt_other w it k s pos hk)
/-- Where the list stands: its row, the iterator, what is left to read. -/
def CR (s : ByteArray) (it : Nat) (w0 : World) (v : Value) (w : World) : Prop :=
  ∃ (pos n : Nat) (xs : List Int), (Kd.int .i64).R 3 w w0.heap.size (fun k => k ≠ it) v xs ∧ w.heap[it]? = some (.stringIter s pos) ∧ Below w0.heap.size w0 w ∧ w0.heap.size ≤ it ∧ xs ++ Dm.rune n (s.data.toList.drop pos) = Dm.rune s.size s.data.toList ∧ s.size ≤ pos + n ∧ xs.length ≤ pos
theorem info_int : (Tryd.prog.info? 3).map (fun i => (i.zero, i.size, i.bytes)) = some (some (.int .i64 0), 1, 8) := by kernel_rfl
theorem wrap_c (c : Int) (h0 : 0 ≤ c) (h1 : c ≤ 2147483647) : IntKind.i64.wrap c = c := by rw [i64_w]; unfold wrap64; omega
theorem rune_nil (n : Nat) : Dm.rune n [] = [] := by cases n <;> rfl
set_option maxHeartbeats 6400000 in
set_option maxRecDepth 1000000 in
theorem characters_calls (s : ByteArray) (hs : s.size ≤ 1000000) (w : World) (hT : UtfIs w) :
    Calls Tryd.prog 7 #[.string s] w fun e w' => ∃ v0_ : Value, e = .returned (.tuple #[v0_, .bool (Lib.validD s.data.toList)]) ∧ (Kd.int .i64).R 3 w' w.heap.size (fun _ => True) v0_ (if Lib.validD s.data.toList then Dm.rune s.size s.data.toList else []) ∧ Below w.heap.size w w' := by
  have cV := valid_calls s w (by omega) hT
  generalize Lib.validD s.data.toList = V at cV ⊢
  cases V with
  | false =>
    go_enter Tryd.func7, Tryd.ntmps7
    go_wp2_with (go_at_call 16; refine cV.mono ?_; rintro e w1 ⟨rfl, hb1⟩)
    go_ret2
    exact ⟨_, rfl, Kd.R_nil _ _ _ _ _, hb1⟩
  | true =>
    rw [if_pos rfl]
    go_enter Tryd.func7, Tryd.ntmps7
    go_wp2_with (first | (go_at_call 16; refine cV.mono ?_; rintro e w1 ⟨rfl, hb1⟩) | ((with_reducible refine gate_dst (N := 10) rfl ?_); refine Kd.R_lit (Kd.int .i64) _ 3 ?hg (N := 10) ?hd (xs := ([] : List Int)) (inner := []) (ok := fun _ => True) (okp := fun _ => True) ?hr ?hp (fun _ hk => hk) trivial (Below.refl _ _) (Nat.le_refl _) (by simp) ?_; (case hd => rfl); (case hg => rfl); (case hr => first | (go_simp; done) | (go_simp; rfl)); (case hp => exact (Reps.none _ _)); intro v2 w2 ho2 hb2 hg2 hnew2; clear hg2 hnew2))
    have hb3 := hb1.trans (hb2.mono hb1.size)
    have ho3 := Kd.R_lower ho2 hb1.size
    clear hb2 ho2 cV
    have hsz2 : w.heap.size ≤ w2.heap.size := hb3.size
    go_loopw [4] (fun v4 wr => CR s w2.heap.size w v4 wr) (fun _ wr => s.size - wr.iterPos w2.heap.size)
    case atStart =>
      refine ⟨0, s.size, [], ?_, ?_, ?_, hsz2, by simp, by omega, by simp⟩
      · exact Kd.R_alloc (Kd.R_mono (Kd.R_bound ho3) (fun k hk => by have := hk.2.2.1; omega)) _
      · have := World.iter_heap w2 s 0
        simpa using this
      · exact hb3.alloc hsz2 _
    case round =>
      obtain ⟨pos, n, xs, hR, hit, hbw, hh, hacc, hfu, hal⟩ := hrel
      have hsz : w2.heap.size < wr.heap.size := (Array.getElem?_eq_some_iff.1 hit).1
      by_cases hp : pos < s.size
      · have hnx : ∀ ty, (Instr.next (.pointer (some ⟨w2.heap.size, 0, none⟩)) true ty).run Tryd.prog wr = _ := fun ty => Lib.run_next_any_at wr w2.heap.size s pos ty hit hp
        have hwd := Lib.decodeL_width (s.data.toList.drop pos)
        rw [Lib.decodeL_drop] at hwd
        have hd1 := decode_le s pos
        have hR2 := iter_R hR s (pos + (Utf8.decode s pos).2)
        have hit2 := Lib.iterAt_heap wr w2.heap.size s pos (pos + (Utf8.decode s pos).2) hit
        have hbw2 := Lib.below_iterAt hbw (k := w2.heap.size) hh s (pos + (Utf8.decode s pos).2)
        have hsz3 : w.heap.size ≤ (wr.iterAt w2.heap.size s (pos + (Utf8.decode s pos).2)).heap.size := by rw [Lib.iterAt_size]; omega
        obtain ⟨f, rfl⟩ : ∃ f, n = f + 1 := ⟨n - 1, by omega⟩
        obtain ⟨c, hc⟩ : ∃ c : Int, ((Utf8.decode s pos).1 : Int) = c := ⟨_, rfl⟩
        obtain ⟨K, hK⟩ : ∃ K, (Utf8.decode s pos).2 = K := ⟨_, rfl⟩
        have hc0 : 0 ≤ c ∧ c ≤ 2147483647 := by omega
        have hwc : IntKind.i64.wrap c = c := wrap_c c hc0.1 hc0.2
        rw [hK] at hR2 hit2 hbw2 hsz3 hwd
        rw [hc, hK] at hnx
        generalize hw3 : wr.iterAt w2.heap.size s (pos + K) = w3 at hR2 hit2 hbw2 hsz3 hnx
        have hsz4 : w2.heap.size < w3.heap.size := (Array.getElem?_eq_some_iff.1 hit2).1
        have hlen : xs.length ≤ 1000000 := by omega
        go_wp2_with ((with_reducible refine gate_builtin (b := .append) (xs := #[.tmp 16, .tmp 19]) rfl ?_); at_builtin; refine Kd.R_append (Kd.int .i64) (w0 := w) w.heap.size rfl (.tmp 16) (.tmp 19) 25 3 (.int .i64 0) 8 rfl Tryd.underlying25 info_int rfl (by decide) (by omega) u4 xs c [.int .i64 c] (fun k => k ≠ w2.heap.size) (fun _ => False) rfl rfl ?aP (fun _ hk => hk.elim) ?aF ?aO ?aB ?aS ?aL ?_; (case aP => exact rfl); (case aB => exact hbw2); (case aF => exact (fun k hk => by omega)); (case aO => exact hR2); (case aS => exact hsz3); (case aL => omega); intro v5 w5 ho5 hb5 hg5 hat5)
        go_roundw
        case rel =>
          refine ⟨pos + K, f, xs ++ [c], ho5, ?_, hb5, hh, ?_, by omega, by simp; omega⟩
          · rw [hg5.block _ hsz4 (Kd.R_away hR2 (fun _ hk => hk)), hit2]
          · rw [← hacc, List.append_assoc, List.singleton_append]
            congr 1
            have hne : s.data.toList.drop pos ≠ [] := by
              intro e; have := congrArg List.length e; rw [List.length_drop] at this; simp at this; have h2 : s.data.size = s.size := rfl; omega
            show _ = Dm.rune (f + 1) (s.data.toList.drop pos)
            simp only [Dm.rune]
            rw [if_neg hne, Lib.decodeL_drop, hc, hK, List.drop_drop]
        case measure =>
          have e1 : wr.iterPos w2.heap.size = pos := by simp only [World.iterPos, hit]
          have e2 : w5.iterPos w2.heap.size = pos + K := by simp only [World.iterPos, hg5.block _ hsz4 (Kd.R_away hR2 (fun _ hk => hk)), hit2]
          omega
      · have hnx : ∀ ty, (Instr.next (.pointer (some ⟨w2.heap.size, 0, none⟩)) true ty).run Tryd.prog wr = _ := fun ty => Lib.run_next_end_at wr w2.heap.size s pos ty hit hp
        go_wp2
        go_ret2
        have hend : Dm.rune n (s.data.toList.drop pos) = [] := by
          rw [List.drop_of_length_le (by rw [Array.length_toList]; have h2 : s.data.size = s.size := rfl; omega)]; exact rune_nil n
        rw [hend, List.append_nil] at hacc
        exact ⟨_, rfl, by rw [← hacc]; exact Kd.R_mono hR (fun _ _ => trivial), hbw⟩
end Go.Proofs.YtkhbmkccbhkolaaDoor
