/- UTF-8, in plain Lean: characters that are written are read. utf8.ValidString at this program, and the tables that it reads. spec.IdCharacters: whether a text is UTF-8, and its characters. spec.IdCharacters in the form of a printed function. The thin package's Told, beside UTF-8's tables: the premise that both ask of the world. -/
import Derived.Lib.MapLaws
import Derived.Lib.ValidLaws
import Derived.Test.YtkhbmkccbhkolaaGreatDoorM1
import Derived.Test.YtkhbmkccbhkolaaGreatDoorM3
import Derived.Shelf.Unicode.ValidAny
import Derived.Lib.OthersKept
import Derived.Lib.TrimUEq
import Derived.Test.YtkhbmkccbhkolaaGreatDoorWMore
import Derived.Test.YtkhbmkccbhkolaaGreatDoorM5
namespace Go.Proofs.YtkhbmkccbhkolaaGreatDoor.Dm
set_option linter.unusedVariables false
set_option linter.unusedSimpArgs false
open Go.RowKit Go.Lib

/-- The bytes of a character. -/
def U (c : Int) : List UInt8 := (Utf8.encode c).data.toList
theorem get0 (a : UInt8) (r : List UInt8) : (a :: r).getD 0 0 = a := rfl
theorem nat8 {n : Nat} (h : n < 256) : (UInt8.ofNat n).toNat = n := UInt8.toNat_ofNat_of_lt' (by have : UInt8.size = 256 := rfl; omega)
theorem u_read (c : Int) (hv : Utf8.valid c = true) (rest : List UInt8) : decodeL (U c ++ rest) = (c.toNat, (U c).length) := by
  have hr : (0 ≤ c ∧ c < 55296) ∨ (57344 ≤ c ∧ c ≤ 1114111) := by simpa [Utf8.valid] using hv
  rw [decodeL_N]
  unfold U Utf8.encode
  simp only [hv, if_true]
  obtain ⟨n, hn⟩ : ∃ n : Nat, c = (n : Int) := ⟨c.toNat, by omega⟩
  subst hn
  rw [Int.toNat_natCast]
  by_cases h1 : n < 128
  · rw [if_pos h1]
    simp only [List.cons_append, List.nil_append, List.getD_cons_zero, List.length_cons, List.length_nil]
    unfold decodeN
    rw [nat8 (by omega), if_pos h1]
  · rw [if_neg h1]
    by_cases h2 : n < 2048
    · rw [if_pos h2]
      simp only [List.cons_append, List.nil_append, List.getD_cons_zero, List.getD_cons_succ, List.length_cons, List.length_nil]
      rw [nat8 (by omega), nat8 (by omega)]
      unfold decodeN
      rw [if_neg (by omega), if_pos (by omega), if_pos (by omega)]
      exact Prod.ext (by show _ = n; omega) rfl
    · rw [if_neg h2]
      by_cases h3 : n < 65536
      · rw [if_pos h3]
        simp only [List.cons_append, List.nil_append, List.getD_cons_zero, List.getD_cons_succ, List.length_cons, List.length_nil]
        rw [nat8 (by omega), nat8 (by omega), nat8 (by omega)]
        unfold decodeN
        rw [if_neg (by omega), if_neg (by omega), if_pos (by omega), if_pos (by omega)]
        exact Prod.ext (by show _ = n; omega) rfl
      · rw [if_neg h3]
        simp only [List.cons_append, List.nil_append, List.getD_cons_zero, List.getD_cons_succ, List.length_cons, List.length_nil]
        rw [nat8 (by omega), nat8 (by omega), nat8 (by omega), nat8 (by omega)]
        unfold decodeN
        rw [if_neg (by omega), if_neg (by omega), if_neg (by omega), if_pos (by omega), if_pos (by omega)]
        exact Prod.ext (by show _ = n; omega) rfl
theorem u_len (c : Int) : 1 ≤ (U c).length ∧ (U c).length ≤ 4 := by
  unfold U Utf8.encode
  simp only
  repeat' split
  all_goals simp
theorem u_one (c : Int) (rest : List UInt8) (hv : Utf8.valid c = true) : ¬ ((decodeL (U c ++ rest)).1 = 65533 ∧ (decodeL (U c ++ rest)).2 = 1) := by
  rw [u_read c hv]
  rintro ⟨h1, h2⟩
  simp only at h1 h2
  have hc : c = 65533 := by omega
  subst hc
  exact absurd h2 (by decide)
/-- A text of characters. -/
def UU (L : List Int) : List UInt8 := L.flatMap U
theorem uu_valid : ∀ L : List Int, (∀ c ∈ L, Utf8.valid c = true) → validD (UU L) = true := by
  intro L
  induction L with
  | nil => intro _; rfl
  | cons c L ih =>
    intro h
    have hc := h c (List.mem_cons_self ..)
    have hl := u_len c
    show validD (U c ++ UU L) = true
    rw [validD_step _ (by intro e; have := (List.append_eq_nil_iff.1 e).1; rw [this] at hl; simp at hl), if_neg (u_one c _ hc), u_read c hc]
    rw [List.drop_left]
    exact ih fun x hx => h x (List.mem_cons_of_mem _ hx)
/-- What is read of a text, character by character. -/
def rune : Nat → List UInt8 → List Int
  | 0, _ => []
  | n + 1, l => if l = [] then [] else ((decodeL l).1 : Int) :: rune n (l.drop (decodeL l).2)
theorem rune_uu : ∀ (L : List Int) (n : Nat), (∀ c ∈ L, Utf8.valid c = true) → (UU L).length ≤ n → rune n (UU L) = L := by
  intro L
  induction L with
  | nil => intro n _ _; cases n <;> rfl
  | cons c L ih =>
    intro n h hn
    have hc := h c (List.mem_cons_self ..)
    have hl := u_len c
    have hne : U c ++ UU L ≠ [] := by intro e; have := (List.append_eq_nil_iff.1 e).1; rw [this] at hl; simp at hl
    have hn2 : (U c ++ UU L).length ≤ n := hn
    rw [List.length_append] at hn2
    obtain ⟨n, rfl⟩ : ∃ m, n = m + 1 := ⟨n - 1, by omega⟩
    show rune (n + 1) (U c ++ UU L) = _
    simp only [rune]
    rw [if_neg hne, u_read c hc]
    simp only
    rw [List.drop_left, ih n (fun x hx => h x (List.mem_cons_of_mem _ hx)) (by omega)]
    have hr : (0 ≤ c ∧ c < 55296) ∨ (57344 ≤ c ∧ c ≤ 1114111) := by simpa [Utf8.valid] using hc
    congr 1; omega
theorem rune_len : ∀ (n : Nat) (l : List UInt8), l.length ≤ n → (rune n l).length ≤ l.length := by
  intro n
  induction n with
  | zero => intro l h; simp [rune]
  | succ n ih =>
    intro l h
    simp only [rune]
    split
    · simp
    · rename_i hne
      have hd := decodeL_width l
      have hl : 0 < l.length := List.length_pos_iff.2 hne
      have := ih (l.drop (decodeL l).2) (by rw [List.length_drop]; omega)
      rw [List.length_drop] at this
      simp only [List.length_cons]
      omega
end Go.Proofs.YtkhbmkccbhkolaaGreatDoor.Dm
open Go Go.Proofs Go.Shelf
namespace Go.Proofs
open Go.RowKit Go.Shelf Go.Lib
def Tryz.laysValid_ren : Go.Shelf.Ren := ⟨fun | 196 => 44 | 259 => 60 | n => n, fun | 9 => 9 | 4 => 4 | 3 => 3 | 5 => 5 | 12 => 12 | 119 => 96 | 0 => 0 | 46 => 78 | 139 => 99 | 138 => 98 | 53 => 28 | n => n, fun | 3 => 2 | 4 => 3 | n => n⟩
theorem Tryz.laysValid : Go.Proofs.Lays.n196 Tryz.prog Tryz.laysValid_ren := {
  mixed := by kernel_rfl
  f196 := Tryz.func44.trans (congrArg some (by kernel_rfl))
  f259 := Tryz.func60.trans (congrArg some (by kernel_rfl))
  t0 := Tryz.underlying0
  a0 := Tryz.isAgg0
  z0 := Tryz.sizeOf0
  v0 := Tryz.zeroValue0
  t3 := Tryz.underlying3
  a3 := Tryz.isAgg3
  z3 := Tryz.sizeOf3
  v3 := Tryz.zeroValue3
  t4 := Tryz.underlying4
  a4 := Tryz.isAgg4
  z4 := Tryz.sizeOf4
  v4 := Tryz.zeroValue4
  t5 := Tryz.underlying5
  a5 := Tryz.isAgg5
  z5 := Tryz.sizeOf5
  v5 := Tryz.zeroValue5
  t9 := Tryz.underlying9
  a9 := Tryz.isAgg9
  z9 := Tryz.sizeOf9
  v9 := Tryz.zeroValue9
  t12 := Tryz.underlying12
  a12 := Tryz.isAgg12
  z12 := Tryz.sizeOf12
  v12 := Tryz.zeroValue12
  t46 := Tryz.underlying78
  a46 := Tryz.isAgg78
  z46 := Tryz.sizeOf78
  v46 := Tryz.zeroValue78
  t53 := Tryz.underlying28
  a53 := Tryz.isAgg28
  z53 := Tryz.sizeOf28
  v53 := Tryz.zeroValue28
  t119 := Tryz.underlying96
  a119 := Tryz.isAgg96
  z119 := Tryz.sizeOf96
  t138 := Tryz.underlying98
  a138 := Tryz.isAgg98
  z138 := Tryz.sizeOf98
  v138 := Tryz.zeroValue98
  t139 := Tryz.underlying99
  a139 := Tryz.isAgg99
  z139 := Tryz.sizeOf99
  v139 := Tryz.zeroValue99
  g3 := by kernel_rfl
  g4 := by kernel_rfl }
end Go.Proofs
namespace Go.Proofs.YtkhbmkccbhkolaaGreatDoor
set_option linter.unusedVariables false
set_option linter.unusedSimpArgs false
open Go.RowKit Go.Shelf Go.Lib
/-- The library's tables of UTF-8 lie as the program's text lays them. -/
def UtfIs (w : World) : Prop := Lib.Utf8Tabs (Tryz.laysValid_ren.g 3) (Tryz.laysValid_ren.g 4) w
instance : Stays UtfIs := ⟨fun h hb => Utf8Tabs_below h hb⟩
class HasUtf (T : World → Prop) : Prop where
  utf : ∀ {w : World}, T w → UtfIs w
instance : HasUtf UtfIs := ⟨fun h => h⟩
/-- Both. -/
def UniIs (w : World) : Prop := StrIs w ∧ UtfIs w
instance : Stays UniIs := ⟨fun h hb => ⟨Stays.below h.1 hb, Stays.below h.2 hb⟩⟩
instance : HasStr UniIs := ⟨fun h => h.1⟩
instance : HasUtf UniIs := ⟨fun h => h.2⟩
theorem valid_calls (s : ByteArray) (w : World) (hs : s.size ≤ 9223372036854775807) (hT : UtfIs w) :
    Calls Tryz.prog 44 #[.string s] w fun e w' => e = .returned (.bool (Lib.validD s.data.toList)) ∧ Below w.heap.size w w' :=
  Any.utf8_ValidString Tryz.laysValid s w hs hT
end Go.Proofs.YtkhbmkccbhkolaaGreatDoor
namespace Go.Proofs.YtkhbmkccbhkolaaGreatDoor
set_option linter.unusedVariables false
set_option linter.unusedSimpArgs false
open Go.RowKit Go.Proofs.YtkhbmkccbhkolaaGreatDoorW.PrintWords Go.Proofs.YtkhbmkccbhkolaaGreatDoorW.PrintLast Go.Proofs.YtkhbmkccbhkolaaGreatDoorW.PrintMore
theorem iter_R {w : World} {it : Nat} {v : Value} {xs : List Int} {base : Nat} (h : (Kd.int .i64).R 3 w base (fun k => k ≠ it) v xs) (s : ByteArray) (pos : Nat) : (Kd.int .i64).R 3 (w.iterAt it s pos) base (fun k => k ≠ it) v xs :=
  Kd.R_step h (fun k hk _ => Lib.iterAt_other w it k s pos hk)
/-- Where the list stands: its row, the iterator, what is left to read. -/
def CR (s : ByteArray) (it : Nat) (w0 : World) (v : Value) (w : World) : Prop :=
  ∃ (pos n : Nat) (xs : List Int), (Kd.int .i64).R 3 w w0.heap.size (fun k => k ≠ it) v xs ∧ w.heap[it]? = some (.stringIter s pos) ∧ Below w0.heap.size w0 w ∧ w0.heap.size ≤ it ∧ xs ++ Dm.rune n (s.data.toList.drop pos) = Dm.rune s.size s.data.toList ∧ s.size ≤ pos + n ∧ xs.length ≤ pos
theorem info_int : (Tryz.prog.info? 3).map (fun i => (i.zero, i.size, i.bytes)) = some (some (.int .i64 0), 1, 8) := by kernel_rfl
theorem wrap_c (c : Int) (h0 : 0 ≤ c) (h1 : c ≤ 2147483647) : IntKind.i64.wrap c = c := by rw [i64_w]; unfold wrap64; omega
theorem rune_nil (n : Nat) : Dm.rune n [] = [] := by cases n <;> rfl
set_option maxHeartbeats 6400000 in
set_option maxRecDepth 1000000 in
theorem characters_calls (s : ByteArray) (hs : s.size ≤ 1000000) (w : World) (hT : UtfIs w) :
    Calls Tryz.prog 25 #[.string s] w fun e w' => ∃ v0_ : Value, e = .returned (.tuple #[v0_, .bool (Lib.validD s.data.toList)]) ∧ (Kd.int .i64).R 3 w' w.heap.size (fun _ => True) v0_ (if Lib.validD s.data.toList then Dm.rune s.size s.data.toList else []) ∧ Below w.heap.size w w' := by
  have cV := valid_calls s w (by omega) hT
  generalize Lib.validD s.data.toList = V at cV ⊢
  cases V with
  | false =>
    go_enter Tryz.func25, Tryz.ntmps25
    go_wp2_with (go_at_call 44; refine cV.mono ?_; rintro e w1 ⟨rfl, hb1⟩)
    go_ret2
    exact ⟨_, rfl, Kd.R_nil _ _ _ _ _, hb1⟩
  | true =>
    rw [if_pos rfl]
    go_enter Tryz.func25, Tryz.ntmps25
    go_wp2_with (first | (go_at_call 44; refine cV.mono ?_; rintro e w1 ⟨rfl, hb1⟩) | ((with_reducible refine gate_dst (N := 10) rfl ?_); refine Kd.R_lit (Kd.int .i64) _ 3 ?hg (N := 10) ?hd (xs := ([] : List Int)) (inner := []) (ok := fun _ => True) (okp := fun _ => True) ?hr ?hp (fun _ hk => hk) trivial (Below.refl _ _) (Nat.le_refl _) (by simp) ?_; (case hd => rfl); (case hg => rfl); (case hr => first | (go_simp; done) | (go_simp; rfl)); (case hp => exact (Reps.none _ _)); intro v2 w2 ho2 hb2 hg2 hnew2; clear hg2 hnew2))
    have hb3 := hb1.trans (hb2.mono hb1.size)
    have ho3 := Kd.R_lower ho2 hb1.size
    clear hb2 ho2 cV
    have hsz2 : w.heap.size ≤ w2.heap.size := hb3.size
    go_loopw [4] (fun v4 wr => CR s w2.heap.size w v4 wr) (fun _ wr => s.size - wr.iterPos w2.heap.size)
    case atStart =>
      refine ⟨0, s.size, [], ?_, ?_, ?_, hsz2, by simp, by omega, by simp⟩
      · exact Kd.R_alloc (Kd.R_mono (Kd.R_bound ho3) (fun k hk => by have := hk.2.2.1; omega)) _
      · have := World.iter_heap w2 s 0
        simpa using this
      · exact hb3.alloc hsz2 _
    case round =>
      obtain ⟨pos, n, xs, hR, hit, hbw, hh, hacc, hfu, hal⟩ := hrel
      have hsz : w2.heap.size < wr.heap.size := (Array.getElem?_eq_some_iff.1 hit).1
      by_cases hp : pos < s.size
      · have hnx : ∀ ty, (Instr.next (.pointer (some ⟨w2.heap.size, 0, none⟩)) true ty).run Tryz.prog wr = _ := fun ty => Lib.run_next_any_at wr w2.heap.size s pos ty hit hp
        have hwd := Lib.decodeL_width (s.data.toList.drop pos)
        rw [Lib.decodeL_drop] at hwd
        have hd1 := decode_le s pos
        have hR2 := iter_R hR s (pos + (Utf8.decode s pos).2)
        have hit2 := Lib.iterAt_heap wr w2.heap.size s pos (pos + (Utf8.decode s pos).2) hit
        have hbw2 := Lib.below_iterAt hbw (k := w2.heap.size) hh s (pos + (Utf8.decode s pos).2)
        have hsz3 : w.heap.size ≤ (wr.iterAt w2.heap.size s (pos + (Utf8.decode s pos).2)).heap.size := by rw [Lib.iterAt_size]; omega
        obtain ⟨f, rfl⟩ : ∃ f, n = f + 1 := ⟨n - 1, by omega⟩
        obtain ⟨c, hc⟩ : ∃ c : Int, ((Utf8.decode s pos).1 : Int) = c := ⟨_, rfl⟩
        obtain ⟨K, hK⟩ : ∃ K, (Utf8.decode s pos).2 = K := ⟨_, rfl⟩
        have hc0 : 0 ≤ c ∧ c ≤ 2147483647 := by omega
        have hwc : IntKind.i64.wrap c = c := wrap_c c hc0.1 hc0.2
        rw [hK] at hR2 hit2 hbw2 hsz3 hwd
        rw [hc, hK] at hnx
        generalize hw3 : wr.iterAt w2.heap.size s (pos + K) = w3 at hR2 hit2 hbw2 hsz3 hnx
        have hsz4 : w2.heap.size < w3.heap.size := (Array.getElem?_eq_some_iff.1 hit2).1
        have hlen : xs.length ≤ 1000000 := by omega
        go_wp2_with ((with_reducible refine gate_builtin (b := .append) (xs := #[.tmp 16, .tmp 19]) rfl ?_); at_builtin; refine Kd.R_append (Kd.int .i64) (w0 := w) w.heap.size rfl (.tmp 16) (.tmp 19) 22 3 (.int .i64 0) 8 rfl Tryz.underlying22 info_int rfl (by decide) (by omega) u4 xs c [.int .i64 c] (fun k => k ≠ w2.heap.size) (fun _ => False) rfl rfl ?aP (fun _ hk => hk.elim) ?aF ?aO ?aB ?aS ?aL ?_; (case aP => exact rfl); (case aB => exact hbw2); (case aF => exact (fun k hk => by omega)); (case aO => exact hR2); (case aS => exact hsz3); (case aL => omega); intro v5 w5 ho5 hb5 hg5 hat5)
        go_roundw
        case rel =>
          refine ⟨pos + K, f, xs ++ [c], ho5, ?_, hb5, hh, ?_, by omega, by simp; omega⟩
          · rw [hg5.block _ hsz4 (Kd.R_away hR2 (fun _ hk => hk)), hit2]
          · rw [← hacc, List.append_assoc, List.singleton_append]
            congr 1
            have hne : s.data.toList.drop pos ≠ [] := by
              intro e; have := congrArg List.length e; rw [List.length_drop] at this; simp at this; have h2 : s.data.size = s.size := rfl; omega
            show _ = Dm.rune (f + 1) (s.data.toList.drop pos)
            simp only [Dm.rune]
            rw [if_neg hne, Lib.decodeL_drop, hc, hK, List.drop_drop]
        case measure =>
          have e1 : wr.iterPos w2.heap.size = pos := by simp only [World.iterPos, hit]
          have e2 : w5.iterPos w2.heap.size = pos + K := by simp only [World.iterPos, hg5.block _ hsz4 (Kd.R_away hR2 (fun _ hk => hk)), hit2]
          omega
      · have hnx : ∀ ty, (Instr.next (.pointer (some ⟨w2.heap.size, 0, none⟩)) true ty).run Tryz.prog wr = _ := fun ty => Lib.run_next_end_at wr w2.heap.size s pos ty hit hp
        go_wp2
        go_ret2
        have hend : Dm.rune n (s.data.toList.drop pos) = [] := by
          rw [List.drop_of_length_le (by rw [Array.length_toList]; have h2 : s.data.size = s.size := rfl; omega)]; exact rune_nil n
        rw [hend, List.append_nil] at hacc
        exact ⟨_, rfl, by rw [← hacc]; exact Kd.R_mono hR (fun _ _ => trivial), hbw⟩
end Go.Proofs.YtkhbmkccbhkolaaGreatDoor
namespace Go.Proofs.YtkhbmkccbhkolaaGreatDoor
set_option linter.unusedVariables false
set_option linter.unusedSimpArgs false
open Go.RowKit Go.Proofs.YtkhbmkccbhkolaaGreatDoorW.PrintWords Go.Proofs.YtkhbmkccbhkolaaGreatDoorW.PrintLast Go.Proofs.YtkhbmkccbhkolaaGreatDoorW.PrintMore
def spec_IdCharacters.f (a0 : ByteArray) : Option (List Int × Bool) :=
  if a0.size ≤ 1000000 then some (if Lib.validD a0.data.toList then Dm.rune a0.size a0.data.toList else [], Lib.validD a0.data.toList) else none
theorem spec_IdCharacters.calls {T_ : World → Prop} [HasUtf T_] (a0 : ByteArray) (r1 : List Int) (r2 : Bool) (w : World) (hT_ : T_ w) (h : spec_IdCharacters.f a0 = some (r1, r2)) :
    Calls Tryz.prog 25 #[.string a0] w fun e w' => ∃ v0_ : Value, e = .returned (.tuple #[v0_, .bool r2]) ∧ Kd.R (Kd.int .i64) 3 w' w.heap.size (fun _ => True) v0_ r1 ∧ Below w.heap.size w w' := by
  unfold spec_IdCharacters.f at h
  by_cases hs : a0.size ≤ 1000000
  · rw [if_pos hs] at h
    simp only [Option.some.injEq, Prod.mk.injEq] at h
    obtain ⟨rfl, rfl⟩ := h
    exact characters_calls a0 hs w (HasUtf.utf hT_)
  · rw [if_neg hs] at h; cases h
end Go.Proofs.YtkhbmkccbhkolaaGreatDoor
namespace Go.Proofs.YtkhbmkccbhkolaaGreatDoor
set_option linter.unusedVariables false
set_option linter.unusedSimpArgs false
open Go.RowKit Go.Proofs.YtkhbmkccbhkolaaGreatDoorW.PrintWords Go.Proofs.YtkhbmkccbhkolaaGreatDoorW.PrintLast Go.Proofs.YtkhbmkccbhkolaaGreatDoorW.PrintMore

/-- What the walks ask of the variables. -/
def DoorU (w : World) : Prop := DoorIs w ∧ UtfIs w
instance : Stays DoorU := ⟨fun h hb => ⟨Stays.below h.1 hb, Stays.below h.2 hb⟩⟩
instance : HasStr DoorU := ⟨fun h => HasStr.str h.1⟩
instance : HasUtf DoorU := ⟨fun h => h.2⟩
def impl_ToldU.f (a0 : ByteArray) (o0 o1 o2 o3 o4 o5 o6 : Bool) (o7 : Int) : Option (ByteArray × Int) := impl_Told.f a0 o0 o1 o2 o3 o4 o5 o6 o7
theorem impl_ToldU.calls (a0 : ByteArray) (o0 o1 o2 o3 o4 o5 o6 : Bool) (o7 : Int) (r1 : ByteArray) (r2 : Int) (w : World) (hT_ : DoorU w) (h : impl_ToldU.f a0 o0 o1 o2 o3 o4 o5 o6 o7 = some (r1, r2)) :
    Calls Tryz.prog 11 #[.string a0, .agg #[.bool o0, .bool o1, .bool o2, .bool o3, .bool o4, .bool o5, .bool o6, .int .i64 o7]] w fun e w' => e = .returned (.tuple #[.string r1, .int .i64 r2]) ∧ Below w.heap.size w w' :=
  impl_Told.calls a0 o0 o1 o2 o3 o4 o5 o6 o7 r1 r2 w hT_.1 h
end Go.Proofs.YtkhbmkccbhkolaaGreatDoor
