/- The reader's paths: crates, and names within them. -/
import Derived.Test.YtkhbmkccbhkolaaGreatDoorDmP
import Derived.Test.YtkhbmkccbhkolaaGreatDoorIde
import Derived.Test.YtkhbmkccbhkolaaGreatDoorM0
import Derived.Test.YtkhbmkccbhkolaaGreatDoorM3
import Derived.Deep.DeepCutAuto
import Derived.Deep.CutBlock
import Derived.Deep.RegionWith
namespace Go.Proofs.YtkhbmkccbhkolaaGreatDoor
set_option linter.unusedVariables false
set_option linter.unusedSimpArgs false
open Go.RowKit

/-! ### the parameters that a closure takes -/
def Cap (b N : Nat) (ns : Bool) (w : World) : Prop :=
  b < N ∧ w.heap[N]? = some (.cells #[.pointer (some ⟨b, 0, none⟩)] 67 (0, 0)) ∧ w.heap[N + 1]? = some (.cells #[.bool ns] 4 (0, 0))
theorem Cap.fr {b N : Nat} {ns : Bool} {w w' : World} (h : Cap b N ns w) (hf : Fr b w w') : Cap b N ns w' :=
  ⟨h.1, hf.other h.2.1 (by have := h.1; omega) (fun c fz e => by injection e with _ h _; exact absurd h (by decide)), hf.other h.2.2 (by have := h.1; omega) (fun c fz e => by injection e with _ h _; exact absurd h (by decide))⟩
theorem Cap.c0 {b N : Nat} {ns : Bool} {w : World} (h : Cap b N ns w) : w.cell? ⟨N, 0, none⟩ = some (.pointer (some ⟨b, 0, none⟩)) := by rw [Lib.cell_of_heap h.2.1]; rfl
theorem Cap.c1 {b N : Nat} {ns : Bool} {w : World} (h : Cap b N ns w) : w.cell? ⟨N + 1, 0, none⟩ = some (.bool ns) := by rw [Lib.cell_of_heap h.2.2]; rfl
theorem cap_start {b : Nat} {ns : Bool} {w : World} (hb : b < w.heap.size) : Cap b w.heap.size ns ((w.alloc (.cells #[.pointer (some ⟨b, 0, none⟩)] 67)).alloc (.cells #[.bool ns] 4)) := by
  refine ⟨hb, ?_, ?_⟩
  · rw [Lib.alloc_old _ _ _ (by simp only [World.size_alloc]; omega)]; exact heap_alloc_new w _
  · have := heap_alloc_new (w.alloc (.cells #[.pointer (some ⟨b, 0, none⟩)] 67)) (.cells #[.bool ns] 4)
    simp only [World.size_alloc] at this
    exact this
theorem fr_start {b : Nat} {w : World} (hb : b < w.heap.size) (o1 o2 : Obj) : Fr b w ((w.alloc o1).alloc o2) := ((Fr.refl b w).alloc (by omega) o1).alloc (by simp; omega) o2

/-! ### how much is written -/
theorem putStr_len (s : RS) (t : List UInt8) : (s.putStr t).out.length ≤ s.out.length + t.length := by
  unfold RS.putStr
  split
  · omega
  · split
    · show s.out.length ≤ _; omega
    · split
      · omega
      · show (s.out ++ t).length ≤ _; rw [List.length_append]; omega
theorem putByte_len (s : RS) (c : UInt8) : (s.putByte c).out.length ≤ s.out.length + 1 := by
  unfold RS.putByte
  split
  · omega
  · split
    · show s.out.length ≤ _; omega
    · show (s.out ++ [c]).length ≤ _; rw [List.length_append, List.length_singleton]; omega
theorem putKind_len (s : RS) (n : UInt8) : (s.putKind n).out.length ≤ s.out.length + 7 := by
  unfold RS.putKind
  split
  · exact putStr_len s _
  · split
    · have := putStr_len s [115, 104, 105, 109]; simp at this; omega
    · have := putByte_len s n; omega
theorem putName_len (s : RS) (id : List UInt8) : (s.putName id).out.length ≤ s.out.length + 1 + id.length := by
  unfold RS.putName
  split
  · omega
  · have h1 := putByte_len s 58; have h2 := putStr_len (s.putByte 58) id; omega

/-- What path leaves. -/
def PathPost (b : Nat) (x : PR) (w : World) (e : Ending) (w' : World) : Prop :=
  match x with
  | .ok s => e = .returned (.tuple #[]) ∧ RustAt b s w' ∧ Fr b w w'
  | .bad => Fails b w e w'
  | .unsaid => True
theorem path_ok {b : Nat} {x : PR} {s : RS} {w w' : World} (h : x = .ok s) (h1 : RustAt b s w') (h2 : Fr b w w') : PathPost b x w (.returned (.tuple #[])) w' := by subst h; exact ⟨rfl, h1, h2⟩
theorem path_bad {b : Nat} {x : PR} {w w' : World} {e : Ending} (h : x = .bad) (h1 : Fails b w e w') : PathPost b x w e w' := by subst h; exact h1
theorem fr_fails {b : Nat} {w w1 w2 : World} {e : Ending} (h : Fr b w w1) (h2 : Fails b w1 e w2) : Fails b w e w2 := ⟨h2.1, h.trans h2.2⟩
theorem ne_byte' {c : UInt8} {n : Nat} (hn : n < 256) (h : c ≠ UInt8.ofNat n) : ((c.toNat : Int) == (n : Int)) = false := by
  rw [beq_eq_false_iff_ne]; intro e; exact h ((toNat_eq hn).1 (by rw [e]; simp))

/-- A part of a path that cannot be begun. -/
theorem pathM_other {k : Nat} {s : RS} {c : UInt8} {r : List UInt8} (hs : s.str = c :: r) (h : c ≠ 67 ∧ c ≠ 78) (h2 : c ≠ 77 ∧ c ≠ 88 ∧ c ≠ 89 ∧ c ≠ 73 ∧ c ≠ 66) : pathM (k + 1) s = .bad := by
  simp only [pathM, hs]
  rw [if_neg h.1, if_neg h.2, if_neg (by rintro (e | e | e | e | e) <;> simp_all)]

set_option maxHeartbeats 2000000 in
set_option maxRecDepth 100000 in
theorem path_empty (b : Nat) (ns : Bool) (s : RS) (w : World) (h : RustAt b s w) (hs : s.str = []) :
    Calls Tryz.prog 55 #[.pointer (some ⟨b, 0, none⟩), .bool ns] w fun e w' => Fails b w e w' := by
  have hlt := h.lt
  have hcap := cap_start (ns := ns) hlt
  have hr := (h.alloc (.cells #[.pointer (some ⟨b, 0, none⟩)] 67)).alloc (.cells #[.bool ns] 4)
  have HF := Lib.hid (fr_start hlt (.cells #[.pointer (some ⟨b, 0, none⟩)] 67) (.cells #[.bool ns] 4))
  have h1 := hr.c1
  have c0 := hcap.c0
  have H := Lib.hid hr
  rw [hs] at h1
  have hz := bs_size []
  clear h hcap hr
  go_enter Tryz.func55, Tryz.ntmps55
  go_wp2_with fail
  refine (fail_calls b s _ _ H.out).mono ?_
  rintro e w' hf
  obtain ⟨⟨m, o, rfl⟩, hb⟩ := fr_fails HF.out hf
  exact ⟨rfl, ⟨m, o, rfl⟩, hb⟩

set_option maxHeartbeats 2000000 in
set_option maxRecDepth 100000 in
theorem path_other (b : Nat) (ns : Bool) (s : RS) (w : World) (h : RustAt b s w) (c : UInt8) (r : List UInt8) (hs : s.str = c :: r) (h1' : c ≠ 67 ∧ c ≠ 78) (h2' : c ≠ 77 ∧ c ≠ 88 ∧ c ≠ 89 ∧ c ≠ 73 ∧ c ≠ 66) :
    Calls Tryz.prog 55 #[.pointer (some ⟨b, 0, none⟩), .bool ns] w fun e w' => Fails b w e w' := by
  have hlt := h.lt
  have hcap := cap_start (ns := ns) hlt
  have hr := (h.alloc (.cells #[.pointer (some ⟨b, 0, none⟩)] 67)).alloc (.cells #[.bool ns] 4)
  have HF := Lib.hid (fr_start hlt (.cells #[.pointer (some ⟨b, 0, none⟩)] 67) (.cells #[.bool ns] 4))
  have h1 := hr.c1
  have c0 := hcap.c0
  have H := Lib.hid hr
  rw [hs] at h1
  have hz := bs_size (c :: r)
  have hc := UInt8.toNat_lt c
  have n67 : ((c.toNat : Int) == 67) = false := ne_byte' (n := 67) (by omega) h1'.1
  have n78 : ((c.toNat : Int) == 78) = false := ne_byte' (n := 78) (by omega) h1'.2
  have n77 : ((c.toNat : Int) == 77) = false := ne_byte' (n := 77) (by omega) h2'.1
  have n88 : ((c.toNat : Int) == 88) = false := ne_byte' (n := 88) (by omega) h2'.2.1
  have n89 : ((c.toNat : Int) == 89) = false := ne_byte' (n := 89) (by omega) h2'.2.2.1
  have n73 : ((c.toNat : Int) == 73) = false := ne_byte' (n := 73) (by omega) h2'.2.2.2.1
  have n66 : ((c.toNat : Int) == 66) = false := ne_byte' (n := 66) (by omega) h2'.2.2.2.2
  clear h hcap hr h1' h2'
  go_enter Tryz.func55, Tryz.ntmps55
  go_wp2_with (go_at_call 37; refine (fail_calls b s _ _ H.out).mono ?_; rintro e w1 ⟨⟨m, o, rfl⟩, hb⟩)
  exact ⟨rfl, ⟨m, o, rfl⟩, HF.out.trans hb⟩

set_option maxHeartbeats 2000000 in
set_option maxRecDepth 100000 in
theorem path_crate (b : Nat) (ns : Bool) (s : RS) (w : World) (h : RustAt b s w) (r : List UInt8) (hs : s.str = 67 :: r) (k : Nat) (hU : pathM (k + 1) s ≠ .unsaid) :
    Calls Tryz.prog 55 #[.pointer (some ⟨b, 0, none⟩), .bool ns] w fun e w' => PathPost b (pathM (k + 1) s) w e w' := by
  have hlt := h.lt
  have hcap := cap_start (ns := ns) hlt
  have hr := (h.alloc (.cells #[.pointer (some ⟨b, 0, none⟩)] 67)).alloc (.cells #[.bool ns] 4)
  have HF := Lib.hid (fr_start hlt (.cells #[.pointer (some ⟨b, 0, none⟩)] 67) (.cells #[.bool ns] 4))
  have h1 := hr.c1
  have c0 := hcap.c0
  have HC := Lib.hid hcap
  rw [hs] at h1
  have hz := bs_size (67 :: r)
  have hM : pathM (k + 1) s = (match Dm.ident r with | none => .bad | some (d, id, q) => if s.room id.length then .ok ((s.adv q).putStr id) else .unsaid) := by
    simp only [pathM, hs]; rfl
  rw [hM] at hU ⊢
  have hadv := advance_calls b s 1 _ hr (by rw [hs]; simp)
  rw [show s.str.drop 1 = r from by rw [hs]; rfl] at hadv
  have HA := Lib.hid hadv
  clear h hcap hr hadv hM hs
  have hide := fun w2 (hr : RustAt b (s.adv r) w2) => identifier_calls b (s.adv r) w2 hr
  simp only [IdePost, RS.adv_str] at hide
  cases hi : Dm.ident r with
  | none =>
    rw [hi] at hide
    simp only at hide
    have HI := Lib.hid hide
    clear hide hi hU
    go_enter Tryz.func55, Tryz.ntmps55
    go_wp2_with fail
    refine HA.out.mono ?_
    rintro e w2 ⟨rfl, hr2, hb2⟩
    have hcap2 := HC.out.fr hb2
    have c02 := hcap2.c0
    have HR2 := Lib.hid hr2
    clear hr2 hcap2
    go_wp2_with fail
    refine (HI.out _ HR2.out).mono ?_
    rintro e w3 ⟨⟨m, o, rfl⟩, hb3⟩
    exact ⟨rfl, path_bad rfl ⟨⟨m, o, rfl⟩, (HF.out.trans hb2).trans hb3⟩⟩
  | some x =>
    obtain ⟨d, id, q⟩ := x
    rw [hi] at hide hU
    simp only at hide hU
    by_cases hroom : s.room id.length
    · have HI := Lib.hid hide
      have HRM := Lib.hid hroom
      have HPO : Hid ((if s.room id.length then PR.ok ((s.adv q).putStr id) else .unsaid) = .ok ((s.adv q).putStr id)) := Lib.hid (if_pos hroom)
      clear hide hi hU hroom
      go_enter Tryz.func55, Tryz.ntmps55
      go_wp2_with fail
      refine HA.out.mono ?_
      rintro e w2 ⟨rfl, hr2, hb2⟩
      have hcap2 := HC.out.fr hb2
      have c02 := hcap2.c0
      have HC2 := Lib.hid hcap2
      have HR2 := Lib.hid hr2
      clear hr2 hcap2
      go_wp2_with fail
      refine (HI.out _ HR2.out).mono ?_
      rintro e w3 ⟨rfl, hr3, hb3⟩
      rw [RS.adv_adv] at hr3
      have hcap3 := HC2.out.fr hb3
      have c03 := hcap3.c0
      have HW := Lib.hid (writeStr_calls b (s.adv q) id w3 hr3 (by have := HRM.out; unfold RS.room at this; show s.out.length + id.length ≤ _; omega))
      clear hr3 hcap3 c02
      go_wp2_with fail
      refine HW.out.mono ?_
      rintro e w4 ⟨rfl, hr4, hb4⟩
      have HR4 := Lib.hid hr4
      clear hr4
      go_wp2_with fail
      go_end0
      first | exact path_ok HPO.out HR4.out (((HF.out.trans hb2).trans hb3).trans hb4) | exact path_ok rfl HR4.out (((HF.out.trans hb2).trans hb3).trans hb4)
    · rw [if_neg hroom] at hU
      exact absurd rfl hU

theorem up_nums {n : UInt8} (h : isUp n = true) : 65 ≤ (n.toNat : Int) ∧ (n.toNat : Int) ≤ 90 := by simpa [isUp] using h
theorem low_nums {n : UInt8} (h : isLow n = true) : 97 ≤ (n.toNat : Int) ∧ (n.toNat : Int) ≤ 122 := by simpa [isLow] using h
theorem not_up {n : UInt8} (h : isUp n = false) : (n.toNat : Int) < 65 ∨ 90 < (n.toNat : Int) := by
  by_cases h1 : 65 ≤ (n.toNat : Int)
  · by_cases h2 : (n.toNat : Int) ≤ 90
    · have : isUp n = true := by unfold isUp; rw [decide_eq_true h1, decide_eq_true h2]; rfl
      rw [this] at h; cases h
    · exact .inr (by omega)
  · exact .inl (by omega)
theorem not_low {n : UInt8} (h : isLow n = false) : (n.toNat : Int) < 97 ∨ 122 < (n.toNat : Int) := by
  by_cases h1 : 97 ≤ (n.toNat : Int)
  · by_cases h2 : (n.toNat : Int) ≤ 122
    · have : isLow n = true := by unfold isLow; rw [decide_eq_true h1, decide_eq_true h2]; rfl
      rw [this] at h; cases h
    · exact .inr (by omega)
  · exact .inl (by omega)

set_option maxHeartbeats 2000000 in
set_option maxRecDepth 100000 in
/-- A name within a path, whose letter is missing or none. -/
theorem path_noletter (b : Nat) (ns : Bool) (s : RS) (w : World) (h : RustAt b s w) (r : List UInt8) (hs : s.str = 78 :: r) (hr0 : r = [] ∨ ∃ n r2, r = n :: r2 ∧ isLow n = false ∧ isUp n = false) :
    Calls Tryz.prog 55 #[.pointer (some ⟨b, 0, none⟩), .bool ns] w fun e w' => Fails b w e w' := by
  have hlt := h.lt
  have hcap := cap_start (ns := ns) hlt
  have hr := (h.alloc (.cells #[.pointer (some ⟨b, 0, none⟩)] 67)).alloc (.cells #[.bool ns] 4)
  have HF := Lib.hid (fr_start hlt (.cells #[.pointer (some ⟨b, 0, none⟩)] 67) (.cells #[.bool ns] 4))
  have h1 := hr.c1
  have c0 := hcap.c0
  have HC := Lib.hid hcap
  rw [hs] at h1
  have hz := bs_size (78 :: r)
  have hadv := advance_calls b s 1 _ hr (by rw [hs]; simp)
  rw [show s.str.drop 1 = r from by rw [hs]; rfl] at hadv
  have HA := Lib.hid hadv
  have HR0 := Lib.hid hr0
  clear h hcap hr hadv hs hr0
  go_enter Tryz.func55, Tryz.ntmps55
  go_wp2_with fail
  refine HA.out.mono ?_
  rintro e w2 ⟨rfl, hr2, hb2⟩
  have hcap2 := HC.out.fr hb2
  have c02 := hcap2.c0
  have h12 := hr2.c1
  rw [RS.adv_str] at h12
  have HR2 := Lib.hid hr2
  clear hr2 hcap2 h1 hz
  rcases HR0.out with rfl | ⟨n, r2, rfl, hl, hu⟩
  · have hz := bs_size []
    clear HR0
    go_wp2_with (go_at_call 37; refine (fail_calls b _ _ _ HR2.out).mono ?_; rintro e w1 ⟨⟨m, o, rfl⟩, hb⟩)
    exact ⟨rfl, ⟨m, o, rfl⟩, (HF.out.trans hb2).trans hb⟩
  · have hz := bs_size (n :: r2)
    have hn := UInt8.toNat_lt n
    have hl := not_low hl
    have hu := not_up hu
    clear HR0
    rcases hl with hl | hl <;> rcases hu with hu | hu <;> first | (exfalso; omega) | skip
    all_goals
      go_wp2_with (go_at_call 37; refine (fail_calls b _ _ _ HR2.out).mono ?_; rintro e w1 ⟨⟨m, o, rfl⟩, hb⟩)
      exact ⟨rfl, ⟨m, o, rfl⟩, (HF.out.trans hb2).trans hb⟩

theorem disamb_i64 {l r : List UInt8} {d : Int} (h : Dm.disamb l = some (d, r)) : -9223372036854775808 ≤ d ∧ d ≤ 9223372036854775807 := by
  cases l with
  | nil => simp only [Dm.disamb, Option.some.injEq, Prod.mk.injEq] at h; omega
  | cons c l =>
    simp only [Dm.disamb] at h
    split at h
    · split at h
      · rename_i n t _
        simp only [Option.some.injEq, Prod.mk.injEq] at h
        rw [← h.1]; unfold wrap64; omega
      · cases h
    · simp only [Option.some.injEq, Prod.mk.injEq] at h; omega
theorem ident_i64 {l id q : List UInt8} {d : Int} (h : Dm.ident l = some (d, id, q)) : -9223372036854775808 ≤ d ∧ d ≤ 9223372036854775807 := by
  unfold Dm.ident at h
  split at h
  · cases h
  · rename_i d' r hd
    split at h
    · cases h
    · simp only [Option.some.injEq, Prod.mk.injEq] at h
      rw [← h.1]; exact disamb_i64 hd

theorem RustAt.below2 {b : Nat} {s : RS} {w w' : World} (h : RustAt b s w) (hb : Below w.heap.size w w') : RustAt b s w' := by
  have hlt := h.lt
  obtain ⟨hoff, p, v, hbk, hp, hown, hne⟩ := h
  exact ⟨hoff, p, v, (hb.block b hlt).trans hbk, hp, hown.kept (row := none) ⟨hb.os, hb.tape, hb.output, hb.size, fun k hk _ => hb.block k hk⟩ (by cases v.ownBlock <;> simp), hne⟩
theorem dec_len20' (u : Nat) (h : u < 18446744073709551616) : (Lib.decDigits u).length ≤ 20 := by
  have step : ∀ k u, u < 10 ^ (k + 1) → (Lib.decDigits u).length ≤ k + 1 := by
    intro k
    induction k with
    | zero => intro u hu; rw [Lib.decDigits, dif_pos (by simpa using hu)]; simp
    | succ k ih =>
      intro u hu
      rw [Lib.decDigits]
      split
      · simp
      · rw [List.length_append, List.length_singleton]
        have := ih (u / 10) (by rw [Nat.div_lt_iff_lt_mul (by omega)]; rw [Nat.pow_succ] at hu; exact hu)
        omega
  exact step 19 u (Nat.lt_of_lt_of_le h (by decide))
theorem itoa_len {n : Int} (h : -9223372036854775808 ≤ n ∧ n ≤ 9223372036854775807) : (Lib.itoa n).length ≤ 21 := by
  unfold Lib.itoa
  split
  · rw [List.length_cons]; have := dec_len20' n.natAbs (by omega); omega
  · have := dec_len20' n.toNat (by omega); omega
theorem fmtInt_calls (n : Int) (h : -9223372036854775808 ≤ n ∧ n ≤ 9223372036854775807) (w : World) (hT : StrIs w) :
    Calls Tryz.prog 69 #[.int .i64 n, .int .i64 10] w fun e w' => e = .returned (.string (bs (Lib.itoa n))) ∧ Below w.heap.size w w' := by
  refine (Tryz.strconv_FormatInt_10 n h.1 h.2 w hT).mono ?_
  rintro e w' ⟨rfl, k, os, rfl⟩
  exact ⟨rfl, below_grow _ _ _⟩

/-- What comes behind a name's path, for the model. -/
def behind (n : UInt8) : PR → PR
  | .ok s1 => (match Dm.ident s1.str with
    | none => .bad
    | some (d, id, q) => if s1.room (id.length + 100) then .ok ((s1.adv q).part n d id) else .unsaid)
  | x => x
theorem pathM_nested {k : Nat} {s : RS} {n : UInt8} {r2 : List UInt8} (hs : s.str = 78 :: n :: r2) (hn : isLow n = true ∨ isUp n = true) : pathM (k + 1) s = behind n (pathM k (s.adv r2)) := by
  simp only [pathM, hs]
  rw [if_neg (by decide), if_pos (by decide), if_pos hn]
  rfl

/-- A name's path, with what the walk holds behind it. -/
def Half (b N : Nat) (ns : Bool) (w0 : World) (X : PR) (n : UInt8) (w : World) (e : Ending) (w' : World) : Prop :=
  match X with
  | .ok s1 => e = .returned (.tuple #[]) ∧ RustAt b s1 w' ∧ Fr b w w'
  | .bad => Fails b w e w'
  | .unsaid => True

set_option maxHeartbeats 2000000 in
set_option maxRecDepth 100000 in
/-- A name within a path: in front of it stands a path. -/
theorem path_nested (b : Nat) (ns : Bool) (s : RS) (w : World) (h : RustAt b s w) (hT : Based StrIs b w) (n : UInt8) (r2 : List UInt8) (hs : s.str = 78 :: n :: r2) (hn : isLow n = true ∨ isUp n = true) (X : PR) (hX : X ≠ .unsaid)
    (ih : ∀ w1, RustAt b (s.adv r2) w1 → Based StrIs b w1 → Calls Tryz.prog 55 #[.pointer (some ⟨b, 0, none⟩), .bool ns] w1 fun e w' => PathPost b X w1 e w')
    (Y : PR) (hY : Y = behind n X) (hYU : Y ≠ .unsaid) :
    Calls Tryz.prog 55 #[.pointer (some ⟨b, 0, none⟩), .bool ns] w fun e w' => PathPost b Y w e w' := by
  have hlt := h.lt
  have hcap := cap_start (ns := ns) hlt
  have hr := (h.alloc (.cells #[.pointer (some ⟨b, 0, none⟩)] 67)).alloc (.cells #[.bool ns] 4)
  have HF := Lib.hid (fr_start hlt (.cells #[.pointer (some ⟨b, 0, none⟩)] 67) (.cells #[.bool ns] 4))
  have HT := Lib.hid (hT.on HF.out.below)
  have HT0 := Lib.hid hT
  have h1 := hr.c1
  have c0 := hcap.c0
  have HC := Lib.hid hcap
  rw [hs] at h1
  have hz := bs_size (78 :: n :: r2)
  have hadv := advance_calls b s 1 _ hr (by rw [hs]; simp)
  rw [show s.str.drop 1 = n :: r2 from by rw [hs]; rfl] at hadv
  have HA := Lib.hid hadv
  have hn8 := UInt8.toNat_lt n
  have HN := Lib.hid hn
  have HXU := Lib.hid hX
  have HYY := Lib.hid hY
  have HYV := Lib.hid hYU
  have HI := Lib.hid ih
  clear h hcap hr hadv hs hn hX hY hYU ih hT
  go_enter Tryz.func55, Tryz.ntmps55
  go_wp2_with fail
  refine HA.out.mono ?_
  rintro e w2 ⟨rfl, hr2, hb2⟩
  have hcap2 := HC.out.fr hb2
  have c02 := hcap2.c0
  have c12 := hcap2.c1
  have h12 := hr2.c1
  rw [RS.adv_str] at h12
  have HR2 := Lib.hid hr2
  have HC2 := Lib.hid hcap2
  have hz2 := bs_size (n :: r2)
  have hadv2 := advance_calls b _ 1 _ hr2 (by rw [RS.adv_str]; simp)
  rw [show (s.adv (n :: r2)).str.drop 1 = r2 from by rw [RS.adv_str]; rfl, RS.adv_adv] at hadv2
  have HA2 := Lib.hid hadv2
  clear hr2 hcap2 h1 hz hadv2
  go_upto_block 1 with (fail)
  go_cut [] from 88 to 103 (fun wc => w2 = wc)
  case first =>
    rcases HN.out with hl | hu
    · have hl := low_nums hl
      obtain ⟨l1, l2⟩ := hl
      clear HN
      go_wp2_with fail
      go_meet
      case rel => exact rfl
    · have hu := up_nums hu
      obtain ⟨u1, u2⟩ := hu
      have u3 : ¬ 97 ≤ (n.toNat : Int) := by omega
      clear HN
      go_wp2_with fail
      go_meet
      case rel => exact rfl
  case rest =>
  obtain rfl := hcut
  clear h12 hz2
  go_wp2_with fail
  refine HA2.out.mono ?_
  rintro e w3 ⟨rfl, hr3, hb3⟩
  have hcap3 := HC2.out.fr hb3
  have c03 := hcap3.c0
  have c13 := hcap3.c1
  have HC3 := Lib.hid hcap3
  have HR3 := Lib.hid hr3
  have HB3 := Lib.hid (hb2.trans hb3)
  clear hr3 hcap3 c02 c12
  go_wp2_with fail
  refine (HI.out w3 HR3.out (HT.out.on HB3.out.below)).mono ?_
  rintro e w4 hp
  cases X with
  | unsaid => exact absurd rfl HXU.out
  | bad =>
    obtain ⟨⟨m, o, rfl⟩, hb4⟩ := hp
    exact ⟨rfl, path_bad HYY.out ⟨⟨m, o, rfl⟩, (HF.out.trans HB3.out).trans hb4⟩⟩
  | ok s1 =>
  obtain ⟨rfl, hr4, hb4⟩ := hp
  have hcap4 := HC3.out.fr hb4
  have c04 := hcap4.c0
  have HC4 := Lib.hid hcap4
  have HB4 := Lib.hid ((HF.out.trans HB3.out).trans hb4)
  have hide := identifier_calls b s1 _ hr4
  simp only [IdePost] at hide
  have hYY := HYY.out
  have hYV := HYV.out
  simp only [behind] at hYY
  clear hr4 hcap4 c03 c13 HXU HYY HYV HI
  cases hi : Dm.ident s1.str with
  | none =>
    rw [hi] at hide hYY
    simp only at hide hYY
    have HI := Lib.hid hide
    have HYY := Lib.hid hYY
    clear hide hi hYY hYV
    go_wp2_with fail
    refine HI.out.mono ?_
    rintro e w5 ⟨⟨m, o, rfl⟩, hb5⟩
    exact ⟨rfl, path_bad HYY.out ⟨⟨m, o, rfl⟩, HB4.out.trans hb5⟩⟩
  | some x =>
  obtain ⟨d, id, q⟩ := x
  rw [hi] at hide hYY
  simp only at hide hYY
  by_cases hroom : s1.room (id.length + 100)
  case neg => rw [if_neg hroom] at hYY; exact absurd hYY hYV
  case pos =>
  rw [if_pos hroom] at hYY
  have HI := Lib.hid hide
  have HYY := Lib.hid hYY
  have HRM : Hid ((s1.adv q).out.length + id.length + 100 ≤ 140737488355000) := Lib.hid (by unfold RS.room at hroom; show s1.out.length + id.length + 100 ≤ _; omega)
  have HD := Lib.hid (ident_i64 hi)
  clear hide hi hYY hYV hroom
  go_wp2_with fail
  refine HI.out.mono ?_
  rintro e w5 ⟨rfl, hr5, hb5⟩
  have hcap5 := HC4.out.fr hb5
  have c05 := hcap5.c0
  have HC5 := Lib.hid hcap5
  have HB5 := Lib.hid (HB4.out.trans hb5)
  generalize hS : s1.adv q = S at *
  have HSS := Lib.hid hS
  clear hcap5 c04 hS
  by_cases hU : isUp n = true
  case neg =>
    have hL : isLow n = true := by rcases HN.out with h | h; exact h; exact absurd h hU
    obtain ⟨l1, l2⟩ := low_nums hL
    have l0 : 65 ≤ (n.toNat : Int) := by omega
    have l3 : ¬ (n.toNat : Int) ≤ 90 := by omega
    have HPT : Hid (S.part n d id = (S.putStr [58, 58]).putStr id) := Lib.hid (by unfold RS.part; rw [if_neg hU])
    have HW := Lib.hid (writeStr_calls b S [58, 58] w5 hr5 (by have := HRM.out; simp; omega))
    clear hU hL hr5 HN
    go_wp2_with fail
    refine HW.out.mono ?_
    rintro e w6 ⟨rfl, hr6, hb6⟩
    have hcap6 := HC5.out.fr hb6
    have c06 := hcap6.c0
    have HW2 := Lib.hid (writeStr_calls b _ id w6 hr6 (by have h1 := HRM.out; have h2 := putStr_len S [58, 58]; simp at h2; omega))
    clear hcap6 hr6 c05
    go_wp2_with fail
    refine HW2.out.mono ?_
    rintro e w7 ⟨rfl, hr7, hb7⟩
    have HR7 := Lib.hid hr7
    clear hr7
    go_wp2_with fail
    go_end0
    exact path_ok HYY.out (by rw [HPT.out]; exact HR7.out) ((HB5.out.trans hb6).trans hb7)
  case pos =>
    obtain ⟨u1, u2⟩ := up_nums hU
    have HPT : Hid (S.part n d id = (((S.putStr [58, 58, 123]).putKind n).putName id).putRaw (35 :: (Lib.itoa d ++ [125]))) := Lib.hid (by unfold RS.part; rw [if_pos hU])
    have HW := Lib.hid (writeStr_calls b S [58, 58, 123] w5 hr5 (by have := HRM.out; simp; omega))
    clear hU hr5 HN
    go_wp2_with fail
    refine HW.out.mono ?_
    rintro e w6 ⟨rfl, hr6, hb6⟩
    have hcap6 := HC5.out.fr hb6
    have c06 := hcap6.c0
    have HC6 := Lib.hid hcap6
    have HB6 := Lib.hid (HB5.out.trans hb6)
    generalize hS6 : S.putStr [58, 58, 123] = S6 at *
    have HL6 : Hid (S6.out.length + id.length + 90 ≤ 140737488355000) := Lib.hid (by have h1 := HRM.out; have h2 := putStr_len S [58, 58, 123]; rw [hS6] at h2; simp at h2; omega)
    clear hcap6 c05 hS6 HW HRM
    go_upto_block 2 with (fail)
    go_cut [] from 123 to 133 (fun wc => RustAt b (S6.putKind n) wc ∧ Fr b w wc ∧ Cap b w.heap.size ns wc)
    case first =>
      by_cases h67 : n = 67
      · subst h67
        have HWK := Lib.hid (writeStr_calls b S6 [99, 108, 111, 115, 117, 114, 101] w6 hr6 (by have := HL6.out; simp; omega))
        clear hr6
        go_wp2_with fail
        refine HWK.out.mono ?_
        rintro e w7 ⟨rfl, hr7, hb7⟩
        go_wp2_with fail
        go_meet
        case rel => exact ⟨by unfold RS.putKind; rw [if_pos rfl]; exact hr7, HB6.out.trans hb7, HC6.out.fr hb7⟩
      · by_cases h83 : n = 83
        · subst h83
          have HWK := Lib.hid (writeStr_calls b S6 [115, 104, 105, 109] w6 hr6 (by have := HL6.out; simp; omega))
          clear hr6
          go_wp2_with fail
          refine HWK.out.mono ?_
          rintro e w7 ⟨rfl, hr7, hb7⟩
          go_wp2_with fail
          go_meet
          case rel => exact ⟨by unfold RS.putKind; rw [if_neg h67, if_pos rfl]; exact hr7, HB6.out.trans hb7, HC6.out.fr hb7⟩
        · have n67 : ((n.toNat : Int) == 67) = false := ne_byte' (n := 67) (by omega) h67
          have n83 : ((n.toNat : Int) == 83) = false := ne_byte' (n := 83) (by omega) h83
          have HWK := Lib.hid (writeByte_calls b S6 n w6 hr6 (by have := HL6.out; omega))
          clear hr6
          go_wp2_with fail
          refine HWK.out.mono ?_
          rintro e w7 ⟨rfl, hr7, hb7⟩
          go_wp2_with fail
          go_meet
          case rel => exact ⟨by unfold RS.putKind; rw [if_neg h67, if_neg h83]; exact hr7, HB6.out.trans hb7, HC6.out.fr hb7⟩
    case rest =>
    obtain ⟨hr7, hb7, hcap7⟩ := hcut
    have c07 := hcap7.c0
    have HC7 := Lib.hid hcap7
    have HB7 := Lib.hid hb7
    generalize hS7 : S6.putKind n = S7 at *
    have HL7 : Hid (S7.out.length + id.length + 80 ≤ 140737488355000) := Lib.hid (by have h1 := HL6.out; have h2 := putKind_len S6 n; rw [hS7] at h2; omega)
    have hz := bs_size id
    clear hcap7 hS7 HL6 hr6 c06 HC6 HB6 hb7
    go_upto_if 136 with (fail)
    go_cut [] from 137 to 141 (fun wc => RustAt b (S7.putName id) wc ∧ Fr b w wc ∧ Cap b w.heap.size ns wc)
    case first =>
      cases id with
      | nil =>
        go_wp2_with fail
        go_meet
        case rel => exact ⟨by unfold RS.putName; rw [if_pos rfl]; exact hr7, HB7.out, HC7.out⟩
      | cons x xs =>
        have hp : 0 < ((x :: xs).length : Int) := by simp
        have HW1 := Lib.hid (writeByte_calls b S7 58 _ hr7 (by have := HL7.out; omega))
        clear hr7
        go_wp2_with fail
        refine HW1.out.mono ?_
        rintro e w8 ⟨rfl, hr8, hb8⟩
        have hcap8 := HC7.out.fr hb8
        have c08 := hcap8.c0
        have HC8 := Lib.hid hcap8
        have HW2 := Lib.hid (writeStr_calls b _ (x :: xs) w8 hr8 (by have h1 := HL7.out; have h2 := putByte_len S7 58; omega))
        clear hr8 hcap8 c07
        go_wp2_with fail
        refine HW2.out.mono ?_
        rintro e w9 ⟨rfl, hr9, hb9⟩
        go_wp2_with fail
        go_meet
        case rel => exact ⟨by unfold RS.putName; rw [if_neg (by simp)]; exact hr9, (HB7.out.trans hb8).trans hb9, HC8.out.fr hb9⟩
    case rest =>
    obtain ⟨hr8, hb8, hcap8⟩ := hcut
    have c08 := hcap8.c0
    have h58 := hr8.c5
    have HB8 := Lib.hid hb8
    have HC8 := Lib.hid hcap8
    generalize hS8 : S7.putName id = S8 at *
    have HL8 : Hid (S8.out.length + 70 ≤ 140737488355000) := Lib.hid (by have h1 := HL7.out; have h2 := putName_len S7 id; rw [hS8] at h2; omega)
    have HP8 := Lib.hid HPT.out
    clear hcap8 hS8 HL7 hr7 c07 HC7 HB7 hb8 hz HPT
    cases hsk : S8.skip with
    | true =>
      rw [hsk] at h58
      have HR8 := Lib.hid hr8
      have HSK : Hid (S8.putRaw (35 :: (Lib.itoa d ++ [125])) = S8) := Lib.hid (by unfold RS.putRaw; rw [if_pos hsk])
      clear hr8 hsk
      go_wp2_with fail
      go_end0
      exact path_ok HYY.out (by rw [HP8.out, HSK.out]; exact HR8.out) HB8.out
    | false =>
      rw [hsk] at h58
      have HSK : Hid (S8.putRaw (35 :: (Lib.itoa d ++ [125])) = { S8 with last := 125, out := S8.out ++ (35 :: (Lib.itoa d ++ [125])) }) := Lib.hid (by unfold RS.putRaw; rw [if_neg (by rw [hsk]; decide)])
      have HR8 := Lib.hid hr8
      have HT8 := Lib.hid (HT0.out.on HB8.out.below).out
      have hz := bs_size (Lib.itoa d)
      have hil := itoa_len HD.out
      have HIL := Lib.hid hil
      have hs3 : (9223372036854775807 < 1 + (Lib.itoa d).length) = False := eq_false (by omega)
      have hs4 : (9223372036854775807 < 1 + (Lib.itoa d).length + 1) = False := eq_false (by omega)
      have hn3 : ¬ 9223372036854775807 < 1 + (Lib.itoa d).length := by omega
      have hn4 : ¬ 9223372036854775807 < 1 + (Lib.itoa d).length + 1 := by omega
      have hse : (⟨#[35]⟩ : ByteArray) ++ bs (Lib.itoa d) ++ (⟨#[125]⟩ : ByteArray) = bs (35 :: (Lib.itoa d ++ [125])) := by
        apply ByteArray.ext; simp [bs]
      have hwb := fun w9 (hr : RustAt b S8 w9) => bldString_calls b S8 (35 :: (Lib.itoa d ++ [125])) w9 hr (by have := HL8.out; simp; omega)
      rw [← hse] at hwb
      have HWB := Lib.hid hwb
      clear hr8 hsk hse hwb
      go_upto_region 50 with (fail)
      go_cut [] from 147 to 154 (fun wc => RustAt b { S8 with out := S8.out ++ (35 :: (Lib.itoa d ++ [125])) } wc ∧ Fr b w wc ∧ Cap b w.heap.size ns wc)
      case first =>
        go_region_with (first | (go_at_call 69; refine (fmtInt_calls d HD.out _ (show StrIs (World.drew _) from HT8.out)).mono ?_; rintro e w9 ⟨rfl, hb9⟩; have c09 := (HC8.out.fr ((Fr.refl b _).drew.trans (Fr.of_below hb9 (Nat.le_of_lt HR8.out.lt)))).c0) | (go_at_call 57; refine (HWB.out _ (HR8.out.drew.below2 hb9)).mono ?_; rintro e w10 ⟨⟨nn, rfl⟩, hr10, hb10⟩))
        all_goals
          clear hs3 hs4 hn3 hn4 hz
          have HFR := Lib.hid ((Fr.of_below hb9 (Nat.le_of_lt HR8.out.lt)).trans hb10)
          go_wp2_with fail
          go_meet
          case rel => exact ⟨hr10, HB8.out.drew.trans HFR.out, HC8.out.fr ((Fr.refl b _).drew.trans HFR.out)⟩
      case rest =>
        obtain ⟨hr11, hb11, hcap11⟩ := hcut
        have c011 := hcap11.c0
        have c711 := hr11.c7
        have f711 := hr11.frozen 7
        have HR11 := Lib.hid (hr11.setLast 125)
        have HB11 := Lib.hid (hb11.setCell (p := ⟨b, 7, none⟩) rfl (.int .u8 125))
        clear hr11 hcap11 hb11 c08 h58 hs3 hs4 hn3 hn4 hz hil HWB
        go_wp2_with fail
        go_end0
        exact path_ok HYY.out (by rw [HP8.out, HSK.out]; exact HR11.out) HB11.out
end Go.Proofs.YtkhbmkccbhkolaaGreatDoor
