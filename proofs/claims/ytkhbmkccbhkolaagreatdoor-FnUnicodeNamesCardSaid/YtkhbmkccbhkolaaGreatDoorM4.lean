/- path for all paths of crates and names, and symbolName. What is written of a path is read: in plain Lean. What is looked at ahead of a reading: the beginning, the dot, the options. rustToString, in plain Lean. -/
import Derived.Test.YtkhbmkccbhkolaaGreatDoorPath
import Derived.Test.YtkhbmkccbhkolaaGreatDoorM2
import Derived.Test.YtkhbmkccbhkolaaGreatDoorM1
namespace Go.Proofs.YtkhbmkccbhkolaaGreatDoor
set_option linter.unusedVariables false
set_option linter.unusedSimpArgs false
open Go.RowKit

theorem path_calls (b : Nat) (ns : Bool) : ∀ (k : Nat) (s : RS) (w : World), RustAt b s w → Based StrIs b w → pathM k s ≠ .unsaid →
    Calls Tryz.prog 55 #[.pointer (some ⟨b, 0, none⟩), .bool ns] w fun e w' => PathPost b (pathM k s) w e w' := by
  intro k
  induction k with
  | zero => intro s w _ _ h; exact absurd rfl h
  | succ k ih =>
    intro s w hr hT hU
    cases hs : s.str with
    | nil =>
      have hM : pathM (k + 1) s = .bad := by simp only [pathM, hs]
      exact (path_empty b ns s w hr hs).mono fun e w' h => path_bad hM h
    | cons c r =>
      by_cases h67 : c = 67
      · subst h67; exact path_crate b ns s w hr r hs k hU
      · by_cases h78 : c = 78
        · subst h78
          cases hr2 : r with
          | nil =>
            have hM : pathM (k + 1) s = .bad := by simp only [pathM, hs, hr2]; rfl
            exact (path_noletter b ns s w hr r hs (.inl hr2)).mono fun e w' h => path_bad hM h
          | cons n r2 =>
            rw [hr2] at hs
            by_cases hn : isLow n = true ∨ isUp n = true
            · have hY := pathM_nested (k := k) hs hn
              have hX : pathM k (s.adv r2) ≠ .unsaid := by intro e; rw [e] at hY; exact hU hY
              exact path_nested b ns s w hr hT n r2 hs hn (pathM k (s.adv r2)) hX (fun w1 h1 h2 => ih _ w1 h1 h2 hX) (pathM (k + 1) s) hY hU
            · have hM : pathM (k + 1) s = .bad := by
                simp only [pathM, hs]
                rw [if_neg (by decide), if_pos (by decide), if_neg hn]
              refine (path_noletter b ns s w hr (n :: r2) hs (.inr ⟨n, r2, rfl, ?_, ?_⟩)).mono fun e w' h => path_bad hM h
              · cases h : isLow n with
                | false => rfl
                | true => exact absurd (.inl h) hn
              · cases h : isUp n with
                | false => rfl
                | true => exact absurd (.inr h) hn
        · by_cases h2 : c = 77 ∨ c = 88 ∨ c = 89 ∨ c = 73 ∨ c = 66
          · exfalso
            apply hU
            simp only [pathM, hs]
            rw [if_neg h67, if_neg h78, if_pos h2]
          · simp only [not_or] at h2
            exact (path_other b ns s w hr c r hs ⟨h67, h78⟩ h2).mono fun e w' h => path_bad (pathM_other hs ⟨h67, h78⟩ h2) h

/-! ### symbolName -/
/-- What comes behind the first path. -/
def againM (k : Nat) : PR → PR
  | .ok s1 => if s1.str = [] then .ok s1 else pathM k { s1 with skip := true }
  | x => x
def symM (k : Nat) (s : RS) : PR := match s.str with
  | [] => .bad
  | c :: _ => if Dm.isDig c = true then .bad else againM k (pathM k s)

set_option maxHeartbeats 2000000 in
set_option maxRecDepth 100000 in
theorem symbolName_calls (b : Nat) (k : Nat) (s : RS) (w : World) (h : RustAt b s w) (hT : Based StrIs b w) (hU : symM k s ≠ .unsaid) :
    Calls Tryz.prog 36 #[.pointer (some ⟨b, 0, none⟩)] w fun e w' => PathPost b (symM k s) w e w' := by
  have h1 := h.c1
  have HR := Lib.hid h
  cases hs : s.str with
  | nil =>
    have hM : Hid (symM k s = .bad) := Lib.hid (by simp only [symM, hs])
    rw [hs] at h1
    have hz := bs_size []
    clear h hU hs
    go_enter Tryz.func36, Tryz.ntmps36
    go_wp2_with (go_at_call 37; refine (fail_calls b s _ _ HR.out).mono ?_; rintro e w1 ⟨⟨m, o, rfl⟩, hb⟩)
    exact ⟨rfl, path_bad hM.out ⟨⟨m, o, rfl⟩, hb⟩⟩
  | cons c r =>
    rw [hs] at h1
    have hz := bs_size (c :: r)
    have hc := UInt8.toNat_lt c
    by_cases hd : Dm.isDig c = true
    · have hM : Hid (symM k s = .bad) := Lib.hid (by simp only [symM, hs, if_pos hd])
      simp only [Dm.isDig, Bool.and_eq_true, decide_eq_true_eq] at hd
      obtain ⟨d1, d2⟩ := hd
      clear h hU hs
      go_enter Tryz.func36, Tryz.ntmps36
      go_wp2_with (first | (go_at_call 54; refine (isDigit_calls _ _).mono ?_; rintro e w1 ⟨rfl, rfl⟩) | (go_at_call 37; refine (fail_calls b s _ _ HR.out).mono ?_; rintro e w1 ⟨⟨m, o, rfl⟩, hb⟩))
      exact ⟨rfl, path_bad hM.out ⟨⟨m, o, rfl⟩, hb⟩⟩
    · have hM : symM k s = againM k (pathM k s) := by simp only [symM, hs, if_neg hd]
      rw [hM] at hU ⊢
      have hU1 : pathM k s ≠ .unsaid := by intro e; rw [e] at hU; exact hU rfl
      have hpc := path_calls b true k s w h hT hU1
      have hU2 : ∀ s1, pathM k s = .ok s1 → s1.str ≠ [] → pathM k { s1 with skip := true } ≠ .unsaid := by
        intro s1 e hne e2; rw [e] at hU; apply hU; simp only [againM, if_neg hne]; exact e2
      have hA : ∀ s1, pathM k s = .ok s1 → s1.str ≠ [] → againM k (pathM k s) = pathM k { s1 with skip := true } := by
        intro s1 e hne; rw [e]; simp only [againM, if_neg hne]
      have hA0 : ∀ s1, pathM k s = .ok s1 → s1.str = [] → againM k (pathM k s) = .ok s1 := by
        intro s1 e hne; rw [e]; simp only [againM, if_pos hne]
      have hAb : pathM k s = .bad → againM k (pathM k s) = .bad := by intro e; rw [e]; rfl
      generalize hY : againM k (pathM k s) = Y at *
      generalize hX : pathM k s = X at *
      have hdd : ¬ (48 ≤ (c.toNat : Int) ∧ (c.toNat : Int) ≤ 57) := by
        intro h2; apply hd; simp only [Dm.isDig, Bool.and_eq_true, decide_eq_true_eq]; exact h2
      have HP := Lib.hid hpc
      have HU1 := Lib.hid hU1
      have HU2 := Lib.hid hU2
      have HA := Lib.hid hA
      have HA0 := Lib.hid hA0
      have HAb := Lib.hid hAb
      have HT := Lib.hid hT
      have hd1 : (48 : Int) ≤ c.toNat → ¬ (c.toNat : Int) ≤ 57 := by omega
      clear h hU hs hM hY hX hpc hU1 hU2 hA hA0 hAb hdd hd hT
      by_cases hd0 : (48 : Int) ≤ c.toNat
      all_goals first | (have hd2 := hd1 hd0) | (have hd2 := hd0)
      all_goals clear hd1
      all_goals
        go_enter Tryz.func36, Tryz.ntmps36
        go_wp2_with (first | (go_at_call 54; refine (isDigit_calls _ _).mono ?_; rintro e w1 ⟨rfl, rfl⟩) | fail)
        refine HP.out.mono ?_
        rintro e w2 hp
        cases X with
        | unsaid => exact absurd rfl HU1.out
        | bad =>
          obtain ⟨⟨m, o, rfl⟩, hb2⟩ := hp
          exact ⟨rfl, path_bad (HAb.out rfl) ⟨⟨m, o, rfl⟩, hb2⟩⟩
        | ok s1 =>
        obtain ⟨rfl, hr2, hb2⟩ := hp
        have h12 := hr2.c1
        have hf5 := hr2.frozen 5
        have hc5 := hr2.c5
        have HR2 := Lib.hid hr2
        have HB2 := Lib.hid hb2
        clear h1 hz
        cases hs1 : s1.str with
        | nil =>
          rw [hs1] at h12
          have hz := bs_size []
          clear hr2
          go_wp2_with fail
          go_end0
          exact path_ok (HA0.out s1 rfl hs1) HR2.out HB2.out
        | cons c1 r1 =>
          rw [hs1] at h12
          have hz := bs_size (c1 :: r1)
          have hp1 : 0 < ((c1 :: r1).length : Int) := by simp
          have HPP := Lib.hid (path_calls b false k { s1 with skip := true } _ (hr2.setSkip true) (HT.out.on (HB2.out.setCell (p := ⟨b, 5, none⟩) rfl (.bool true)).below) (HU2.out s1 rfl (by rw [hs1]; simp)))
          have HY2 := Lib.hid (HA.out s1 rfl (by rw [hs1]; simp))
          have HB3 := Lib.hid (HB2.out.setCell (p := ⟨b, 5, none⟩) rfl (.bool true))
          have HS1 := Lib.hid hs1
          clear hr2 hs1
          go_wp2_with fail
          refine HPP.out.mono ?_
          rintro e w3 hp3
          have hNZ := HU2.out s1 rfl (by rw [HS1.out]; simp)
          generalize pathM k { s1 with skip := true } = Z at *
          cases Z with
          | unsaid => exact absurd rfl hNZ
          | bad =>
            obtain ⟨⟨m, o, rfl⟩, hb3⟩ := hp3
            exact ⟨rfl, path_bad HY2.out ⟨⟨m, o, rfl⟩, HB3.out.trans hb3⟩⟩
          | ok s3 =>
            obtain ⟨rfl, hr3, hb3⟩ := hp3
            go_wp2_with fail
            go_end0
            exact path_ok HY2.out hr3 (HB3.out.trans hb3)
end Go.Proofs.YtkhbmkccbhkolaaGreatDoor
namespace Go.Proofs.YtkhbmkccbhkolaaGreatDoor
set_option linter.unusedVariables false
set_option linter.unusedSimpArgs false
open Go.RowKit

/-! ### what is shown, with a limit -/
def Shown (mx : Int) (T : List UInt8) (s : RS) : Prop :=
  s.mx = mx ∧ ((s.skip = false ∧ s.out = T) ∨ (s.skip = true ∧ 0 < mx ∧ mx < (s.out.length : Int) ∧ s.out <+: T))
theorem Shown.len {mx : Int} {T : List UInt8} {s : RS} (h : Shown mx T s) : s.out.length ≤ T.length := by
  rcases h.2 with ⟨_, h⟩ | ⟨_, _, _, h⟩
  · rw [h]; exact Nat.le_refl _
  · exact h.length_le
theorem Shown.adv {mx : Int} {T : List UInt8} {s : RS} (h : Shown mx T s) (r : List UInt8) : Shown mx T (s.adv r) := h
theorem Shown.skips {mx : Int} {T : List UInt8} {s : RS} (hm : s.mx = mx) (h : s.skip = true ∧ 0 < mx ∧ mx < (s.out.length : Int) ∧ s.out <+: T) (t : List UInt8) : Shown mx (T ++ t) s :=
  ⟨hm, .inr ⟨h.1, h.2.1, h.2.2.1, h.2.2.2.trans (List.prefix_append _ _)⟩⟩
theorem Shown.stops {mx : Int} {T : List UInt8} {s : RS} (hm : s.mx = mx) (ho : s.out = T) (hc : s.mx > 0 ∧ (s.out.length : Int) > s.mx) (t : List UInt8) : Shown mx (T ++ t) { s with skip := true } := by
  refine ⟨hm, .inr ⟨rfl, by omega, by show mx < (s.out.length : Int); omega, ?_⟩⟩
  show s.out <+: _
  rw [ho]; exact List.prefix_append _ _
theorem Shown.putStr {mx : Int} {T : List UInt8} {s : RS} (h : Shown mx T s) (t : List UInt8) : Shown mx (T ++ t) (s.putStr t) := by
  obtain ⟨hm, h⟩ := h
  unfold RS.putStr
  rcases h with ⟨hs, ho⟩ | h
  · rw [if_neg (by rw [hs]; decide)]
    split
    · rename_i hc; exact Shown.stops hm ho hc t
    · split
      · rename_i he
        rw [List.getLast?_eq_none_iff] at he
        subst he; rw [List.append_nil]; exact ⟨hm, .inl ⟨hs, ho⟩⟩
      · exact ⟨hm, .inl ⟨hs, by show s.out ++ t = _; rw [ho]⟩⟩
  · rw [if_pos h.1]; exact Shown.skips hm h t
theorem Shown.putByte {mx : Int} {T : List UInt8} {s : RS} (h : Shown mx T s) (c : UInt8) : Shown mx (T ++ [c]) (s.putByte c) := by
  obtain ⟨hm, h⟩ := h
  unfold RS.putByte
  rcases h with ⟨hs, ho⟩ | h
  · rw [if_neg (by rw [hs]; decide)]
    split
    · rename_i hc; exact Shown.stops hm ho hc [c]
    · exact ⟨hm, .inl ⟨hs, by show s.out ++ [c] = _; rw [ho]⟩⟩
  · rw [if_pos h.1]; exact Shown.skips hm h [c]
theorem Shown.putRaw {mx : Int} {T : List UInt8} {s : RS} (h : Shown mx T s) (t : List UInt8) : Shown mx (T ++ t) (s.putRaw t) := by
  obtain ⟨hm, h⟩ := h
  unfold RS.putRaw
  rcases h with ⟨hs, ho⟩ | h
  · rw [if_neg (by rw [hs]; decide)]
    exact ⟨hm, .inl ⟨hs, by show s.out ++ t = _; rw [ho]⟩⟩
  · rw [if_pos h.1]; exact Shown.skips hm h t

/-! ### parts of a path -/
structure Prt where
  sp : UInt8
  nm : List UInt8
  ds : Nat
def kindT (n : UInt8) : List UInt8 := if n = 67 then [99, 108, 111, 115, 117, 114, 101] else if n = 83 then [115, 104, 105, 109] else [n]
def nameT (nm : List UInt8) : List UInt8 := if nm = [] then [] else 58 :: nm
/-- The text of a part. -/
def partT (n : UInt8) (d : Int) (nm : List UInt8) : List UInt8 :=
  if isUp n then [58, 58, 123] ++ kindT n ++ nameT nm ++ (35 :: (Lib.itoa d ++ [125])) else [58, 58] ++ nm
theorem Shown.part {mx : Int} {T : List UInt8} {s : RS} (h : Shown mx T s) (n : UInt8) (d : Int) (nm : List UInt8) : Shown mx (T ++ partT n d nm) (s.part n d nm) := by
  unfold RS.part partT
  have hk : Shown mx (T ++ [58, 58, 123] ++ kindT n) ((s.putStr [58, 58, 123]).putKind n) := by
    unfold kindT RS.putKind
    split
    · exact (h.putStr _).putStr _
    · split
      · exact (h.putStr _).putStr _
      · exact (h.putStr _).putByte _
  have hn : Shown mx (T ++ [58, 58, 123] ++ kindT n ++ nameT nm) (((s.putStr [58, 58, 123]).putKind n).putName nm) := by
    unfold nameT RS.putName
    split
    · rw [List.append_nil]; exact hk
    · have := (hk.putByte 58).putStr nm
      rw [show (58 : UInt8) :: nm = [58] ++ nm from rfl, ← List.append_assoc]; exact this
  split
  · have := hn.putRaw (35 :: (Lib.itoa d ++ [125]))
    simp only [List.append_assoc] at this ⊢; exact this
  · have := (h.putStr [58, 58]).putStr nm
    rw [List.append_assoc] at this; exact this

theorem part_str (s : RS) (n : UInt8) (d : Int) (nm : List UInt8) : (s.part n d nm).str = s.str := by
  have h1 : ∀ (s : RS) t, (s.putStr t).str = s.str := by
    intro s t; unfold RS.putStr; repeat' split
    all_goals rfl
  have h2 : ∀ (s : RS) c, (s.putByte c).str = s.str := by
    intro s t; unfold RS.putByte; repeat' split
    all_goals rfl
  have h3 : ∀ (s : RS) t, (s.putRaw t).str = s.str := by
    intro s t; unfold RS.putRaw; repeat' split
    all_goals rfl
  have h4 : ∀ (s : RS), (s.putKind n).str = s.str := by
    intro s; unfold RS.putKind; repeat' split
    all_goals first | exact h1 _ _ | exact h2 _ _
  have h5 : ∀ (s : RS), (s.putName nm).str = s.str := by
    intro s; unfold RS.putName; split
    · rfl
    · rw [h1, h2]
  unfold RS.part
  split
  · rw [h3, h5, h4, h1]
  · rw [h1, h1]
theorem putStr_str (s : RS) (t : List UInt8) : (s.putStr t).str = s.str := by
  unfold RS.putStr; repeat' split
  all_goals rfl

def ownW (p : Prt) : List UInt8 := Dm.disW p.ds ++ Dm.written p.nm
/-- What is written of parts, the last one first. -/
def symR (base : List UInt8) : List Prt → List UInt8
  | [] => base
  | p :: ps => 78 :: p.sp :: (symR base ps ++ ownW p)
def textR (crate : List UInt8) : List Prt → List UInt8
  | [] => crate
  | p :: ps => textR crate ps ++ partT p.sp (p.ds : Int) p.nm
structure Prt.Good (p : Prt) : Prop where
  sp : isLow p.sp = true ∨ isUp p.sp = true
  pl : p.nm.all Dm.isPlain = true
  ln : p.nm.length ≤ 10000
  ds : p.ds ≤ 4611686018427387904
/-- The crate's own. -/
def baseW (cd : Nat) (crate : List UInt8) : List UInt8 := 67 :: (Dm.disW cd ++ Dm.written crate)

theorem undis_zero (r : List UInt8) : Dm.undis (48 :: 95 :: r) = some ([], r) := by
  have h := Dm.undis_num 0 (by decide) (95 :: r) (by intro c t e; injection e with e _; subst e; decide)
  have e : Lib.decDigits 0 = [48] := by rw [Lib.decDigits, dif_pos (by omega)]; rfl
  rw [e] at h
  exact h.trans (Dm.named_plain [] r rfl)
theorem undis_zero' : Dm.undis [48] = some ([], []) := by
  have h := Dm.undis_num 0 (by decide) [] (by intro c t e; cases e)
  have e : Lib.decDigits 0 = [48] := by rw [Lib.decDigits, dif_pos (by omega)]; rfl
  rw [e] at h
  exact h.trans (Dm.named_plain [] [] rfl)
theorem ident_own (n : Nat) (hn : n ≤ 4611686018427387904) (t r : List UInt8) (hp : t.all Dm.isPlain = true) (hl : t.length ≤ 10000) : Dm.ident (Dm.disW n ++ (Dm.written t ++ r)) = some ((n : Int), t, r) := by
  by_cases h0 : t = []
  · subst h0
    unfold Dm.written Dm.ident
    rw [if_pos rfl]
    rw [show ([48, 95] ++ r : List UInt8) = 48 :: 95 :: r from rfl, Dm.disamb_read n hn 48 (95 :: r) (by decide)]
    simp only [undis_zero]
  · exact Dm.ident_written n hn t r h0 hp (by omega)
theorem ident_zero (n : Nat) (hn : n ≤ 4611686018427387904) : Dm.ident (Dm.disW n ++ [48]) = some ((n : Int), [], []) := by
  unfold Dm.ident
  rw [Dm.disamb_read n hn 48 [] (by decide)]
  simp only [undis_zero']

theorem textR_mono (crate : List UInt8) (p : Prt) (ps : List Prt) : (textR crate ps).length ≤ (textR crate (p :: ps)).length := by
  show _ ≤ (textR crate ps ++ _).length
  rw [List.length_append]; omega

/-- A crate is read. -/
theorem crate_read (k : Nat) (s : RS) (id q : List UInt8) (r : List UInt8) (d : Int) (mx : Int) (T : List UInt8) (hs : s.str = 67 :: r) (hi : Dm.ident r = some (d, id, q)) (hT : Shown mx T s) (hl : T.length + id.length ≤ 140737488355000) :
    ∃ s', pathM (k + 1) s = .ok s' ∧ s'.str = q ∧ Shown mx (T ++ id) s' := by
  refine ⟨(s.adv q).putStr id, ?_, ?_, (hT.adv q).putStr id⟩
  · simp only [pathM, hs]
    rw [if_pos trivial, hi]
    simp only
    rw [if_pos (by unfold RS.room; have := hT.len; omega)]
  · rw [putStr_str]; rfl
/-- A name within a path is read. -/
theorem nested_read (k : Nat) (s : RS) (n : UInt8) (r2 : List UInt8) (id q : List UInt8) (d : Int) (mx : Int) (T : List UInt8) (hs : s.str = 78 :: n :: r2) (hn : isLow n = true ∨ isUp n = true) (s1 : RS) (h1 : pathM k (s.adv r2) = .ok s1) (hi : Dm.ident s1.str = some (d, id, q)) (hT : Shown mx T s1) (hl : T.length + id.length + 100 ≤ 140737488355000) :
    ∃ s', pathM (k + 1) s = .ok s' ∧ s'.str = q ∧ Shown mx (T ++ partT n d id) s' := by
  refine ⟨(s1.adv q).part n d id, ?_, ?_, (hT.adv q).part n d id⟩
  · rw [pathM_nested hs hn, h1]
    simp only [behind, hi]
    rw [if_pos (by unfold RS.room; have := hT.len; omega)]
  · rw [part_str]; rfl

theorem path_read (crate : List UInt8) (cd : Nat) (hc : crate.all Dm.isPlain = true) (hcl : crate.length ≤ 10000) (hcd : cd ≤ 4611686018427387904) (mx : Int) (T : List UInt8) :
    ∀ (ps : List Prt) (k : Nat) (s : RS) (r : List UInt8), ps.length < k → (∀ p ∈ ps, p.Good) → s.str = symR (baseW cd crate) ps ++ r → Shown mx T s → T.length + (textR crate ps).length + 20000 ≤ 140737488355000 →
      ∃ s', pathM k s = .ok s' ∧ s'.str = r ∧ Shown mx (T ++ textR crate ps) s' := by
  intro ps
  induction ps with
  | nil =>
    intro k s r hk hg hs hT hl
    obtain ⟨k, rfl⟩ : ∃ m, k = m + 1 := ⟨k - 1, by simp at hk; omega⟩
    exact crate_read k s crate r (Dm.disW cd ++ (Dm.written crate ++ r)) cd mx T (by rw [hs]; simp [symR, baseW]) (ident_own cd hcd crate r hc hcl) hT (by omega)
  | cons p ps ih =>
    intro k s r hk hg hs hT hl
    obtain ⟨k, rfl⟩ : ∃ m, k = m + 1 := ⟨k - 1, by simp at hk; omega⟩
    have hp := hg p (by simp)
    have hm := textR_mono crate p ps
    obtain ⟨s1, h1, h2, h3⟩ := ih k (s.adv (symR (baseW cd crate) ps ++ (ownW p ++ r))) (ownW p ++ r) (by simp at hk; omega) (fun x hx => hg x (by simp [hx])) rfl (hT.adv _) (by omega)
    have := nested_read k s p.sp (symR (baseW cd crate) ps ++ (ownW p ++ r)) p.nm r (p.ds : Int) mx (T ++ textR crate ps) (by rw [hs]; simp [symR]) hp.sp s1 h1 (by rw [h2, ownW, List.append_assoc]; exact ident_own p.ds hp.ds p.nm r hp.pl hp.ln) h3 (by rw [List.length_append]; have := hp.ln; omega)
    rw [List.append_assoc] at this
    exact this

/-- The last one of no name: no underscore. -/
def symL (base : List UInt8) : List Prt → List UInt8
  | [] => base
  | p :: ps => if p.nm = [] then 78 :: p.sp :: (symR base ps ++ (Dm.disW p.ds ++ [48])) else 78 :: p.sp :: (symR base ps ++ ownW p)
theorem path_readL (crate : List UInt8) (cd : Nat) (hc : crate.all Dm.isPlain = true) (hcl : crate.length ≤ 10000) (hcd : cd ≤ 4611686018427387904) (mx : Int) (T : List UInt8)
    (ps : List Prt) (k : Nat) (s : RS) (hk : ps.length < k) (hg : ∀ p ∈ ps, p.Good) (hs : s.str = symL (baseW cd crate) ps) (hT : Shown mx T s) (hl : T.length + (textR crate ps).length + 20000 ≤ 140737488355000) :
      ∃ s', pathM k s = .ok s' ∧ s'.str = [] ∧ Shown mx (T ++ textR crate ps) s' := by
  cases ps with
  | nil => exact path_read crate cd hc hcl hcd mx T [] k s [] hk hg (by rw [hs]; simp [symL, symR]) hT hl
  | cons p ps =>
    by_cases h0 : p.nm = []
    · obtain ⟨k, rfl⟩ : ∃ m, k = m + 1 := ⟨k - 1, by simp at hk; omega⟩
      have hp := hg p (by simp)
      have hm := textR_mono crate p ps
      obtain ⟨s1, h1, h2, h3⟩ := path_read crate cd hc hcl hcd mx T ps k (s.adv (symR (baseW cd crate) ps ++ (Dm.disW p.ds ++ [48]))) (Dm.disW p.ds ++ [48]) (by simp at hk; omega) (fun x hx => hg x (by simp [hx])) rfl (hT.adv _) (by omega)
      have := nested_read k s p.sp (symR (baseW cd crate) ps ++ (Dm.disW p.ds ++ [48])) [] [] (p.ds : Int) mx (T ++ textR crate ps) (by rw [hs]; simp [symL, if_pos h0]) hp.sp s1 h1 (by rw [h2]; exact ident_zero p.ds hp.ds) h3 (by rw [List.length_append]; simp; omega)
      rw [List.append_assoc] at this
      rw [show textR crate (p :: ps) = textR crate ps ++ partT p.sp (p.ds : Int) [] by simp only [textR, h0]]
      exact this
    · exact path_read crate cd hc hcl hcd mx T (p :: ps) k s [] hk hg (by rw [hs, List.append_nil]; simp only [symL, if_neg h0, symR]) hT hl
theorem symR_head (cd : Nat) (crate : List UInt8) (ps : List Prt) : ∃ c t, symR (baseW cd crate) ps = c :: t ∧ Dm.isDig c = false := by
  cases ps with
  | nil => exact ⟨67, _, rfl, by decide⟩
  | cons p ps => exact ⟨78, _, rfl, by decide⟩
theorem symL_head (cd : Nat) (crate : List UInt8) (ps : List Prt) : ∃ c t, symL (baseW cd crate) ps = c :: t ∧ Dm.isDig c = false := by
  cases ps with
  | nil => exact ⟨67, _, rfl, by decide⟩
  | cons p ps =>
    simp only [symL]
    split
    · exact ⟨78, _, rfl, by decide⟩
    · exact ⟨78, _, rfl, by decide⟩
theorem symM_of {k : Nat} {s s1 : RS} {c : UInt8} {t : List UInt8} (hs : s.str = c :: t) (hd : Dm.isDig c = false) (h : pathM k s = .ok s1) (h0 : s1.str = []) : symM k s = .ok s1 := by
  simp only [symM, hs]
  rw [if_neg (by rw [hd]; decide), h]
  simp only [againM, if_pos h0]
theorem symM_bad {k : Nat} {s : RS} {c : UInt8} {t : List UInt8} (hs : s.str = c :: t) (h : pathM k s = .bad) : symM k s = .bad := by
  simp only [symM, hs]
  split
  · rfl
  · rw [h]; rfl
theorem symM_again {k : Nat} {s s1 : RS} {c c1 : UInt8} {t t1 : List UInt8} (hs : s.str = c :: t) (hd : Dm.isDig c = false) (h : pathM (k + 1) s = .ok s1) (h0 : s1.str = c1 :: t1)
    (hc : c1 ≠ 67 ∧ c1 ≠ 78) (h2 : c1 ≠ 77 ∧ c1 ≠ 88 ∧ c1 ≠ 89 ∧ c1 ≠ 73 ∧ c1 ≠ 66) : symM (k + 1) s = .bad := by
  simp only [symM, hs]
  rw [if_neg (by rw [hd]; decide), h]
  simp only [againM]
  rw [if_neg (by rw [h0]; simp)]
  exact pathM_other (s := { s1 with skip := true }) h0 hc h2
end Go.Proofs.YtkhbmkccbhkolaaGreatDoor
namespace Go.Proofs.YtkhbmkccbhkolaaGreatDoor
set_option linter.unusedVariables false
set_option linter.unusedSimpArgs false
open Go.RowKit

def isR : List UInt8 → Bool
  | a :: b :: _ => decide (a = 95 ∧ b = 82)
  | _ => false
theorem bs_eq2 (a b : UInt8) : ((bs [a, b]) = (⟨#[95, 82]⟩ : ByteArray)) ↔ (a = 95 ∧ b = 82) := by
  constructor
  · intro h
    have := congrArg (fun x : ByteArray => x.data.toList) h
    simpa [bs] using this
  · rintro ⟨rfl, rfl⟩; rfl

theorem prefix_in (l : List UInt8) (w : World) :
    Calls Tryz.prog 53 #[.string (bs l), .string ⟨#[95, 82]⟩] w fun e w' => e = .returned (.bool (isR l)) ∧ w = w' := by
  match l with
  | [] =>
    have hz := bs_size []
    go_enter Tryz.func53, Tryz.ntmps53
    go_wp2
    go_ret
    exact ⟨rfl, rfl⟩
  | [a] =>
    have hz := bs_size [a]
    go_enter Tryz.func53, Tryz.ntmps53
    go_wp2
    go_ret
    exact ⟨rfl, rfl⟩
  | a :: b :: t =>
    have hz := bs_size (a :: b :: t)
    have hx : (bs (a :: b :: t)).extract 0 2 = bs [a, b] := by rw [bs_take]; rfl
    have h2 : 2 ≤ (((a :: b :: t).length : Nat) : Int) := by simp; omega
    have h3 : 2 ≤ (a :: b :: t).length := by simp
    go_enter Tryz.func53, Tryz.ntmps53
    go_wp2
    go_ret
    refine ⟨?_, rfl⟩
    have ht : (bs [a, b]).toList = [a, b] := by simp [bs]
    show Ending.returned (.bool ((bs [a, b]).toList == [95, 82])) = _
    rw [ht]
    congr 2
    rw [Bool.eq_iff_iff]; simp [isR]
theorem prefix_calls (l : List UInt8) (w : World) :
    Calls Tryz.prog 31 #[.string (bs l), .string ⟨#[95, 82]⟩] w fun e w' => e = .returned (.bool (isR l)) ∧ w = w' := by
  have HP := prefix_in l w
  go_enter Tryz.func31, Tryz.ntmps31
  go_wp2_with (go_at_call 53; refine HP.mono ?_; rintro e w1 ⟨rfl, rfl⟩)
  go_ret
  exact ⟨rfl, rfl⟩

def noDot (l : List UInt8) : List UInt8 := l.takeWhile (fun c => c != 46)
def dotOn (l : List UInt8) : List UInt8 := l.dropWhile (fun c => c != 46)
/-- The place of the first dot, or -1. -/
def dotAt (l : List UInt8) : Int := if dotOn l = [] then -1 else ((noDot l).length : Int)
theorem dotAt_at {l : List UInt8} {i : Nat} (hi : i < l.length) (h : ∀ c ∈ l.take i, c ≠ 46) (hc : l[i] = 46) : dotAt l = (i : Int) := by
  have e : l = l.take i ++ 46 :: l.drop (i + 1) := by rw [← hc, List.getElem_cons_drop, List.take_append_drop]
  unfold dotAt
  have hd : dotOn l = 46 :: l.drop (i + 1) := by
    unfold dotOn
    conv => lhs; rw [e]
    rw [List.dropWhile_append_of_pos (by intro c hc; simpa using h c hc)]; simp
  have hn : noDot l = l.take i := by
    unfold noDot
    conv => lhs; rw [e]
    rw [List.takeWhile_append_of_pos (by intro c hc; simpa using h c hc)]; simp
  rw [hd, if_neg (by simp), hn, List.length_take]; omega
theorem dotAt_none {l : List UInt8} (h : ∀ c ∈ l, c ≠ 46) : dotAt l = -1 := by
  unfold dotAt dotOn
  rw [if_pos]
  have := List.dropWhile_append_of_pos (p := fun c : UInt8 => c != 46) (l₁ := l) (l₂ := []) (by intro c hc; simpa using h c hc)
  rw [List.append_nil] at this; rw [this]; rfl
theorem bs_nth (l : List UInt8) (i : Nat) (hi : i < l.length) : (bs l).extract i (i + 1) = bs [l[i]] := by
  apply ByteArray.ext
  simp only [bs, ByteArray.data_extract]
  apply Array.ext'
  simp only [Array.toList_extract, List.extract_eq_take_drop]
  rw [Nat.add_sub_cancel_left, List.drop_eq_getElem_cons hi]; rfl
set_option maxHeartbeats 1000000 in
theorem zzIndex_calls (l : List UInt8) (w : World) (hl : l.length ≤ 4611686018427387904) :
    Calls Tryz.prog 33 #[.string (bs l), .string ⟨#[46]⟩] w fun e w' => e = .returned (.int .i64 (dotAt l)) ∧ w = w' := by
  have hz := bs_size l
  go_enter Tryz.func33, Tryz.ntmps33
  go_wp2_with fail
  go_loop [5] (fun v => ∃ i : Nat, v = .int .i64 i ∧ i ≤ l.length ∧ Hid (∀ c ∈ l.take i, c ≠ 46)) (fun v => l.length - (intOf v).toNat)
  case atStart => exact ⟨0, rfl, Nat.zero_le _, Lib.hid (by simp)⟩
  case round =>
    obtain ⟨i, rfl, hi, HP⟩ := hrel
    by_cases hlt : i < l.length
    · have hx := bs_nth l i hlt
      have hw : IntKind.i64.wrap ((i : Int) + 1) = (i : Int) + 1 := IntWalk.i64_in _ (by omega)
      have h1 : (i : Int) + 1 ≤ (l.length : Int) := by omega
      by_cases hc : l[i] = 46
      · have HD := Lib.hid (dotAt_at hlt HP.out hc)
        rw [hc] at hx
        have ht : (bs [46]).toList = [46] := by simp [bs]
        clear hc
        go_wp2_with fail
        go_ret
        exact ⟨by rw [HD.out]; rfl, rfl⟩
      · have HQ : Hid (∀ c ∈ l.take (i + 1), c ≠ 46) := Lib.hid (by
          rw [List.take_succ_eq_append_getElem hlt]
          intro c hc2
          rcases List.mem_append.1 hc2 with h | h
          · exact HP.out c h
          · rw [List.mem_singleton] at h; rw [h]; exact hc)
        have ht : ((bs [l[i]]).toList == [46]) = false := by simp [bs, hc]
        clear hc
        go_wp2_with fail
        go_round
        case rel => exact ⟨i + 1, by simp, by omega, HQ⟩
        case measure => simp [intOf]; omega
    · have hie : i = l.length := by omega
      have HA : Hid (dotAt l = -1) := Lib.hid (dotAt_none (by have := HP.out; rw [hie, List.take_of_length_le (Nat.le_refl _)] at this; exact this))
      have hw : IntKind.i64.wrap ((i : Int) + 1) = (i : Int) + 1 := IntWalk.i64_in _ (by omega)
      have hnl : ¬ (i : Int) + 1 ≤ (l.length : Int) := by omega
      clear hie
      go_wp2_with fail
      go_ret
      exact ⟨by rw [HA.out]; rfl, rfl⟩

/-! ### options -/
def isMx (o : Int) : Bool := bits .and .i64 o 2031616 != 0
def mxLen (o : Int) : Int := wrap64 (2 ^ (bits .and .i64 o 2031616 / 65536).toNat)
theorem isMax_calls (o : Int) (w : World) : Calls Tryz.prog 34 #[.int .i64 o] w fun e w' => e = .returned (.bool (isMx o)) ∧ w = w' := by
  go_enter Tryz.func34, Tryz.ntmps34
  go_wp2
  go_ret
  exact ⟨rfl, rfl⟩
theorem maxLength_calls (o : Int) (h0 : 0 ≤ bits .and .i64 o 2031616 / 65536) (h1 : bits .and .i64 o 2031616 / 65536 ≤ 64) (w : World) : Calls Tryz.prog 35 #[.int .i64 o] w fun e w' => e = .returned (.int .i64 (mxLen o)) ∧ w = w' := by
  go_enter Tryz.func35, Tryz.ntmps35
  go_wp2
  go_ret
  exact ⟨rfl, rfl⟩
/-- The limit of a power. -/
def mxOf (p : Int) : Int := if p = 0 then 0 else 2 ^ p.toNat
theorem mx_fin : ∀ k : Fin 30, isMx (((k.val + 1 : Nat) : Int) * 65536) = true ∧ bits .and .i64 (((k.val + 1 : Nat) : Int) * 65536) 2031616 = ((k.val + 1 : Nat) : Int) * 65536 ∧ mxLen (((k.val + 1 : Nat) : Int) * 65536) = 2 ^ (k.val + 1) := by decide +kernel
theorem small_fin : ∀ k : Fin 7, isMx ((k.val : Nat) : Int) = false := by decide +kernel
theorem mx_facts {p : Int} (h1 : 1 ≤ p) (h2 : p ≤ 30) : isMx (p * 65536) = true ∧ bits .and .i64 (p * 65536) 2031616 = p * 65536 ∧ mxLen (p * 65536) = mxOf p := by
  obtain ⟨k, rfl⟩ : ∃ k : Nat, p = ((k + 1 : Nat) : Int) := ⟨(p - 1).toNat, by omega⟩
  have := mx_fin ⟨k, by omega⟩
  simp only at this
  refine ⟨this.1, this.2.1, this.2.2.trans ?_⟩
  unfold mxOf
  rw [if_neg (by omega), Int.toNat_natCast]
end Go.Proofs.YtkhbmkccbhkolaaGreatDoor
namespace Go.Proofs.YtkhbmkccbhkolaaGreatDoor
set_option linter.unusedVariables false
set_option linter.unusedSimpArgs false
open Go.RowKit

/-- The state in which a reading begins. -/
def RS.begin (l : List UInt8) (ng : Bool) (mx : Int) : RS := { orig := l, str := l, off := 0, out := [], skip := false, lt := 0, last := 0, ng := ng, mx := mx }
def suffixed (lv : Bool) (suf : List UInt8) (s : RS) : RS := if lv = true ∧ suf ≠ [] then (({ s with skip := false }.putStr [32, 40]).putStr suf).putByte 41 else s
def cutMx (mx : Int) (t : List UInt8) : List UInt8 := if 0 < mx ∧ mx < (t.length : Int) then t.take mx.toNat else t
/-- What comes behind symbolName. -/
def endM (lv : Bool) (suf : List UInt8) : PR → PR
  | .ok s => if s.str ≠ [] then .bad else if s.room (suf.length + 10) then .ok (suffixed lv suf s) else .unsaid
  | x => x
/-- rustToString behind _R. -/
def toldM (l : List UInt8) (ng lv : Bool) (mx : Int) : PR := endM lv (dotOn l) (symM ((noDot l).length + 1) (RS.begin (noDot l) ng mx))

theorem noDot_app {l r : List UInt8} (h : ∀ c ∈ l, c ≠ 46) (hr : r = [] ∨ ∃ t, r = 46 :: t) : noDot (l ++ r) = l := by
  unfold noDot
  rw [List.takeWhile_append_of_pos (by intro c hc; simpa using h c hc)]
  rcases hr with rfl | ⟨t, rfl⟩
  · simp
  · simp
theorem dotOn_app {l r : List UInt8} (h : ∀ c ∈ l, c ≠ 46) (hr : r = [] ∨ ∃ t, r = 46 :: t) : dotOn (l ++ r) = r := by
  unfold dotOn
  rw [List.dropWhile_append_of_pos (by intro c hc; simpa using h c hc)]
  rcases hr with rfl | ⟨t, rfl⟩
  · simp
  · simp

/-! ### all that is written is plain -/
def Pl (l : List UInt8) : Prop := ∀ c ∈ l, Dm.isPlain c = true
theorem Pl.app {l r : List UInt8} (h : Pl l) (k : Pl r) : Pl (l ++ r) := by
  intro c hc
  rcases List.mem_append.1 hc with hc | hc
  · exact h c hc
  · exact k c hc
theorem Pl.cons {c : UInt8} {r : List UInt8} (h : Dm.isPlain c = true) (k : Pl r) : Pl (c :: r) := by
  intro x hx
  rcases List.mem_cons.1 hx with rfl | hx
  · exact h
  · exact k x hx
theorem Pl.nil : Pl [] := by intro c hc; cases hc
theorem Pl.dots {l : List UInt8} (h : Pl l) : ∀ c ∈ l, c ≠ 46 := by
  intro c hc e; have := h c hc; rw [e] at this; revert this; decide
theorem d62_plain : ∀ k : Fin 62, Dm.isPlain (Dm.D62.getD k.val 0) = true := by decide
theorem pl_digs62 (m : Nat) : Pl (Dm.digs62 m) := by
  induction m using Nat.strongRecOn with
  | _ m ih =>
    rw [Dm.digs62]
    split
    · exact Pl.cons (d62_plain ⟨m, by assumption⟩) Pl.nil
    · exact (ih _ (by omega)).app (Pl.cons (d62_plain ⟨m % 62, by omega⟩) Pl.nil)
theorem pl_b62 (n : Nat) : Pl (Dm.b62W n) := by
  unfold Dm.b62W
  split
  · exact Pl.cons (by decide) Pl.nil
  · exact (pl_digs62 _).app (Pl.cons (by decide) Pl.nil)
theorem pl_dis (n : Nat) : Pl (Dm.disW n) := by
  unfold Dm.disW
  split
  · exact Pl.nil
  · exact Pl.cons (by decide) (pl_b62 _)
theorem plain_dig {c : UInt8} (h : Dm.isDig c = true) : Dm.isPlain c = true := by
  simp only [Dm.isDig, Bool.and_eq_true, decide_eq_true_eq] at h
  unfold Dm.isPlain
  rw [decide_eq_true h.1, decide_eq_true h.2]; rfl
theorem pl_digits (u : Nat) : Pl (Lib.decDigits u) := fun c hc => plain_dig (Dm.digits_dig u c hc)
theorem pl_sep (t : List UInt8) : Pl (Dm.sep t) := by
  cases t with
  | nil => exact Pl.nil
  | cons c t =>
    simp only [Dm.sep]
    split
    · exact Pl.cons (by decide) Pl.nil
    · exact Pl.nil
theorem pl_all {t : List UInt8} (h : t.all Dm.isPlain = true) : Pl t := List.all_eq_true.1 h
theorem pl_written (t : List UInt8) (h : t.all Dm.isPlain = true) : Pl (Dm.written t) := by
  unfold Dm.written
  split
  · exact Pl.cons (by decide) (Pl.cons (by decide) Pl.nil)
  · exact ((pl_digits _).app (pl_sep t)).app (pl_all h)
theorem pl_base (cd : Nat) (crate : List UInt8) (h : crate.all Dm.isPlain = true) : Pl (baseW cd crate) := Pl.cons (by decide) ((pl_dis cd).app (pl_written crate h))
theorem plain_letter {n : UInt8} (h : isLow n = true ∨ isUp n = true) : Dm.isPlain n = true := by
  unfold Dm.isPlain
  rcases h with h | h
  · obtain ⟨h1, h2⟩ := low_nums h
    rw [decide_eq_true h1, decide_eq_true h2]; simp
  · obtain ⟨h1, h2⟩ := up_nums h
    rw [decide_eq_true h1, decide_eq_true h2]; simp
theorem pl_symR (base : List UInt8) (hb : Pl base) : ∀ ps : List Prt, (∀ p ∈ ps, p.Good) → Pl (symR base ps) := by
  intro ps
  induction ps with
  | nil => intro _; exact hb
  | cons p ps ih =>
    intro hg
    have hp := hg p (by simp)
    exact Pl.cons (by decide) (Pl.cons (plain_letter hp.sp) ((ih fun x hx => hg x (by simp [hx])).app ((pl_dis _).app (pl_written _ hp.pl))))
theorem pl_symL (base : List UInt8) (hb : Pl base) (ps : List Prt) (hg : ∀ p ∈ ps, p.Good) : Pl (symL base ps) := by
  cases ps with
  | nil => exact hb
  | cons p ps =>
    have hp := hg p (by simp)
    have hR := pl_symR base hb ps (fun x hx => hg x (by simp [hx]))
    simp only [symL]
    split
    · exact Pl.cons (by decide) (Pl.cons (plain_letter hp.sp) (hR.app ((pl_dis _).app (Pl.cons (by decide) Pl.nil))))
    · exact Pl.cons (by decide) (Pl.cons (plain_letter hp.sp) (hR.app ((pl_dis _).app (pl_written _ hp.pl))))

theorem symR_len (base : List UInt8) : ∀ ps : List Prt, ps.length ≤ (symR base ps).length := by
  intro ps
  induction ps with
  | nil => simp
  | cons p ps ih => simp only [symR, List.length_cons, List.length_append]; omega
theorem symL_len (base : List UInt8) (ps : List Prt) : ps.length ≤ (symL base ps).length := by
  cases ps with
  | nil => simp
  | cons p ps =>
    have := symR_len base ps
    simp only [symL]
    split <;> simp only [List.length_cons, List.length_append] <;> omega

theorem shown_begin (l : List UInt8) (ng : Bool) (mx : Int) : Shown mx [] (RS.begin l ng mx) := ⟨rfl, .inl ⟨rfl, rfl⟩⟩
theorem Shown.cut {mx : Int} {T : List UInt8} {s : RS} (h : Shown mx T s) : cutMx mx s.out = cutMx mx T := by
  rcases h.2 with ⟨_, h⟩ | ⟨_, h0, h1, t, h2⟩
  · rw [h]
  · unfold cutMx
    rw [if_pos ⟨h0, h1⟩, if_pos ⟨h0, by rw [← h2, List.length_append]; omega⟩, ← h2, List.take_append_of_le_length (by omega)]

theorem Shown.cuts {mx : Int} {T : List UInt8} {s : RS} (h : Shown mx T s) : cutMx s.mx s.out = cutMx mx T := by rw [show s.mx = mx from h.1]; exact h.cut
/-- What a written path is told as. -/
theorem told_read (crate : List UInt8) (cd : Nat) (hc : crate.all Dm.isPlain = true) (hcl : crate.length ≤ 10000) (hcd : cd ≤ 4611686018427387904) (ng lv : Bool) (mx : Int) (ps : List Prt) (suf : List UInt8)
    (hg : ∀ p ∈ ps, p.Good) (hl : (textR crate ps).length + suf.length + 20000 ≤ 140737488355000) (hsuf : suf = [] ∨ ∃ t, suf = 46 :: t) (hlv : lv = false ∨ suf = []) :
    ∃ s, toldM (symL (baseW cd crate) ps ++ suf) ng lv mx = .ok s ∧ cutMx s.mx s.out = cutMx mx (textR crate ps) := by
  have hp := (pl_symL _ (pl_base cd crate hc) ps hg).dots
  unfold toldM
  rw [noDot_app hp hsuf, dotOn_app hp hsuf]
  obtain ⟨c, t, hs, hd⟩ := symL_head cd crate ps
  obtain ⟨s1, h1, h2, h3⟩ := path_readL crate cd hc hcl hcd mx [] ps ((symL (baseW cd crate) ps).length + 1) (RS.begin (symL (baseW cd crate) ps) ng mx) (by have := symL_len (baseW cd crate) ps; omega) hg rfl (shown_begin _ _ _) (by simp; omega)
  rw [symM_of (s := RS.begin (symL (baseW cd crate) ps) ng mx) hs hd h1 h2]
  simp only [endM]
  rw [if_neg (by simp [h2]), if_pos (by unfold RS.room; have := h3.len; rw [List.nil_append] at this; omega)]
  refine ⟨_, rfl, ?_⟩
  unfold suffixed
  rw [if_neg (by rintro ⟨e1, e2⟩; rcases hlv with h | h; rw [h] at e1; cases e1; exact e2 h)]
  have := h3.cuts
  rw [List.nil_append] at this
  exact this
/-- With what stands behind a dot, in the style of LLVM. -/
theorem told_llvm (crate : List UInt8) (cd : Nat) (hc : crate.all Dm.isPlain = true) (hcl : crate.length ≤ 10000) (hcd : cd ≤ 4611686018427387904) (ng : Bool) (ps : List Prt) (suf : List UInt8)
    (hg : ∀ p ∈ ps, p.Good) (hl : (textR crate ps).length + (46 :: suf).length + 20000 ≤ 140737488355000) :
    ∃ s, toldM (symL (baseW cd crate) ps ++ (46 :: suf)) ng true 0 = .ok s ∧ cutMx s.mx s.out = textR crate ps ++ ([32, 40] ++ ((46 :: suf) ++ [41])) := by
  have hp := (pl_symL _ (pl_base cd crate hc) ps hg).dots
  unfold toldM
  rw [noDot_app hp (.inr ⟨suf, rfl⟩), dotOn_app hp (.inr ⟨suf, rfl⟩)]
  obtain ⟨c, t, hs, hd⟩ := symL_head cd crate ps
  obtain ⟨s1, h1, h2, h3⟩ := path_readL crate cd hc hcl hcd 0 [] ps ((symL (baseW cd crate) ps).length + 1) (RS.begin (symL (baseW cd crate) ps) ng 0) (by have := symL_len (baseW cd crate) ps; omega) hg rfl (shown_begin _ _ _) (by simp; omega)
  rw [symM_of (s := RS.begin (symL (baseW cd crate) ps) ng 0) hs hd h1 h2]
  simp only [endM]
  rw [if_neg (by simp [h2]), if_pos (by unfold RS.room; have := h3.len; rw [List.nil_append] at this; omega)]
  refine ⟨_, rfl, ?_⟩
  unfold suffixed
  rw [if_pos ⟨rfl, by simp⟩]
  rw [List.nil_append] at h3
  have h4 : Shown 0 (textR crate ps) { s1 with skip := false } := by
    rcases h3.2 with ⟨h, ho⟩ | ⟨_, h, _⟩
    · exact ⟨h3.1, .inl ⟨rfl, ho⟩⟩
    · exact absurd h (by omega)
  have h5 := (((h4.putStr [32, 40]).putStr (46 :: suf)).putByte 41).cuts
  rw [h5]
  unfold cutMx
  rw [if_neg (by omega)]
  simp
end Go.Proofs.YtkhbmkccbhkolaaGreatDoor
