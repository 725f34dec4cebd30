/- Constants of the reader, in plain Lean. Old-style names, in plain Lean. Old-style names that are written are read, in plain Lean. The hash of an old-style name, in plain Lean. Escapes of old-style names, in plain Lean. How many bits are set, of 16: by two halves of 8; the texts of a path. -/
import Derived.Test.YtpmlnhddkbgefaaDoorM1
import Derived.Lib.ItoaNum
import Derived.Laws.Bits64
import Derived.Test.YtpmlnhddkbgefaaDoorM2
namespace Go.Proofs.YtpmlnhddkbgefaaDoor.Dm
set_option linter.unusedVariables false
set_option linter.unusedSimpArgs false
open Go.RowKit

/-- What kind of constant a letter begins: 1 an integer with a sign, 2 one without, 3 a bool, 4 a character, 0 none. -/
def ckind (c : UInt8) : Nat :=
  if c = 97 ∨ c = 115 ∨ c = 108 ∨ c = 120 ∨ c = 110 ∨ c = 105 then 1
  else if c = 104 ∨ c = 116 ∨ c = 109 ∨ c = 121 ∨ c = 111 ∨ c = 106 then 2
  else if c = 98 then 3 else if c = 99 then 4 else 0

/-- A digit in base 16. -/
def hexd (c : UInt8) : Option Int :=
  if 48 ≤ (c.toNat : Int) ∧ (c.toNat : Int) ≤ 57 then some ((c.toNat : Int) - 48)
  else if 97 ≤ (c.toNat : Int) ∧ (c.toNat : Int) ≤ 102 then some ((c.toNat : Int) - 97 + 10)
  else none

/-- The loop over the digits: the value, how many, and what follows. -/
def hexl : Int → Nat → List UInt8 → Option (Int × Nat × List UInt8)
  | v, k, [] => some (v, k, [])
  | v, k, c :: r => match hexd c with
    | some d => if v = 0 ∧ d = 0 ∧ r.head? ≠ some 95 then none else hexl (IntKind.u64.wrap (IntKind.u64.wrap (v * 16) + d)) (k + 1) r
    | none => if c = 95 then some (v, k, r) else none

/-- A sign: whether there is one, and what follows. -/
def sgn (kind : Nat) : List UInt8 → Bool × List UInt8
  | [] => (false, [])
  | c :: r => if kind = 1 ∧ c = 110 then (true, r) else (false, c :: r)

/-- What is told of a constant: its text and what follows, that it is none, or nothing is said here. -/
inductive CR
  | told (t r : List UInt8)
  | bad
  | unsaid

/-- The text of a value. -/
def ctext (kind : Nat) (start : List UInt8) (v : Int) (k : Nat) : CR :=
  if kind = 1 ∨ kind = 2 then (if 16 < k then .told ([48, 120] ++ start.take k) [] else .told (Lib.decDigits v.toNat) [])
  else if kind = 3 then (if 1 < k then .bad else if v = 0 then .told [102, 97, 108, 115, 101] [] else if v = 1 then .told [116, 114, 117, 101] [] else .bad)
  else if 6 < k then .bad else if 32 ≤ v ∧ v ≤ 126 ∧ v ≠ 39 ∧ v ≠ 92 then .told [39, UInt8.ofNat v.toNat, 39] [] else .unsaid

def digits (kind : Nat) (l : List UInt8) : CR :=
  match hexl 0 0 l with
  | none => .bad
  | some (v, k, q) => if k = 0 then .bad else match ctext kind l v k with
    | .told t _ => .told t q
    | .bad => .bad
    | .unsaid => .unsaid

def const : List UInt8 → CR
  | [] => .bad
  | c :: r => if c = 66 then .bad else if c = 112 then .told [95] r else if ckind c = 0 then .bad else
    match digits (ckind c) (sgn (ckind c) r).2 with
    | .told t q => .told ((if (sgn (ckind c) r).1 then [45] else []) ++ t) q
    | .bad => .bad
    | .unsaid => .unsaid

theorem dec_len20 (u : Nat) (h : u < 18446744073709551616) : (Lib.decDigits u).length ≤ 20 := by
  have step : ∀ k u, u < 10 ^ (k + 1) → (Lib.decDigits u).length ≤ k + 1 := by
    intro k
    induction k with
    | zero => intro u hu; rw [Lib.decDigits, dif_pos (by simpa using hu)]; simp
    | succ k ih =>
      intro u hu
      rw [Lib.decDigits]
      split
      · simp
      · rw [List.length_append, List.length_singleton]
        have := ih (u / 10) (by rw [Nat.div_lt_iff_lt_mul (by omega)]; rw [Nat.pow_succ] at hu; exact hu)
        omega
  exact step 19 u (Nat.lt_of_lt_of_le h (by decide))
theorem hexd_le {c : UInt8} {d : Int} (h : hexd c = some d) : 0 ≤ d ∧ d ≤ 15 := by
  unfold hexd at h
  have hc := UInt8.toNat_lt c
  split at h
  · injection h; omega
  · split at h
    · injection h; omega
    · cases h
theorem hexl_len (l : List UInt8) : ∀ (v : Int) (k : Nat) {v' : Int} {k' : Nat} {r : List UInt8}, 0 ≤ v → v < 18446744073709551616 → hexl v k l = some (v', k', r) → k' + r.length ≤ k + l.length ∧ 0 ≤ v' ∧ v' < 18446744073709551616 := by
  induction l with
  | nil => intro v k v' k' r h0 h1 h; unfold hexl at h; injection h with h; injection h with h2 h3; injection h3 with h3 h4; subst h2 h3 h4; exact ⟨Nat.le_refl _, h0, h1⟩
  | cons c l ih =>
    intro v k v' k' r h0 h1 h
    unfold hexl at h
    split at h
    · split at h
      · cases h
      · have := ih _ _ (by rw [IntKind.wrap_u64]; omega) (by rw [IntKind.wrap_u64]; omega) h
        rw [List.length_cons]; exact ⟨by omega, this.2⟩
    · split at h
      · injection h with h; injection h with h2 h3; injection h3 with h3 h4; subst h2 h3 h4
        rw [List.length_cons]; exact ⟨by omega, h0, h1⟩
      · cases h
end Go.Proofs.YtpmlnhddkbgefaaDoor.Dm
namespace Go.Proofs.YtpmlnhddkbgefaaDoor.Dm
set_option linter.unusedVariables false
set_option linter.unusedSimpArgs false
open Go.RowKit

/-- What follows an underscore, if there is one. -/
def usl : List UInt8 → List UInt8
  | [] => []
  | c :: r => if c = 95 then r else c :: r
/-- The codes of two letters. -/
def code2 (a b : UInt8) : Option UInt8 :=
  if a = 83 ∧ b = 80 then some 64 else if a = 66 ∧ b = 80 then some 42 else if a = 82 ∧ b = 70 then some 38 else if a = 76 ∧ b = 84 then some 60
  else if a = 71 ∧ b = 84 then some 62 else if a = 76 ∧ b = 80 then some 40 else if a = 82 ∧ b = 80 then some 41 else none
/-- Two digits in base 16 behind u: their byte, if it is one from 32 to 127. -/
def hex2 (a b : UInt8) : Option UInt8 :=
  match hexd a, hexd b with
  | some x, some y => if 7 < x ∨ x * 16 + y < 32 then none else some (UInt8.ofNat (x * 16 + y).toNat)
  | _, _ => none
/-- One step within a name that begins with c: what is told, and what follows; none: all of it is told as it stands. -/
def escStep (c : UInt8) (r : List UInt8) : Option (List UInt8 × List UInt8) :=
  if c = 36 then
    (if 2 < (c :: r).length ∧ (c :: r).getD 1 0 = 67 ∧ (c :: r).getD 2 0 = 36 then some ([44], (c :: r).drop 3)
     else if 4 < (c :: r).length ∧ (c :: r).getD 1 0 = 117 ∧ (c :: r).getD 4 0 = 36 then (match hex2 ((c :: r).getD 2 0) ((c :: r).getD 3 0) with | some v => some ([v], (c :: r).drop 5) | none => none)
     else if 3 < (c :: r).length ∧ (c :: r).getD 3 0 = 36 then (match code2 ((c :: r).getD 1 0) ((c :: r).getD 2 0) with | some v => some ([v], (c :: r).drop 4) | none => none)
     else none)
  else if c = 46 then (if r.head? = some 46 then some ([58, 58], r.drop 1) else some ([46], r))
  else some ([c], r)
def esc : Nat → List UInt8 → List UInt8
  | 0, l => l
  | k + 1, [] => []
  | k + 1, c :: r => match escStep c r with
    | some (o, t) => o ++ esc k t
    | none => c :: r
/-- A name without an underscore ahead of a dollar sign. -/
def unbar (l : List UInt8) : List UInt8 := match l with
  | 95 :: 36 :: t => 36 :: t
  | l => l
inductive LR
  | told (t : List UInt8)
  | bad
  | unsaid
/-- The names behind their numbers. -/
def lgMain : Nat → Int → List UInt8 → List UInt8 → LR
  | _, _, out, [] => .told out
  | 0, _, _, _ :: _ => .unsaid
  | k + 1, mx, out, c :: r =>
    if 0 < mx ∧ mx < (out.length : Int) then .told out
    else if isDig c = false then .bad
    else match dec 0 (c :: r) with
      | none => .bad
      | some (v, q) =>
        if (if q.head? = some 95 then v - 1 else v) < 0 then .unsaid
        else if ((usl q).length : Int) < (if q.head? = some 95 then v - 1 else v) then .bad
        else lgMain k mx ((if out = [] then [] else out ++ [58, 58]) ++ esc ((usl q).take (if q.head? = some 95 then v - 1 else v).toNat).length (unbar ((usl q).take (if q.head? = some 95 then v - 1 else v).toNat)))
          ((usl q).drop (if q.head? = some 95 then v - 1 else v).toNat)
/-- Which digits occur. -/
def seen : Nat → List UInt8 → Option Nat
  | s, [] => some s
  | s, c :: r => match hexd c with
    | some d => seen (s ||| 2 ^ d.toNat) r
    | none => none
/-- How many bits are set, of 16. -/
def ones16 (s : Nat) : Nat := ((List.range 16).filter fun i => s.testBit i).length
def cutMx (mx : Int) (t : List UInt8) : List UInt8 := if 0 < mx ∧ mx < (t.length : Int) then t.take mx.toNat else t
/-- An old-style name behind its first three bytes. -/
def old (mx : Int) (n : List UInt8) : LR :=
  match seen 0 ((n.drop (n.length - 17)).take 16) with
  | none => .bad
  | some s => if ones16 s < 5 then .bad else
    match lgMain n.length mx [] (n.take (n.length - 20)) with
    | .told t => .told (cutMx mx t)
    | .bad => .bad
    | .unsaid => .unsaid
end Go.Proofs.YtpmlnhddkbgefaaDoor.Dm
namespace Go.Proofs.YtpmlnhddkbgefaaDoor.Dm
set_option linter.unusedVariables false
set_option linter.unusedSimpArgs false
open Go.RowKit

theorem esc_plain : ∀ (k : Nat) (l : List UInt8), l.length ≤ k → (∀ c ∈ l, c ≠ 36 ∧ c ≠ 46) → esc k l = l := by
  intro k
  induction k with
  | zero => intro l h _; cases l with | nil => rfl | cons c l => simp at h
  | succ k ih =>
    intro l h hc
    cases l with
    | nil => rfl
    | cons c l =>
      obtain ⟨h1, h2⟩ := hc c (by simp)
      simp only [esc, escStep]
      rw [if_neg h1, if_neg h2]
      simp only [List.singleton_append]
      rw [ih l (by simp at h; omega) fun x hx => hc x (by simp [hx])]

/-- What is read of a written name, and what it is told as. -/
def body (w : List UInt8) : List UInt8 := usl w
def nametext (w : List UInt8) : List UInt8 := esc (body w).length (unbar (body w))
structure LgOk (w : List UInt8) : Prop where
  ne : w ≠ []
  ln : w.length < 2147483550
  nd : ∀ c t, w = c :: t → isDig c = false
theorem usl_app {w r : List UInt8} (h : w ≠ []) : usl (w ++ r) = usl w ++ r := by
  cases w with
  | nil => exact absurd rfl h
  | cons c w =>
    simp only [List.cons_append, usl]
    split <;> rfl
theorem lgMain_step (k : Nat) (mx : Int) (out w r : List UInt8) (h : LgOk w) :
    lgMain (k + 1) mx out (Lib.decDigits w.length ++ (w ++ r)) =
      if 0 < mx ∧ mx < (out.length : Int) then .told out else lgMain k mx ((if out = [] then [] else out ++ [58, 58]) ++ nametext w) r := by
  obtain ⟨d, ds, hD, hdig⟩ : ∃ c t, Lib.decDigits w.length = c :: t ∧ isDig c = true := by
    have hn := digits_ne w.length
    have hd := digits_dig w.length
    cases h : Lib.decDigits w.length with
    | nil => exact absurd h hn
    | cons c t => exact ⟨c, t, rfl, hd c (by rw [h]; simp)⟩
  have hdec : dec 0 (d :: (ds ++ (w ++ r))) = some ((w.length : Int), w ++ r) := by
    rw [← List.cons_append, ← hD, dec_digits _ _ h.ln]
    refine dec_stop _ _ fun c t e => ?_
    cases hw : w with
    | nil => exact absurd hw h.ne
    | cons x y => rw [hw] at e; injection e with e _; rw [← e]; exact h.nd x y hw
  rw [hD, List.cons_append]
  simp only [lgMain]
  split
  · rfl
  · rw [if_neg (by rw [hdig]; decide), hdec]
    simp only
    have hh : (w ++ r).head? = w.head? := by
      cases hw : w with
      | nil => exact absurd hw h.ne
      | cons x y => rfl
    have hlen : (if (w ++ r).head? = some 95 then (w.length : Int) - 1 else (w.length : Int)) = ((body w).length : Int) := by
      rw [hh]
      cases hw : w with
      | nil => exact absurd hw h.ne
      | cons x y =>
        simp only [List.head?_cons, Option.some.injEq, body, usl]
        split <;> simp
    rw [hlen, usl_app h.ne, if_neg (by omega), if_neg (by rw [List.length_append]; show ¬ ((((usl w).length + r.length : Nat)) : Int) < ((usl w).length : Int); omega)]
    rw [Int.toNat_natCast]
    show lgMain k mx _ _ = _
    have ht : (usl w ++ r).take (body w).length = body w := List.take_left
    have hr : (usl w ++ r).drop (body w).length = r := List.drop_left
    rw [ht, hr]
    rfl

/-- Names behind their numbers. -/
def namesW : List (List UInt8) → List UInt8
  | [] => []
  | w :: ws => Lib.decDigits w.length ++ (w ++ namesW ws)
def joinT (out : List UInt8) : List (List UInt8) → List UInt8
  | [] => out
  | w :: ws => joinT ((if out = [] then [] else out ++ [58, 58]) ++ nametext w) ws
theorem joinT_prefix : ∀ (ws : List (List UInt8)) (out : List UInt8), out <+: joinT out ws := by
  intro ws
  induction ws with
  | nil => intro out; exact List.prefix_refl _
  | cons w ws ih =>
    intro out
    refine List.IsPrefix.trans ?_ (ih _)
    by_cases h : out = []
    · rw [h]; exact List.nil_prefix
    · rw [if_neg h, List.append_assoc]; exact List.prefix_append _ _
theorem cutMx_prefix {mx : Int} {out t : List UInt8} (h : out <+: t) (h0 : 0 < mx) (h1 : mx < (out.length : Int)) : cutMx mx out = cutMx mx t := by
  obtain ⟨r, rfl⟩ := h
  unfold cutMx
  rw [if_pos ⟨h0, h1⟩, if_pos ⟨h0, by rw [List.length_append]; omega⟩, List.take_append_of_le_length (by omega)]
theorem main_names : ∀ (ws : List (List UInt8)) (k : Nat) (mx : Int) (out : List UInt8), ws.length ≤ k → (∀ w ∈ ws, LgOk w) →
    ∃ t, lgMain k mx out (namesW ws) = .told t ∧ cutMx mx t = cutMx mx (joinT out ws) := by
  intro ws
  induction ws with
  | nil =>
    intro k mx out _ _
    cases k with
    | zero => exact ⟨out, by simp only [namesW, lgMain], rfl⟩
    | succ k => exact ⟨out, by simp only [namesW, lgMain], rfl⟩
  | cons w ws ih =>
    intro k mx out hk hok
    obtain ⟨k, rfl⟩ : ∃ m, k = m + 1 := ⟨k - 1, by simp at hk; omega⟩
    simp only [namesW]
    rw [lgMain_step k mx out w (namesW ws) (hok w (by simp))]
    by_cases hc : 0 < mx ∧ mx < (out.length : Int)
    · rw [if_pos hc]
      exact ⟨out, rfl, cutMx_prefix (joinT_prefix (w :: ws) out) hc.1 hc.2⟩
    · rw [if_neg hc]
      exact ih k mx _ (by simp at hk; omega) fun x hx => hok x (by simp [hx])
theorem namesW_len : ∀ ws : List (List UInt8), ws.length ≤ (namesW ws).length := by
  intro ws
  induction ws with
  | nil => simp [namesW]
  | cons w ws ih =>
    have hn := digits_ne w.length
    simp only [namesW, List.length_cons, List.length_append]
    have : 0 < (Lib.decDigits w.length).length := List.length_pos_iff.2 hn
    omega

/-- A whole old-style name: its names, 17h, 16 characters, E. -/
def lgTail (h : List UInt8) : List UInt8 := [49, 55, 104] ++ (h ++ [69])
theorem old_parts (n h : List UInt8) (hh : h.length = 16) : ((n ++ lgTail h).drop ((n ++ lgTail h).length - 17)).take 16 = h ∧ (n ++ lgTail h).take ((n ++ lgTail h).length - 20) = n := by
  have hl : (n ++ lgTail h).length = n.length + 20 := by unfold lgTail; simp [hh]
  rw [hl]
  constructor
  · have e : n ++ lgTail h = (n ++ [49, 55, 104]) ++ (h ++ [69]) := by unfold lgTail; simp
    rw [e, show n.length + 20 - 17 = (n ++ [49, 55, 104]).length by simp, List.drop_left, show 16 = h.length from hh.symm, List.take_left]
  · rw [show n.length + 20 - 20 = n.length by omega, List.take_left]
/-- A hash with a byte that is no digit in base 16. -/
theorem old_nohash (mx : Int) (n h : List UInt8) (hh : h.length = 16) (hs : seen 0 h = none) : old mx (n ++ lgTail h) = .bad := by
  unfold old
  rw [(old_parts n h hh).1, hs]
theorem old_read (mx : Int) (ws : List (List UInt8)) (h : List UInt8) (s : Nat) (hh : h.length = 16) (hs : seen 0 h = some s) (h5 : ¬ ones16 s < 5) (hok : ∀ w ∈ ws, LgOk w) :
    old mx (namesW ws ++ lgTail h) = .told (cutMx mx (joinT [] ws)) := by
  unfold old
  rw [(old_parts _ h hh).1, (old_parts _ h hh).2, hs]
  simp only
  rw [if_neg h5]
  obtain ⟨t, e, hc⟩ := main_names ws (namesW ws ++ lgTail h).length mx [] (by rw [List.length_append]; have := namesW_len ws; omega) hok
  rw [e]
  simp only [hc]
/-- Letters where a number should stand. -/
theorem main_letters (mx : Int) : ∀ (ws : List (List UInt8)) (k : Nat) (out : List UInt8) (c : UInt8) (r : List UInt8), ws.length < k → (∀ w ∈ ws, LgOk w) → isDig c = false → mx = 0 →
    lgMain k mx out (namesW ws ++ c :: r) = .bad := by
  intro ws
  induction ws with
  | nil =>
    intro k out c r hk _ hc h0
    obtain ⟨k, rfl⟩ : ∃ m, k = m + 1 := ⟨k - 1, by simp at hk; omega⟩
    simp only [namesW, List.nil_append, lgMain]
    rw [if_neg (by omega), if_pos hc]
  | cons w ws ih =>
    intro k out c r hk hok hc h0
    obtain ⟨k, rfl⟩ : ∃ m, k = m + 1 := ⟨k - 1, by simp at hk; omega⟩
    simp only [namesW]
    rw [List.append_assoc, List.append_assoc, lgMain_step k mx out w (namesW ws ++ c :: r) (hok w (by simp)), if_neg (by omega)]
    exact ih k _ c r (by simp at hk; omega) (fun x hx => hok x (by simp [hx])) hc h0
theorem old_letters (ws : List (List UInt8)) (b h : List UInt8) (s : Nat) (hh : h.length = 16) (hs : seen 0 h = some s) (hok : ∀ w ∈ ws, LgOk w) (hb : ∃ c r, b = c :: r ∧ isDig c = false) :
    old 0 (namesW ws ++ b ++ lgTail h) = .bad := by
  obtain ⟨c, r, rfl, hc⟩ := hb
  unfold old
  rw [(old_parts _ h hh).1, (old_parts _ h hh).2, hs]
  simp only
  split
  · rfl
  · rw [main_letters 0 ws _ [] c r (by simp only [List.length_append, List.length_cons]; have := namesW_len ws; omega) hok hc rfl]

/-! ### how many digits are different -/
theorem count_or (p : Nat → Bool) (d : Nat) : ∀ L : List Nat, L.Nodup → (L.filter fun i => p i || decide (i = d)).length = (L.filter p).length + (if d ∈ L ∧ p d = false then 1 else 0) := by
  intro L
  induction L with
  | nil => intro _; simp
  | cons x L ih =>
    intro hn
    obtain ⟨hx, hL⟩ := List.nodup_cons.1 hn
    have := ih hL
    by_cases hd : x = d
    · subst hd
      rw [if_neg (by rintro ⟨h, _⟩; exact hx h)] at this
      cases hp : p x with
      | true => simp [hp, this]
      | false => simp [hp, this]
    · have hm : (d ∈ x :: L ∧ p d = false) ↔ (d ∈ L ∧ p d = false) := by
        simp only [List.mem_cons]
        constructor
        · rintro ⟨h | h, h2⟩
          · exact absurd h.symm hd
          · exact ⟨h, h2⟩
        · rintro ⟨h, h2⟩; exact ⟨.inr h, h2⟩
      simp only [hm]
      cases hp : p x with
      | true => simp [hp, hd, this]; omega
      | false => simp [hp, hd, this]
theorem ones_or (s d : Nat) (h : d < 16) : ones16 (s ||| 2 ^ d) = ones16 s + (if s.testBit d then 0 else 1) := by
  unfold ones16
  have e : (fun i => (s ||| 2 ^ d).testBit i) = fun i => s.testBit i || decide (i = d) := by
    funext i
    rw [Nat.testBit_or, Nat.testBit_two_pow]
    congr 1
    rw [decide_eq_decide]
    exact ⟨fun h => h.symm, fun h => h.symm⟩
  rw [e, count_or _ d _ List.nodup_range]
  congr 1
  cases hb : s.testBit d with
  | true => simp [hb]
  | false => simp [hb, h]
end Go.Proofs.YtpmlnhddkbgefaaDoor.Dm
namespace Go.Proofs.YtpmlnhddkbgefaaDoor.Dm
set_option linter.unusedVariables false
set_option linter.unusedSimpArgs false
open Go.RowKit

def hexch (d : Nat) : UInt8 := if d < 10 then UInt8.ofNat (48 + d) else UInt8.ofNat (87 + d)
def lgDig (l : List Int) (i : Nat) : Nat := if i < l.length then (l.getD i 0 % 16).toNat else 0
def lgText (l : List Int) : Nat → List UInt8
  | 0 => []
  | i + 1 => lgText l i ++ [hexch (lgDig l i)]
def lgBits (l : List Int) : Nat → Nat
  | 0 => 0
  | i + 1 => lgBits l i ||| 2 ^ lgDig l i
theorem lgDig_lt (l : List Int) (i : Nat) : lgDig l i < 16 := by
  unfold lgDig
  split <;> omega
theorem lgText_len (l : List Int) (n : Nat) : (lgText l n).length = n := by
  induction n with
  | zero => rfl
  | succ n ih => simp [lgText, ih]
theorem hexd_hexch : ∀ d : Nat, d < 16 → hexd (hexch d) = some (d : Int) := by decide
theorem hexch_not45 : ∀ d : Nat, d < 16 → hexch d ≠ 69 := by decide
theorem seen_app : ∀ (l : List UInt8) (s : Nat) (c : UInt8), seen s (l ++ [c]) = match seen s l with | some t => (match hexd c with | some d => some (t ||| 2 ^ d.toNat) | none => none) | none => none := by
  intro l
  induction l with
  | nil => intro s c; simp only [List.nil_append, seen]; try (cases hexd c <;> rfl)
  | cons x l ih =>
    intro s c
    simp only [List.cons_append, seen]
    cases hexd x with
    | none => rfl
    | some d => exact ih _ c
theorem seen_text (l : List Int) (n : Nat) : seen 0 (lgText l n) = some (lgBits l n) := by
  induction n with
  | zero => rfl
  | succ n ih =>
    simp only [lgText, lgBits]
    rw [seen_app, ih, hexd_hexch _ (lgDig_lt l n)]
    simp
theorem seen_none : ∀ (l : List UInt8) (s : Nat), (∃ c ∈ l, hexd c = none) → seen s l = none := by
  intro l
  induction l with
  | nil => rintro s ⟨c, h, _⟩; simp at h
  | cons x l ih =>
    rintro s ⟨c, h, hc⟩
    simp only [seen]
    cases hx : hexd x with
    | none => rfl
    | some d =>
      refine ih _ ⟨c, ?_, hc⟩
      rcases List.mem_cons.1 h with rfl | h
      · rw [hx] at hc; cases hc
      · exact h
theorem lgBits_lt (l : List Int) (n : Nat) : lgBits l n < 65536 := by
  induction n with
  | zero => show 0 < 65536; decide
  | succ n ih => exact Nat.or_lt_two_pow (n := 16) ih (Nat.pow_lt_pow_right (by decide) (lgDig_lt l n))
end Go.Proofs.YtpmlnhddkbgefaaDoor.Dm
namespace Go.Proofs.YtpmlnhddkbgefaaDoor.Dm
set_option linter.unusedVariables false
set_option linter.unusedSimpArgs false
open Go.RowKit

theorem escStep_len {c : UInt8} {r o t : List UInt8} (h : escStep c r = some (o, t)) : t.length ≤ r.length := by
  unfold escStep at h
  repeat' split at h
  all_goals first
    | (cases h; done)
    | (simp only [Option.some.injEq, Prod.mk.injEq] at h; obtain ⟨_, rfl⟩ := h; first | (simp only [List.length_drop, List.length_cons]; omega) | exact Nat.le_refl _)
theorem esc_fuel : ∀ (k : Nat) (l : List UInt8), l.length ≤ k → esc k l = esc l.length l := by
  intro k
  induction k using Nat.strongRecOn with
  | ind k ih =>
    intro l h
    cases l with
    | nil => cases k <;> rfl
    | cons c r =>
      obtain ⟨k, rfl⟩ : ∃ m, k = m + 1 := ⟨k - 1, by simp at h; omega⟩
      simp only [List.length_cons, esc]
      cases hs : escStep c r with
      | none => rfl
      | some x =>
        obtain ⟨o, t⟩ := x
        have ht := escStep_len hs
        simp only [List.length_cons] at h
        simp only
        rw [ih k (by omega) t (by omega)]
        by_cases hk : r.length < k + 1
        · rw [ih r.length hk t ht]
        · omega
/-- What is told of a name. -/
def tl (l : List UInt8) : List UInt8 := esc l.length l
theorem tl_nil : tl [] = [] := rfl
theorem tl_step {c : UInt8} {r o t : List UInt8} (h : escStep c r = some (o, t)) : tl (c :: r) = o ++ tl t := by
  unfold tl
  simp only [List.length_cons, esc, h]
  rw [esc_fuel _ t (escStep_len h)]
theorem tl_char {c : UInt8} (r : List UInt8) (h1 : c ≠ 36) (h2 : c ≠ 46) : tl (c :: r) = c :: tl r := by
  rw [tl_step (o := [c]) (t := r)]
  · rfl
  · unfold escStep; rw [if_neg h1, if_neg h2]
theorem tl_text : ∀ (w r : List UInt8), (∀ c ∈ w, c ≠ 36 ∧ c ≠ 46) → tl (w ++ r) = w ++ tl r := by
  intro w
  induction w with
  | nil => intro r _; rfl
  | cons c w ih =>
    intro r h
    rw [List.cons_append, tl_char _ (h c (by simp)).1 (h c (by simp)).2, ih r fun x hx => h x (by simp [hx])]
    rfl
theorem tl_two (a b v : UInt8) (r : List UInt8) (hc : code2 a b = some v) (h1 : a ≠ 67 ∨ b ≠ 36) (h2 : a ≠ 117) : tl (36 :: a :: b :: 36 :: r) = v :: tl r := by
  rw [tl_step (o := [v]) (t := r)]
  · rfl
  · unfold escStep
    rw [if_pos rfl, if_neg (by rintro ⟨_, h3, h4⟩; rcases h1 with h | h; (exact h h3); exact h h4), if_neg (by rintro ⟨_, h3, _⟩; exact h2 h3), if_pos ⟨by simp, rfl⟩]
    show (match code2 a b with | some v => some ([v], _) | none => none) = _
    rw [hc]
    rfl
theorem tl_comma (r : List UInt8) : tl (36 :: 67 :: 36 :: r) = 44 :: tl r := by
  rw [tl_step (o := [44]) (t := r)]
  · rfl
  · unfold escStep
    rw [if_pos rfl, if_pos ⟨by simp, rfl, rfl⟩]
    rfl
theorem tl_hex (a b v : UInt8) (r : List UInt8) (hc : hex2 a b = some v) : tl (36 :: 117 :: a :: b :: 36 :: r) = v :: tl r := by
  rw [tl_step (o := [v]) (t := r)]
  · rfl
  · unfold escStep
    rw [if_pos rfl, if_neg (by rintro ⟨_, h3, _⟩; exact absurd (show (117 : UInt8) = 67 from h3) (by decide)), if_pos ⟨by simp, rfl, rfl⟩]
    show (match hex2 a b with | some v => some ([v], _) | none => none) = _
    rw [hc]
    rfl
theorem tl_dots (r : List UInt8) : tl (46 :: 46 :: r) = 58 :: 58 :: tl r := by
  rw [tl_step (o := [58, 58]) (t := r)]
  · rfl
  · unfold escStep
    rw [if_neg (by decide), if_pos rfl, if_pos (show (46 :: r).head? = some 46 from rfl)]
    rfl

/-- The escapes, as they are written and as they are told. -/
def escTab : List (List UInt8 × List UInt8) :=
  [([36, 83, 80, 36], [64]), ([36, 66, 80, 36], [42]), ([36, 82, 70, 36], [38]), ([36, 76, 84, 36], [60]), ([36, 71, 84, 36], [62]), ([36, 76, 80, 36], [40]), ([36, 82, 80, 36], [41]), ([36, 67, 36], [44]),
   ([36, 117, 50, 48, 36], [32]), ([36, 117, 50, 50, 36], [34]), ([36, 117, 50, 55, 36], [39]), ([36, 117, 50, 98, 36], [43]), ([36, 117, 51, 98, 36], [59]), ([36, 117, 53, 98, 36], [91]), ([36, 117, 53, 100, 36], [93]), ([36, 117, 55, 98, 36], [123]), ([36, 117, 55, 100, 36], [125]), ([36, 117, 55, 101, 36], [126]),
   ([46, 46], [58, 58])]
set_option maxRecDepth 100000 in
theorem tl_esc : ∀ x ∈ escTab, ∀ r : List UInt8, tl (x.1 ++ r) = x.2 ++ tl r := by
  intro x hx r
  simp only [escTab, List.mem_cons, List.not_mem_nil, or_false] at hx
  rcases hx with rfl | rfl | rfl | rfl | rfl | rfl | rfl | rfl | rfl | rfl | rfl | rfl | rfl | rfl | rfl | rfl | rfl | rfl | rfl
  all_goals first
    | exact tl_two _ _ _ r rfl (by decide) (by decide)
    | exact tl_comma r
    | exact tl_hex _ _ _ r rfl
    | exact tl_dots r
theorem nametext_plain (w : List UInt8) (h : w.head? ≠ some 95) : nametext w = tl w := by
  cases w with
  | nil => rfl
  | cons c w =>
    have hc : c ≠ 95 := fun e => h (by rw [e]; rfl)
    have hb : body (c :: w) = c :: w := by show (if c = 95 then w else c :: w) = _; rw [if_neg hc]
    unfold nametext
    rw [hb]
    have hu : unbar (c :: w) = c :: w := by
      unfold unbar
      split
      · rename_i t e; injection e with e _; exact absurd e hc
      · rfl
    rw [hu]
    rfl
theorem nametext_bar (w : List UInt8) (h : w.head? = some 36) : nametext (95 :: w) = tl w := by
  cases w with
  | nil => cases h
  | cons c w =>
    simp only [List.head?_cons, Option.some.injEq] at h
    subst h
    have hb : body (95 :: 36 :: w) = 36 :: w := by show (if (95 : UInt8) = 95 then 36 :: w else 95 :: 36 :: w) = _; rw [if_pos rfl]
    unfold nametext
    rw [hb]
    rfl
end Go.Proofs.YtpmlnhddkbgefaaDoor.Dm
namespace Go.Proofs.YtpmlnhddkbgefaaDoor.Dm
set_option linter.unusedVariables false
set_option linter.unusedSimpArgs false
open Go.RowKit

def isPlain (c : UInt8) : Bool :=
  (decide (48 ≤ (c.toNat : Int)) && decide ((c.toNat : Int) ≤ 57)) || (decide (65 ≤ (c.toNat : Int)) && decide ((c.toNat : Int) ≤ 90)) ||
  (decide (97 ≤ (c.toNat : Int)) && decide ((c.toNat : Int) ≤ 122)) || decide ((c.toNat : Int) = 95)
def ones8 (s : Nat) : Nat := ((List.range 8).filter fun i => s.testBit i).length
theorem ones_halves (s : Nat) : ones16 s = ones8 (s / 256) + ones8 (s % 256) := by
  unfold ones16 ones8
  have e : List.range 16 = List.range 8 ++ (List.range 8).map (8 + ·) := by decide
  rw [e, List.filter_append, List.length_append, Nat.add_comm]
  congr 1
  · rw [List.filter_map, List.length_map]
    congr 2
    funext i
    simp only [Function.comp]
    rw [show s / 256 = s / 2 ^ 8 from rfl, Nat.testBit_div_two_pow, Nat.add_comm]
  · congr 1
    apply List.filter_congr
    intro i hi
    have := List.mem_range.1 hi
    rw [show s % 256 = s % 2 ^ 8 from rfl, Nat.testBit_mod_two_pow]
    simp [this]
theorem ones8_le (s : Nat) : ones8 s ≤ 8 := by
  unfold ones8
  exact Nat.le_trans (List.length_filter_le _ _) (by simp)
theorem ones16_le (s : Nat) : ones16 s ≤ 16 := by
  unfold ones16
  exact Nat.le_trans (List.length_filter_le _ _) (by simp)

/-- Texts with two colons between them. -/
def pathT : List (List UInt8) → List UInt8
  | [] => []
  | t :: ts => t ++ ts.flatMap fun t => 58 :: 58 :: t
theorem joinT_more : ∀ (ws : List (List UInt8)) (out : List UInt8), out ≠ [] → joinT out ws = out ++ (ws.map nametext).flatMap fun t => 58 :: 58 :: t := by
  intro ws
  induction ws with
  | nil => intro out _; simp [joinT]
  | cons w ws ih =>
    intro out h
    simp only [joinT]
    rw [if_neg h, ih _ (by simp [h])]
    simp
theorem joinT_path (ws : List (List UInt8)) (h : ∀ w, ws.head? = some w → nametext w ≠ []) : joinT [] ws = pathT (ws.map nametext) := by
  cases ws with
  | nil => rfl
  | cons w ws =>
    show joinT ((if ([] : List UInt8) = [] then [] else [] ++ [58, 58]) ++ nametext w) ws = _
    rw [if_pos rfl, List.nil_append, joinT_more _ _ (h w rfl)]
    rfl
end Go.Proofs.YtpmlnhddkbgefaaDoor.Dm
