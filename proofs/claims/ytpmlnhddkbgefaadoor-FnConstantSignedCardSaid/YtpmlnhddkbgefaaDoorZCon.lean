/- ZZConst and the thin package's Constant. -/
import Derived.Test.YtpmlnhddkbgefaaDoorCon2
import Derived.Test.YtpmlnhddkbgefaaDoorRun
import Derived.Shelf.Abstract
namespace Go.Proofs.YtpmlnhddkbgefaaDoor
set_option linter.unusedVariables false
set_option linter.unusedSimpArgs false
open Go.RowKit

/-- demangleConst, of whatever begins with no B. -/
theorem const_calls (b : Nat) (s : RS) (w : World) (h : RustAt b s w) (hk : s.skip = false) (hm : s.mx = 0) (h66 : s.str.head? ≠ some 66)
    (hU : Dm.const s.str ≠ .unsaid) (hT : Based StrIs b w) (hlen : s.out.length + s.str.length + 40 ≤ 140737488355328) :
    Calls Tryd.prog 53 #[.pointer (some ⟨b, 0, none⟩)] w fun e w' => ConPost b (Dm.const s.str) s w e w' := by
  cases hs : s.str with
  | nil => exact const_empty b s w h hs
  | cons c r =>
    rw [hs] at h66
    have n66 : c ≠ 66 := fun e => h66 (by rw [e]; rfl)
    by_cases h112 : c = 112
    · subst h112
      have e : Dm.const (112 :: r) = .told [95] r := by simp [Dm.const]
      rw [e]
      exact const_hole b s w h hk hm r hs (by rw [hs, List.length_cons] at hlen; omega)
    · rw [← hs]
      exact const_num b s w h hk hm c r hs n66 h112 hU hT hlen

theorem enters_conClo (args : Array Value) (w : World) : (callFunc 52 args).run Tryd.prog w = .ok (.enter 52 args) w :=
  enters_of Tryd.func52 (by kernel_rfl) rfl args w

theorem conClo_told (b : Nat) (s : RS) (w : World) (t r : List UInt8)
    (hc : Calls Tryd.prog 53 #[.pointer (some ⟨b, 0, none⟩)] w fun e w' => e = .returned (.tuple #[]) ∧ At b s r t w' ∧ Fr b w w') :
    Calls Tryd.prog 52 #[.pointer (some ⟨b, 0, none⟩)] w fun e w' => e = .returned (.tuple #[]) ∧ At b s r t w' ∧ Fr b w w' := by
  go_enter Tryd.func52, Tryd.ntmps52
  go_wp2_with fail
  refine hc.mono ?_
  rintro e w2 ⟨rfl, hr, hb⟩
  have HR := Lib.hid hr
  clear hr
  go_wp2_with fail
  go_end0
  exact ⟨rfl, HR.out, hb⟩
theorem conClo_bad (b : Nat) (w : World)
    (hc : Calls Tryd.prog 53 #[.pointer (some ⟨b, 0, none⟩)] w fun e w' => Fails b w e w') :
    Calls Tryd.prog 52 #[.pointer (some ⟨b, 0, none⟩)] w fun e w' => Fails b w e w' := by
  go_enter Tryd.func52, Tryd.ntmps52
  go_wp2_with fail
  refine hc.mono ?_
  rintro e w2 ⟨⟨m, o, rfl⟩, hb⟩
  exact ⟨rfl, ⟨m, o, rfl⟩, hb⟩

set_option maxHeartbeats 1000000 in
theorem constant_told (l : List UInt8) (w : World) (hl : l.length ≤ 140737488355000) (h66 : l.head? ≠ some 66) (hT : StrIs w) (t r : List UInt8) (hd : Dm.const l = .told t r) :
    Calls Tryd.prog 16 #[.string (bs l)] w fun e w' => e = .returned (.tuple #[.string (bs t), .string (bs r), .bool true]) ∧ Below w.heap.size w w' := by
  have hrun := zzRun_ok' l 52 #[] w (by omega) (Below w.heap.size w) enters_conClo (fun a c h k => k.trans h) t r
    (fun b w1 hb hbel hr => by
      have := const_calls b (RS.init l) w1 hr rfl rfl h66 (by rw [show (RS.init l).str = l from rfl, hd]; simp) (Based.mk' hT (by omega) hbel) (by simp [RS.init]; omega)
      rw [show (RS.init l).str = l from rfl, hd] at this
      refine (conClo_told b _ w1 t r this).mono ?_
      rintro e w2 ⟨he, ⟨_, _, m, hr2⟩, hb2⟩
      exact ⟨he, ⟨_, by simp [RS.wr, RS.init, RS.adv], rfl, hr2⟩, fun k _ hk => hb2.block k hk, hbel.trans (hb2.mono (by omega))⟩)
  have HR := Lib.hid hrun
  clear hrun hd hT
  have hz : Calls Tryd.prog 40 #[.string (bs l)] w fun e w' => e = .returned (.tuple #[.string (bs t), .string (bs r), .nilIface]) ∧ Below w.heap.size w w' := by
    go_enter Tryd.func40, Tryd.ntmps40
    go_wp2_with fail
    refine HR.out.mono ?_
    rintro e w2 ⟨rfl, hv⟩
    go_wp2_with fail
    go_ret3
    exact ⟨rfl, hv⟩
  go_enter Tryd.func16, Tryd.ntmps16
  go_wp2_with fail
  refine hz.mono ?_
  rintro e w2 ⟨rfl, hb⟩
  go_wp2_with fail
  go_ret3
  exact ⟨rfl, hb⟩

set_option maxHeartbeats 1000000 in
theorem constant_fails (l : List UInt8) (w : World) (hl : l.length ≤ 140737488355000)
    (hf : ∀ b w1, w.heap.size + 3 ≤ b → Below w.heap.size w w1 → RustAt b (RS.init l) w1 → Calls Tryd.prog 53 #[.pointer (some ⟨b, 0, none⟩)] w1 fun e w' => Fails b w1 e w') :
    Calls Tryd.prog 16 #[.string (bs l)] w fun e w' => e = .returned (.tuple #[.string ⟨#[]⟩, .string ⟨#[]⟩, .bool false]) ∧ Below w.heap.size w w' := by
  have hrun := zzRun_fails l 52 #[] w (by omega) (Below w.heap.size w) enters_conClo (fun a c h k => k.trans h)
    (fun b w1 hb hbel hr => by
      refine (conClo_bad b w1 (hf b w1 hb hbel hr)).mono ?_
      rintro e w2 ⟨he, hb2⟩
      exact ⟨he, fun k _ hk => hb2.block k hk, hbel.trans (hb2.mono (by omega))⟩)
  have HR := Lib.hid hrun
  clear hrun hf
  have hz : Calls Tryd.prog 40 #[.string (bs l)] w fun e w' => (∃ v, e = .returned (.tuple #[.string ⟨#[]⟩, .string ⟨#[]⟩, .iface 111 v])) ∧ Below w.heap.size w w' := by
    go_enter Tryd.func40, Tryd.ntmps40
    go_wp2_with fail
    refine HR.out.mono ?_
    rintro e w2 ⟨⟨v, rfl⟩, hv⟩
    go_wp2_with fail
    go_ret3
    exact ⟨⟨v, rfl⟩, hv⟩
  go_enter Tryd.func16, Tryd.ntmps16
  go_wp2_with fail
  refine hz.mono ?_
  rintro e w2 ⟨⟨v, rfl⟩, hb⟩
  go_wp2_with fail
  go_ret3
  exact ⟨rfl, hb⟩
theorem constant_bad (l : List UInt8) (w : World) (hl : l.length ≤ 140737488355000) (h66 : l.head? ≠ some 66) (hT : StrIs w) (hd : Dm.const l = .bad) :
    Calls Tryd.prog 16 #[.string (bs l)] w fun e w' => e = .returned (.tuple #[.string ⟨#[]⟩, .string ⟨#[]⟩, .bool false]) ∧ Below w.heap.size w w' :=
  constant_fails l w hl (fun b w1 hb hbel hr => by
    have := const_calls b (RS.init l) w1 hr rfl rfl h66 (by rw [show (RS.init l).str = l from rfl, hd]; simp) (Based.mk' hT (by omega) hbel) (by simp [RS.init]; omega)
    rw [show (RS.init l).str = l from rfl, hd] at this
    exact this)
end Go.Proofs.YtpmlnhddkbgefaaDoor
