/- ZZBasicType and the thin package's BasicType. -/
import Derived.Test.YtfblehpiecialaaDoorMap
import Derived.Test.YtfblehpiecialaaDoorRun
import Derived.Shelf.Abstract
namespace Go.Proofs.YtfblehpiecialaaDoor
set_option linter.unusedVariables false
set_option linter.unusedSimpArgs false
open Go.RowKit

theorem enters_basClo (args : Array Value) (w : World) : (callFunc 45 args).run Tryd.prog w = .ok (.enter 45 args) w :=
  enters_of Tryd.func45 (by kernel_rfl) rfl args w

theorem basClo_calls (b : Nat) (s : RS) (w : World) (h : RustAt b s w) (hm : MapIs w) (hlen : s.out.length + 5 ≤ 140737488355328) :
    Calls Tryd.prog 45 #[.pointer (some ⟨b, 0, none⟩)] w fun e w' => BasicPost b s w e w' := by
  have hc := basicType_calls b s w h hm hlen
  unfold BasicPost at hc ⊢
  cases hd : Dm.basic s.str with
  | none =>
    rw [hd] at hc
    simp only at hc ⊢
    clear hd hm h
    go_enter Tryd.func45, Tryd.ntmps45
    go_wp2_with fail
    refine hc.mono ?_
    rintro e w2 ⟨⟨m, o, rfl⟩, hb⟩
    exact ⟨rfl, ⟨m, o, rfl⟩, hb⟩
  | some q =>
    obtain ⟨t, r⟩ := q
    rw [hd] at hc
    simp only at hc ⊢
    clear hd hm h
    go_enter Tryd.func45, Tryd.ntmps45
    go_wp2_with fail
    refine hc.mono ?_
    rintro e w2 ⟨rfl, hr, hb⟩
    go_wp2_with fail
    go_end0
    exact ⟨rfl, hr, hb⟩

theorem init_put (l t r : List UInt8) : (((RS.init l).adv r).putStr t).out = t ∧ (((RS.init l).adv r).putStr t).str = r := by
  unfold RS.putStr
  rw [if_neg (by simp [RS.init, RS.adv]), if_neg (by simp [RS.init, RS.adv])]
  cases hg : t.getLast? with
  | none => rw [List.getLast?_eq_none_iff] at hg; subst hg; exact ⟨rfl, rfl⟩
  | some c => exact ⟨by simp [RS.init, RS.adv], rfl⟩

/-- The thin package's BasicType, whatever it reads. -/
def basRes (l : List UInt8) : Value :=
  match Dm.basic l with
  | some (t, r) => .tuple #[.string (bs t), .string (bs r), .bool true]
  | none => .tuple #[.string ⟨#[]⟩, .string ⟨#[]⟩, .bool false]

set_option maxHeartbeats 1000000 in
theorem basic_calls (l : List UInt8) (w : World) (hl : l.length ≤ 4611686018427387904) (hm : MapIs w) :
    Calls Tryd.prog 12 #[.string (bs l)] w fun e w' => e = .returned (basRes l) ∧ Below w.heap.size w w' := by
  cases hd : Dm.basic l with
  | none =>
    have hrun := zzRun_fails l 45 #[] w hl (Below w.heap.size w) enters_basClo (fun a c h k => k.trans h)
      (fun b w1 hb hbel hr => by
        have := basClo_calls b (RS.init l) w1 hr (hm.below hbel) (by simp [RS.init])
        unfold BasicPost at this
        rw [show (RS.init l).str = l from rfl, hd] at this
        refine (show Calls _ _ _ _ _ from this).mono ?_
        rintro e w2 ⟨he, hb2⟩
        exact ⟨he, fun k _ hk => hb2.block k hk, hbel.trans (hb2.mono (by omega))⟩)
    have e : basRes l = .tuple #[.string ⟨#[]⟩, .string ⟨#[]⟩, .bool false] := by unfold basRes; rw [hd]
    rw [e]
    have HR := Lib.hid hrun
    clear hrun e hd hm
    have hz : Calls Tryd.prog 30 #[.string (bs l)] w fun e w' => (∃ v, e = .returned (.tuple #[.string ⟨#[]⟩, .string ⟨#[]⟩, .iface 83 v])) ∧ Below w.heap.size w w' := by
      go_enter Tryd.func30, Tryd.ntmps30
      go_wp2_with fail
      refine HR.out.mono ?_
      rintro e w2 ⟨⟨v, rfl⟩, hv⟩
      go_wp2_with fail
      go_ret3
      exact ⟨⟨v, rfl⟩, hv⟩
    go_enter Tryd.func12, Tryd.ntmps12
    go_wp2_with fail
    refine hz.mono ?_
    rintro e w2 ⟨⟨v, rfl⟩, hb⟩
    go_wp2_with fail
    go_ret3
    exact ⟨rfl, hb⟩
  | some q =>
    obtain ⟨t, r⟩ := q
    have hrun := zzRun_ok l 45 #[] w hl (Below w.heap.size w) enters_basClo (fun a c h k => k.trans h) (((RS.init l).adv r).putStr t)
      (fun b w1 hb hbel hr => by
        have := basClo_calls b (RS.init l) w1 hr (hm.below hbel) (by simp [RS.init])
        unfold BasicPost at this
        rw [show (RS.init l).str = l from rfl, hd] at this
        refine (show Calls _ _ _ _ _ from this).mono ?_
        rintro e w2 ⟨he, hr2, hb2⟩
        exact ⟨he, hr2, fun k _ hk => hb2.block k hk, hbel.trans (hb2.mono (by omega))⟩)
    rw [(init_put l t r).1, (init_put l t r).2] at hrun
    have e : basRes l = .tuple #[.string (bs t), .string (bs r), .bool true] := by unfold basRes; rw [hd]
    rw [e]
    have HR := Lib.hid hrun
    clear hrun e hd hm
    have hz : Calls Tryd.prog 30 #[.string (bs l)] w fun e w' => e = .returned (.tuple #[.string (bs t), .string (bs r), .nilIface]) ∧ Below w.heap.size w w' := by
      go_enter Tryd.func30, Tryd.ntmps30
      go_wp2_with fail
      refine HR.out.mono ?_
      rintro e w2 ⟨rfl, hv⟩
      go_wp2_with fail
      go_ret3
      exact ⟨rfl, hv⟩
    go_enter Tryd.func12, Tryd.ntmps12
    go_wp2_with fail
    refine hz.mono ?_
    rintro e w2 ⟨rfl, hb⟩
    go_wp2_with fail
    go_ret3
    exact ⟨rfl, hb⟩
end Go.Proofs.YtfblehpiecialaaDoor
