/- Seat b6620881a: 'Rows.FnKeepCTEIsTemplateSaid' PROVED: the law's own walk out of its callees' contracts, then the row's frame (after the given shell; the world behind the call is told by 'Below'). -/
import Derived.Test.Qxb6620881aWalks
import Derived.ProofKit
import Derived.OpenShut
import Derived.ShutString
import Derived.ChangeOld
import Derived.Below
namespace Go.Proofs.Qxb6620881a.fnKeepCTEIsTemplate
open Go.ChangeShapes Go.WideShapes Go.ChangeAt Go.RowKit
open Go.ChangeMaps (open_string shut_string)
set_option linter.unusedVariables false
set_option maxRecDepth 100000

theorem own : ownKnob Try.prog.godebug = none := by kernel_rfl
theorem laidOut : laidOutB Try.prog = true := by kernel_rfl

theorem fill_keep_any (c m : ByteArray) (w : World) (hc : c.size ≤ 65536) (hm : m.size ≤ 65536) :
    Calls Try.prog 6 #[.string (keepS ⟨#[0]⟩ ⟨#[1]⟩), .string c, .string m] w fun e w' => e = .returned (.string (keepS c m)) ∧ Below w.heap.size w w' := by
  have hs : (keepS ⟨#[0]⟩ ⟨#[1]⟩).size ≤ 4096 := by rw [keepS_size]; decide
  refine (fill_any (keepS ⟨#[0]⟩ ⟨#[1]⟩) c m w hs hc hm).mono ?_
  rintro e w' ⟨rfl, hb⟩
  refine ⟨?_, hb⟩
  have e : (keepS ⟨#[0]⟩ ⟨#[1]⟩).data.toList = Pl.keepL [0] [1] := rfl
  rw [e, Pl.fill_keep]
  rfl

set_option maxHeartbeats 400000 in
theorem walk (a0 : ByteArray) (a1 : ByteArray) (w0 : a0.size ≤ maxLen) (w1 : a1.size ≤ maxLen) (w : World) :
    Calls Try.prog 3 #[.string a0, .string a1] w fun e w' => e = .returned (.bool true) ∧ Below w.heap.size w w' := by
  by_cases hb : a0.size + a1.size ≤ 1048576
  · by_cases h0 : a0.size ≤ 65536
    · by_cases h1 : a1.size ≤ 65536
      · have hs1 := keepS_size a0 a1
        have hs2 : (keepS ⟨#[]⟩ ⟨#[]⟩).size = 244 := by rw [keepS_size]; rfl
        have hs3 : (keepS ⟨#[0]⟩ ⟨#[1]⟩).size = 248 := by rw [keepS_size]; rfl
        go_enter Try.func3, Try.ntmps3
        go_wp2_with fail
        refine (bytes_yes a0 a1 w hb).mono ?_
        rintro e wa ⟨rfl, hw⟩; obtain rfl := hw.symm; clear hw
        go_wp2_with fail
        refine (keep_any a0 a1 _ h0 h1).mono ?_
        rintro e wa ⟨rfl, hw⟩; obtain rfl := hw.symm; clear hw
        go_wp2_with fail
        refine (keep_any ⟨#[]⟩ ⟨#[]⟩ _ (by decide) (by decide)).mono ?_
        rintro e wa ⟨rfl, hw⟩; obtain rfl := hw.symm; clear hw
        go_wp2_with fail
        refine (keep_any ⟨#[0]⟩ ⟨#[1]⟩ _ (by decide) (by decide)).mono ?_
        rintro e wa ⟨rfl, hw⟩; obtain rfl := hw.symm; clear hw
        go_wp2_with fail
        refine (fill_keep_any a0 a1 _ h0 h1).mono ?_
        rintro e wa ⟨rfl, hb⟩
        go_wp2
        go_ret
        exact ⟨rfl, hb⟩
      · go_enter Try.func3, Try.ntmps3
        go_wp2_with (go_at_call 4; refine (bytes_yes a0 a1 w hb).mono ?_; rintro e wa ⟨rfl, hw⟩; obtain rfl := hw.symm; clear hw)
        go_ret
        exact ⟨rfl, Below.refl _ _⟩
    · go_enter Try.func3, Try.ntmps3
      go_wp2_with (go_at_call 4; refine (bytes_yes a0 a1 w hb).mono ?_; rintro e wa ⟨rfl, hw⟩; obtain rfl := hw.symm; clear hw)
      go_ret
      exact ⟨rfl, Below.refl _ _⟩
  · go_enter Try.func3, Try.ntmps3
    go_wp2_with (go_at_call 4; refine (bytes_no a0 a1 w w0 w1 hb).mono ?_; rintro e wa ⟨rfl, hw⟩; obtain rfl := hw.symm; clear hw)
    go_ret
    exact ⟨rfl, Below.refl _ _⟩

/-! ### The row's step (after the guide's template) -/
set_option maxRecDepth 100000 in
theorem lifted (os : Os) (started : os.Started) (H : Type) (enc : TypeId × Value → H) :
    ReturnsInHanded {} Try.checked os 3 .any (Rows.fnKeepCTEIsTemplateSpec.pre6 enc Try.prog Try.f3 Rows.fnKeepCTEIsTemplateRow.domain false) (Rows.fnKeepCTEIsTemplateSpec.post enc Try.prog Try.f3 false true false false) := by
  refine returnsInHanded_of_change (C := Try.checked) own started (by kernel_rfl) Try.func3
    (ChangeSpec.witness6 (enc := enc) (C := Try.checked) false ⟨#[], #[.string ByteArray.empty, .string ByteArray.empty], []⟩ 8 (by kernel_rfl) (by kernel_rfl) (by kernel_rfl) (by kernel_rfl)) ?_
  intro W base args ds gs before hval0 hW hcnd _
  have hval : ∀ (j : Nat) t v, Try.f3.params[j]? = some t → args[j]? = some v → Value.okWide Try.prog W .any base t v := hval0
  have hW' := hW
  obtain ⟨p, q, hA0, hV, rfl, hfz, hnd⟩ := hW
  have hA : DataW.TrodAll enc Try.prog W 0 (fun _ => true) true Try.f3.params.toList args.toList ds p := hA0
  rw [Try.params3] at hA hval
  obtain ⟨v0, vs0, d0, ds0, p0, q0, hargs, rfl, rfl, h0, r0⟩ := trodAll_cons hA
  obtain ⟨v1, vs1, d1, ds1, p1, q1, rfl, rfl, rfl, h1, r1⟩ := trodAll_cons r0
  obtain ⟨rfl, rfl, rfl⟩ := trodAll_nil r1
  obtain rfl : args = #[v0, v1] := by cases args; simp_all
  obtain ⟨rfl, rfl⟩ := trodVars_none hV
  obtain ⟨a0, rfl, rfl, rfl, w0⟩ := open_string Try.underlying9 (hval 0 9 v0 rfl rfl) h0
  obtain ⟨a1, rfl, rfl, rfl, w1⟩ := open_string Try.underlying9 (hval 1 9 v1 rfl rfl) h1
  clear hA0 hval0
  refine (walk a0 a1 w0 w1 W).mono fun e W' ⟨he, bel⟩ => ?_
  subst he
  exact ⟨_, rfl, _, _, _, [], _, [], hW', trodAll_mk1 (shut_bool Try.underlying4 _), (trodAll_cons_mk (shut_string Try.underlying9 w0) (trodAll_cons_mk (shut_string Try.underlying9 w1) trodAll_mk0)), rfl, bel.frame _, fun h => by cases h⟩

theorem over : Rows.fnKeepCTEIsTemplateRow.holds Try.pinned (OpenSpec.ofChange Rows.fnKeepCTEIsTemplateSpec) :=
  OpenClaim.holds_of_wide 3 Try.f3 rfl rfl rfl rfl rfl rfl rfl ⟨rfl, rfl, rfl, rfl, rfl⟩ rfl rfl rfl rfl rfl (by kernel_rfl) Try.func3 (by kernel_rfl)
    (of_decide_eq_true (by kernel_rfl)) (by unfold Func.isWrapper; first | (rw [if_pos (by decide +kernel)]; kernel_rfl) | (rw [if_neg (by decide +kernel)]; exact ⟨rfl, rfl⟩))
    (fun os started H enc _ => lifted os started H enc)

/-- The given statement. -/
theorem proved : Rows.FnKeepCTEIsTemplateSaid :=
  over
end Go.Proofs.Qxb6620881a.fnKeepCTEIsTemplate

namespace Go.Proofs.Qxb6620881a
theorem keepCTE_is_template : Rows.FnKeepCTEIsTemplateSaid := fnKeepCTEIsTemplate.proved
end Go.Proofs.Qxb6620881a
