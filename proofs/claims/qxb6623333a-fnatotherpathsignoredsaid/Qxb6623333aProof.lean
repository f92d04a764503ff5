/- Seat b6623333a: 'Rows.FnAtOtherPathsIgnoredSaid' PROVED: the row's frame round the law's walk. -/
import Derived.Test.Qxb6623333aLaw
import Derived.Test.Qxb6623333aBytes
import Derived.Test.Qxb6623333aOpen
import Derived.OpenShut
import Derived.ShutString
import Derived.ChangeOld
import Derived.Below
namespace Go.Proofs.Qxb6623333a
open Go.ChangeShapes Go.WideShapes Go.ChangeAt Go.RowKit
set_option linter.unusedVariables false

theorem own : ownKnob Try.prog.godebug = none := by kernel_rfl
theorem laidOut : laidOutB Try.prog = true := by kernel_rfl

theorem law_any (a : Option Addr) (m ca : Nat) (b : Option Addr) (n cb : Nat) (qs : Nat → ZE) (ps : Nat → ZP) (x : ZP) (i j : Int) (w : World) (ha : ZEsIs w a m qs) (hb : ZPsIs w b n ps) (hx : x.ok w) (hcb : n ≤ cb) :
    Calls Try.prog 4 #[.slice a m ca, .slice b n cb, .agg #[.string x.origin, .slice x.a x.n x.c], .int .i64 i, .int .i64 j] w fun e w' => e = .returned (.bool true) ∧ Below w.heap.size w w' :=
  law_head a m ca b n cb qs ps x i j w ha hb hx hcb fun w' hw => bytes_any a m ca b n cb qs ps x.origin x.a x.n x.c x.zs i j w' (ha.later hw) (hb.later hw) (hx.later hw)

/-! ### The row's step (after the guide's template) -/
set_option maxRecDepth 100000 in
theorem lifted (os : Os) (started : os.Started) (H : Type) (enc : TypeId × Value → H) :
    ReturnsInHanded {} Try.checked os 4 .any (Rows.fnAtOtherPathsIgnoredSpec.pre6 enc Try.prog Try.f4 Rows.fnAtOtherPathsIgnoredRow.domain false) (Rows.fnAtOtherPathsIgnoredSpec.post enc Try.prog Try.f4 false true false false) := by
  refine returnsInHanded_of_change (C := Try.checked) own started (by kernel_rfl) Try.func4
    (ChangeSpec.witness6 (enc := enc) (C := Try.checked) false ⟨#[], #[.slice none 0 0, .slice none 0 0, .agg #[.string ByteArray.empty, .slice none 0 0], .int .i64 0, .int .i64 0], []⟩ 8 (by kernel_rfl) (by kernel_rfl) (by kernel_rfl) (by kernel_rfl)) ?_
  intro W base args ds gs before hval0 hW hcnd _
  have hval : ∀ (j : Nat) t v, Try.f4.params[j]? = some t → args[j]? = some v → Value.okWide Try.prog W .any base t v := hval0
  have hW' := hW
  obtain ⟨p, q, hA0, hV, rfl, hfz, hnd⟩ := hW
  have hA : DataW.TrodAll enc Try.prog W 0 (fun _ => true) true Try.f4.params.toList args.toList ds p := hA0
  rw [Try.params4] at hA hval
  obtain ⟨v0, vs0, d0, ds0, p0, q0, hargs, rfl, rfl, h0, r0⟩ := trodAll_cons hA
  obtain ⟨v1, vs1, d1, ds1, p1, q1, rfl, rfl, rfl, h1, r1⟩ := trodAll_cons r0
  obtain ⟨v2, vs2, d2, ds2, p2, q2, rfl, rfl, rfl, h2, r2⟩ := trodAll_cons r1
  obtain ⟨v3, vs3, d3, ds3, p3, q3, rfl, rfl, rfl, h3, r3⟩ := trodAll_cons r2
  obtain ⟨v4, vs4, d4, ds4, p4, q4, rfl, rfl, rfl, h4, r4⟩ := trodAll_cons r3
  obtain ⟨rfl, rfl, rfl⟩ := trodAll_nil r4
  obtain rfl : args = #[v0, v1, v2, v3, v4] := by cases args; simp_all
  obtain ⟨rfl, rfl⟩ := trodVars_none hV
  have k0 := h0
  have k1 := h1
  have k2 := h2
  have lt0 : ∀ x ∈ p0, x.block < W.heap.size := by obtain ⟨m, hm⟩ := k0; exact DataW.trod_lt m _ _ _ hm
  have lt1 : ∀ x ∈ p1, x.block < W.heap.size := by obtain ⟨m, hm⟩ := k1; exact DataW.trod_lt m _ _ _ hm
  have lt2 : ∀ x ∈ p2, x.block < W.heap.size := by obtain ⟨m, hm⟩ := k2; exact DataW.trod_lt m _ _ _ hm
  obtain ⟨a0, len0, cap0, rfl⟩ := okWide_slice Try.underlying22 (hval 0 22 v0 rfl rfl)
  obtain ⟨a1, len1, cap1, rfl⟩ := okWide_slice Try.underlying23 (hval 1 23 v1 rfl rfl)
  obtain ⟨c2, rfl, hsz2⟩ := okWide_struct Try.underlying38 (hval 2 38 v2 rfl rfl)
  obtain ⟨qs, hqs⟩ : ∃ qs, ZEsIs W a0 len0 qs := by
    obtain ⟨fuel, hf⟩ := h0
    obtain ⟨a, n, c, zs, hcs, _, hz⟩ := elems_down hf
    simp [Value.cells] at hcs
    obtain ⟨rfl, rfl, rfl⟩ := hcs
    exact ⟨zs, hz⟩
  obtain ⟨ps, hcb, hps⟩ : ∃ ps, len1 ≤ cap1 ∧ ZPsIs W a1 len1 ps := by
    obtain ⟨fuel, hf⟩ := h1
    obtain ⟨a, n, c, zs, hcs, hc, hz⟩ := paths_down hf
    simp [Value.cells] at hcs
    obtain ⟨rfl, rfl, rfl⟩ := hcs
    exact ⟨zs, hc, hz⟩
  obtain ⟨x, hc2, hx⟩ : ∃ x : ZP, c2 = #[.string x.origin, .slice x.a x.n x.c] ∧ x.ok W := by
    obtain ⟨fuel, hf⟩ := h2
    obtain ⟨x, hcs, hx⟩ := path_down hf
    have hcl : c2.toList = [Value.string x.origin, Value.slice x.a x.n x.c] := by simpa [Value.cells] using hcs
    exact ⟨x, Array.ext' (by simpa using hcl), hx⟩
  subst hc2
  obtain ⟨a3, rfl, rfl, rfl, w3⟩ := open_int Try.underlying3 (hval 3 3 v3 rfl rfl) h3
  obtain ⟨a4, rfl, rfl, rfl, w4⟩ := open_int Try.underlying3 (hval 4 3 v4 rfl rfl) h4
  clear hA0 hval0
  refine (law_any a0 len0 cap0 a1 len1 cap1 qs ps x a3 a4 W hqs hps hx hcb).mono fun e W' ⟨he, bel⟩ => ?_
  subst he
  exact ⟨_, rfl, _, _, _, [], _, [], hW', trodAll_mk1 (shut_bool Try.underlying4 _), (trodAll_cons_mk (Below.trod laidOut (by kernel_rfl) (of_decide_eq_true (by kernel_rfl)) k0 bel lt0) (trodAll_cons_mk (Below.trod laidOut (by kernel_rfl) (of_decide_eq_true (by kernel_rfl)) k1 bel lt1) (trodAll_cons_mk (Below.trod laidOut (by kernel_rfl) (of_decide_eq_true (by kernel_rfl)) k2 bel lt2) (trodAll_cons_mk (shut_int Try.underlying3 w3) (trodAll_cons_mk (shut_int Try.underlying3 w4) trodAll_mk0))))), rfl, bel.frame _, fun h => by cases h⟩

/-- The given statement. -/
theorem at_other_paths_ignored : Rows.FnAtOtherPathsIgnoredSaid :=
  OpenClaim.holds_of_wide 4 Try.f4 rfl rfl rfl rfl rfl rfl rfl ⟨rfl, rfl, rfl, rfl, rfl⟩ rfl rfl rfl rfl rfl (by kernel_rfl) Try.func4 (by kernel_rfl)
    (of_decide_eq_true (by kernel_rfl)) (by unfold Func.isWrapper; first | (rw [if_pos (by decide +kernel)]; kernel_rfl) | (rw [if_neg (by decide +kernel)]; exact ⟨rfl, rfl⟩))
    (fun os started H enc _ => lifted os started H enc)
end Go.Proofs.Qxb6623333a
