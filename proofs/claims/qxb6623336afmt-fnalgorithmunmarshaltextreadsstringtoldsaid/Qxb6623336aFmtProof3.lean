/- Seat b6623336aF: the told and tied card of FnAlgorithmUnmarshalTextReadsString. -/
import Derived.Test.Qxb6623336aFmtLaid
import Derived.Test.Qxb6623336aFmtTie
import Derived.Test.Qxb6623336aFmtCards
namespace Go.Proofs.Qxb6623336aFmt
open Go.ChangeShapes Go.WideShapes Go.ChangeAt Go.RowKit Go.Kit
open Go.Extern.Stop Go.Stop Go.Extern

theorem stops_are : Tryf.pinned.checked.prog.stops = ["fmt.errorf"] := by kernel_rfl
theorem no_knobs : Tryf.pinned.checked.prog.stopKnobs = [] := by kernel_rfl
theorem quiet_any (os : Os) : Stop.quiet Tryf.pinned.checked.prog os := by
  intro k hk
  rw [no_knobs] at hk
  cases hk

theorem int_bounds {a : Int} (h : (Lit.int .i64 a).wf = true) : -9223372036854775808 ≤ a ∧ a ≤ 9223372036854775807 := by
  have := FmtText.int_bounds h
  simpa [IntKind.min, IntKind.max, IntKind.signed, IntKind.bits] using this

set_option maxRecDepth 100000 in
theorem lifted3 (os : Os) (started : os.Started) (H : Type) (enc : TypeId × Value → H) :
    ReturnsInTold none {} Tryf.checked os 3 .any Input.okWide ((OpenSpec.ofChange Rows.fnAlgorithmUnmarshalTextReadsStringSpec).preRow enc Tryf.prog Tryf.f3 [] false Rows.fnAlgorithmUnmarshalTextReadsStringRow.laid)
      (fun F => ((OpenSpec.ofChange Rows.fnAlgorithmUnmarshalTextReadsStringSpec).at F).post enc Tryf.prog Tryf.f3 false true false false) (aloneAtReturn Tryf.prog) nothingAlways := by
  refine returnsInTold_of_row (C := Tryf.checked) (s := OpenSpec.ofChange Rows.fnAlgorithmUnmarshalTextReadsStringSpec) (by kernel_rfl) own_none started (by kernel_rfl) Tryf.func3
    (OpenSpec.witness_stopped_at (enc := enc) (C := Tryf.checked) false (laidW (World.holding Tryf.prog os ⟨#[], #[], []⟩)) #[.int .i64 1, .int .i64 1] rfl (by kernel_rfl) (by kernel_rfl) (by kernel_rfl)
      (OpenSpec.preRow_of_B rfl 8 (by kernel_rfl) (by kernel_rfl) (laid_met os _))) ?_
  intro F W base args ds gs before _ hF hval0 hW _ _ _ hL _
  have hval : ∀ (j : Nat) t v, Tryf.f3.params[j]? = some t → args[j]? = some v → Value.okWide Tryf.prog W .any base t v := hval0
  have hW' := hW
  obtain ⟨p, q, hA0, hV, rfl, _, _⟩ := hW
  have hA : DataW.TrodAll enc Tryf.prog W 0 (fun _ => true) true Tryf.f3.params.toList args.toList ds p := hA0
  rw [Tryf.params3] at hA hval
  obtain ⟨v0, v1, d0, d1, p0, p1, rfl, rfl, rfl, h0, h1⟩ := trodAll_two hA
  obtain ⟨rfl, rfl⟩ := trodVars_none hV
  obtain ⟨a, rfl, rfl, rfl, wa⟩ := open_int Tryf.underlying3 (hval 0 3 v0 rfl rfl) h0
  obtain ⟨b, rfl, rfl, rfl, wb⟩ := open_int Tryf.underlying3 (hval 1 3 v1 rfl rfl) h1
  clear hA0 hval0
  obtain ⟨a0, a1⟩ := int_bounds wa
  refine (reads_any F.told a b a0 a1 W hF (tab_of hL)).mono fun e W' ⟨he, bel⟩ => ?_
  subst he
  exact ⟨_, rfl, _, _, _, [], [], [], hW', trodAll_mk1 (shut_bool Tryf.underlying4 _), trodAll_mk2 (shut_int Tryf.underlying3 wa) (shut_int Tryf.underlying3 wb), rfl, bel.frame _, fun h => by cases h⟩

/-- The given statement. -/
theorem unmarshal_reads_string : Rows.FnAlgorithmUnmarshalTextReadsStringToldSaid :=
  Claim7.holds_of_told_tied_any_at .later 3 Tryf.f3 "fmt.errorf" [] [] _ _ _ _ _ (by kernel_rfl) rfl rfl rfl laidOut (by kernel_rfl) rfl ⟨rfl, rfl, rfl, rfl, rfl, rfl, rfl⟩ rfl rfl (by kernel_rfl) (by kernel_rfl) Tryf.func3 (by kernel_rfl)
    (of_decide_eq_true (by kernel_rfl)) (of_decide_eq_true (by kernel_rfl)) stops_are.symm rfl no_knobs.symm (by kernel_rfl)
    (by kernel_rfl) (by kernel_rfl) (by kernel_rfl) (by kernel_rfl) (by kernel_rfl) (by kernel_rfl) (by kernel_rfl) (by kernel_rfl) (by kernel_rfl) rfl (by kernel_rfl) rfl rfl
    rfl rfl
    rfl (by kernel_rfl) (by kernel_rfl) (by kernel_rfl) (by decide) (by kernel_rfl) fnAlgorithmUnmarshalTextReadsString_row_tie
    (OpenClaim.moreEntering_of (by kernel_rfl) (by kernel_rfl) (by kernel_rfl) (by kernel_rfl) (by kernel_rfl) (by kernel_rfl) (by kernel_rfl) (by kernel_rfl) (by kernel_rfl) (by kernel_rfl))
    ⟨_, WideRow.started_initial, quiet_any _⟩
    (fun os started _ H enc _ => lifted3 os started H enc)

end Go.Proofs.Qxb6623336aFmt
