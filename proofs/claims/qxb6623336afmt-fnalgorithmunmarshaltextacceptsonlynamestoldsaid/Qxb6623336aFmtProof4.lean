/- Seat b6623336aF: the told and tied card of FnAlgorithmUnmarshalTextAcceptsOnlyNames. -/
import Derived.Test.Qxb6623336aFmtLaid
import Derived.Test.Qxb6623336aFmtTie
import Derived.Test.Qxb6623336aFmtCards
namespace Go.Proofs.Qxb6623336aFmt
open Go.ChangeShapes Go.WideShapes Go.ChangeAt Go.RowKit Go.Kit
open Go.Extern.Stop Go.Stop Go.Extern

theorem stops_are : Tryf.pinned.checked.prog.stops = ["fmt.errorf"] := by kernel_rfl
theorem no_knobs : Tryf.pinned.checked.prog.stopKnobs = [] := by kernel_rfl
theorem quiet_any (os : Os) : Stop.quiet Tryf.pinned.checked.prog os := by
  intro k hk
  rw [no_knobs] at hk
  cases hk

/-- The text, as the walk wants it. -/
theorem open_text {H : Type} {enc : TypeId × Value → H} {W : World} {base : Nat} {v : Value} {d : DataW H} {p : List MemPlace}
    (hv : Value.okWide Tryf.prog W .any base 23 v) (h : DataW.Trod enc Tryf.prog W 0 (fun _ => true) true 23 v d p) : ∃ xs, BytesIs W v xs := by
  obtain ⟨a0, len, cap, rfl⟩ := okWide_slice Tryf.underlying23 hv
  obtain ⟨fuel, hf⟩ := h
  rcases open_ints Tryf.underlying23 Tryf.underlying5 cells5 hf with ⟨hcs, _⟩ | ⟨a, len', cap', zs, hcs, _, hl, hm, hz, _, hcell, _⟩
  · simp [Value.cells] at hcs
    obtain ⟨rfl, rfl, rfl⟩ := hcs
    exact ⟨[], Or.inl ⟨rfl, rfl⟩⟩
  · simp [Value.cells] at hcs
    obtain ⟨rfl, rfl, rfl⟩ := hcs
    simp only [if_true] at hz
    have hlen : (zs.take len).length = len := by rw [List.length_take]; omega
    refine ⟨zs.take len, Or.inr ⟨a, cap, by rw [hlen], ?_⟩⟩
    intro j u hj
    rw [List.getElem?_map] at hj
    obtain ⟨z, hz1, rfl⟩ := Option.map_eq_some_iff.1 hj
    have hjl : j < len := by
      have := (List.getElem?_eq_some_iff.1 hz1).1
      omega
    rw [hcell j (by omega)]
    rw [List.getElem?_take_of_lt hjl] at hz1
    simp [List.getD, hz1]

set_option maxRecDepth 100000 in
theorem lifted4 (os : Os) (started : os.Started) (H : Type) (enc : TypeId × Value → H) :
    ReturnsInTold none {} Tryf.checked os 4 .any Input.okWide ((OpenSpec.ofChange Rows.fnAlgorithmUnmarshalTextAcceptsOnlyNamesSpec).preRow enc Tryf.prog Tryf.f4 [] false Rows.fnAlgorithmUnmarshalTextAcceptsOnlyNamesRow.laid)
      (fun F => ((OpenSpec.ofChange Rows.fnAlgorithmUnmarshalTextAcceptsOnlyNamesSpec).at F).post enc Tryf.prog Tryf.f4 false true false false) (aloneAtReturn Tryf.prog) nothingAlways := by
  refine returnsInTold_of_row (C := Tryf.checked) (s := OpenSpec.ofChange Rows.fnAlgorithmUnmarshalTextAcceptsOnlyNamesSpec) (by kernel_rfl) own_none started (by kernel_rfl) Tryf.func4
    (OpenSpec.witness_stopped_at (enc := enc) (C := Tryf.checked) false (laidW (World.holding Tryf.prog os ⟨#[], #[], []⟩)) #[.slice none 0 0, .int .i64 1] rfl (by kernel_rfl) (by kernel_rfl) (by kernel_rfl)
      (OpenSpec.preRow_of_B rfl 8 (by kernel_rfl) (by kernel_rfl) (laid_met os _))) ?_
  intro F W base args ds gs before _ hF hval0 hW _ _ _ hL _
  have hval : ∀ (j : Nat) t v, Tryf.f4.params[j]? = some t → args[j]? = some v → Value.okWide Tryf.prog W .any base t v := hval0
  have hW' := hW
  obtain ⟨p, q, hA0, hV, rfl, _, _⟩ := hW
  have hA : DataW.TrodAll enc Tryf.prog W 0 (fun _ => true) true Tryf.f4.params.toList args.toList ds p := hA0
  rw [Tryf.params4] at hA hval
  obtain ⟨v0, v1, d0, d1, p0, p1, rfl, rfl, rfl, h0, h1⟩ := trodAll_two hA
  obtain ⟨rfl, rfl⟩ := trodVars_none hV
  obtain ⟨b, rfl, rfl, rfl, wb⟩ := open_int Tryf.underlying3 (hval 1 3 v1 rfl rfl) h1
  obtain ⟨xs, hx⟩ := open_text (hval 0 23 v0 rfl rfl) h0
  clear hA0 hval0
  simp only [List.append_nil] at hW'
  have hlt : ∀ x ∈ p0, x.block < W.heap.size := fun x hx => by simpa using hW'.lt x hx
  refine (accepts_any F.told v0 xs b W hF hx).mono fun e W' ⟨he, bel⟩ => ?_
  subst he
  exact ⟨_, rfl, _, _, _, [], _, [], hW', trodAll_mk1 (shut_bool Tryf.underlying4 _), trodAll_mk2 (Below.trod laidOut (by kernel_rfl) (of_decide_eq_true (by kernel_rfl)) h0 bel hlt) (shut_int Tryf.underlying3 wb), rfl, bel.frame _, fun h => by cases h⟩

/-- The given statement. -/
theorem unmarshal_accepts_only_names : Rows.FnAlgorithmUnmarshalTextAcceptsOnlyNamesToldSaid :=
  Claim7.holds_of_told_tied_any_at .later 4 Tryf.f4 "fmt.errorf" [] [] _ _ _ _ _ (by kernel_rfl) rfl rfl rfl laidOut (by kernel_rfl) rfl ⟨rfl, rfl, rfl, rfl, rfl, rfl, rfl⟩ rfl rfl (by kernel_rfl) (by kernel_rfl) Tryf.func4 (by kernel_rfl)
    (of_decide_eq_true (by kernel_rfl)) (of_decide_eq_true (by kernel_rfl)) stops_are.symm rfl no_knobs.symm (by kernel_rfl)
    (by kernel_rfl) (by kernel_rfl) (by kernel_rfl) (by kernel_rfl) (by kernel_rfl) (by kernel_rfl) (by kernel_rfl) (by kernel_rfl) (by kernel_rfl) rfl (by kernel_rfl) rfl rfl
    rfl rfl
    rfl (by kernel_rfl) (by kernel_rfl) (by kernel_rfl) (by decide) (by kernel_rfl) fnAlgorithmUnmarshalTextAcceptsOnlyNames_row_tie
    (OpenClaim.moreEntering_of (by kernel_rfl) (by kernel_rfl) (by kernel_rfl) (by kernel_rfl) (by kernel_rfl) (by kernel_rfl) (by kernel_rfl) (by kernel_rfl) (by kernel_rfl) (by kernel_rfl))
    ⟨_, WideRow.started_initial, quiet_any _⟩
    (fun os started _ H enc _ => lifted4 os started H enc)

end Go.Proofs.Qxb6623336aFmt
