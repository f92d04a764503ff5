/- Seat b6623333a: THE WALK of zzPaths. -/
import Derived.Test.Qxb6623333aElems
namespace Go.Proofs.Qxb6623333a
open Go.RowKit Go.Maps
set_option maxRecDepth 100000

theorem Try.info28 : (Try.prog.info? 28).map (fun i => (i.zero, i.size, i.bytes)) = some (some (.agg #[.string ⟨#[]⟩, .slice none 0 0]), 2, 40) := by kernel_rfl

/-- The row that zzPaths fills, behind j rounds. -/
def PathsPart (w wr : World) (n j : Nat) (ps : Nat → ZP) : Prop :=
  ∃ (f : Nat → Value) (A : Nat → Option Addr) (C : Nat → Nat), wr.rowIs w.heap.size 28 (n * 2) f ∧
    (∀ i, i < j → f (i * 2) = .string (ps i).origin ∧ f (i * 2 + 1) = .slice (A i) (ps i).n (C i) ∧ ElsFrom wr (w.heap.size + 1) (A i) (ps i).n (ps i).zs) ∧ Below w.heap.size w wr

theorem PathsPart.step {w wr w1 : World} {n j : Nat} {ps : Nat → ZP} (h : PathsPart w wr n j ps) (hj : j < n) {r : Option Addr} {c : Nat} (hb : Below wr.heap.size wr w1) (hm : ElsFrom w1 wr.heap.size r (ps j).n (ps j).zs) :
    PathsPart w ((w1.setCell ⟨w.heap.size, j * 2, none⟩ (.string (ps j).origin)).setCell ⟨w.heap.size, j * 2 + 1, none⟩ (.slice r (ps j).n c)) n (j + 1) ps := by
  obtain ⟨f, A, C, hrow, hall, hbel⟩ := h
  have hlt := hrow.lt
  have hrow1 : w1.rowIs w.heap.size 28 (n * 2) f := hrow.of_block (hb.block _ hlt)
  refine ⟨_, fun i => if i = j then r else A i, fun i => if i = j then c else C i, (hrow1.set (j * 2) (.string (ps j).origin)).set (j * 2 + 1) (.slice r (ps j).n c), ?_, ?_⟩
  · intro i hi
    by_cases e : i = j
    · subst e
      exact ⟨by simp, by simp, by simpa using ((hm.mono (show w.heap.size + 1 ≤ wr.heap.size by omega)).setCell (Nat.lt_succ_self _) _).setCell (Nat.lt_succ_self _) _⟩
    · obtain ⟨h1, h2, h3⟩ := hall i (by omega)
      have e1 : ¬ i * 2 = j * 2 + 1 := by omega
      have e2 : ¬ i * 2 = j * 2 := by omega
      have e4 : ¬ i * 2 + 1 = j * 2 := by omega
      refine ⟨by simp [e1, e2, h1], by simp [e2, e4, e, h2], ?_⟩
      simpa [e] using ((h3.later hb).setCell (Nat.lt_succ_self _) _).setCell (Nat.lt_succ_self _) _
  · exact ((hbel.trans (hb.mono (Nat.le_of_lt hlt))).setCell (by simp) _).setCell (by simp) _

theorem PathsPart.done {w wr : World} {n : Nat} {ps : Nat → ZP} (h : PathsPart w wr n n ps) (hn : n ≤ maxLen) : PathsIs wr (some ⟨w.heap.size, 0, none⟩) n ps ∧ Below w.heap.size w wr := by
  obtain ⟨f, A, C, hrow, hall, hbel⟩ := h
  refine ⟨⟨hn, fun _ => ⟨w.heap.size, 0, A, C, rfl, fun j hj => ?_⟩⟩, hbel⟩
  obtain ⟨h1, h2, h3⟩ := hall j hj
  refine ⟨?_, ?_, h3.is⟩
  · rw [Nat.zero_add, hrow.cell (by omega), h1]
  · rw [Nat.zero_add, hrow.cell (by omega), h2]

theorem PathsPart.start {w w0 : World} {n : Nat} {xs : List Value} {ps : Nat → ZP} (h : w0.ownsRow w.heap.size 28 2 (.slice (some ⟨w.heap.size, 0, none⟩) n n) n xs) (hg : w.grownBy w0 none) : PathsPart w w0 n 0 ps := by
  have hb0 : Below w.heap.size w w0 := (Below.refl _ _).grown hg (Nat.le_refl _) (fun k h => by cases h)
  rcases h.2 with ⟨h', _⟩ | ⟨g', cap', cur, h', _, hh, _, _, hs, _⟩
  · simp at h'
  · simp only [Value.slice.injEq, Option.some.injEq, Addr.mk.injEq, and_true, true_and] at h'
    obtain ⟨rfl, rfl⟩ := h'
    refine ⟨fun i => cur[i]?.getD undef, fun _ => none, fun _ => 0, ⟨cur, hh, hs, fun i hi => ?_⟩, fun i hi => by omega, hb0⟩
    simp [Array.getElem?_eq_getElem (show i < cur.size by omega)]

theorem PathsPart.cells {w wr : World} {n j : Nat} {ps : Nat → ZP} (h : PathsPart w wr n j ps) (hj : j < n) :
    ∃ v0 v1, wr.cell? ⟨w.heap.size, j * 2, none⟩ = some v0 ∧ wr.cell? ⟨w.heap.size, j * 2 + 1, none⟩ = some v1 ∧ wr.frozen? ⟨w.heap.size, j * 2, none⟩ = false ∧ wr.frozen? ⟨w.heap.size, j * 2 + 1, none⟩ = false := by
  obtain ⟨f, A, C, hrow, _⟩ := h
  exact ⟨_, _, hrow.cell (by omega), hrow.cell (by omega), hrow.frozen _, hrow.frozen _⟩

theorem paths_nil (c : Nat) (ps : Nat → ZP) (w : World) :
    Calls Try.prog 8 #[.slice none 0 c] w fun e w' => ∃ (r : Option Addr) (c' : Nat), e = .returned (.slice r 0 c') ∧ PathsIs w' r 0 ps ∧ Below w.heap.size w w' := by
  have hnil := fun w => Lib.run_eql_slice_nil (P := Try.prog) w 23 38 none 0 c 0 0 Try.underlying23
  go_enter Try.func8, Try.ntmps8
  go_wp2
  go_ret
  exact ⟨_, _, rfl, ⟨Nat.zero_le _, fun h => by omega⟩, Below.refl _ _⟩

theorem paths_zero (x : Addr) (c : Nat) (ps : Nat → ZP) (w : World) :
    Calls Try.prog 8 #[.slice (some x) 0 c] w fun e w' => ∃ (r : Option Addr) (c' : Nat), e = .returned (.slice r 0 c') ∧ PathsIs w' r 0 ps ∧ Below w.heap.size w w' := by
  obtain ⟨i0, hi, hz0, hz1, hz2⟩ := info_parts Try.info28
  have hnil := fun w => Lib.run_eql_slice_nil (P := Try.prog) w 23 38 (some x) 0 c 0 0 Try.underlying23
  go_enter Try.func8, Try.ntmps8
  go_wp2_with (at_make; refine wpList_make_full _ rfl _ _ 30 rfl w.heap.size 28 i0 (.agg #[.string ⟨#[]⟩, .slice none 0 0]) 2 Try.underlying30 hi hz0 hz1 _ _ _ _ 0 rfl rfl rfl rfl ?b2 ?b3 (Nat.le_refl _) ?_)
  case b2 => omega
  case b3 => unfold maxLen; omega
  intro w0 hown0 hgrow0
  have hb0 : Below w.heap.size w w0 := (Below.refl _ _).grown hgrow0 (Nat.le_refl _) (fun k h => by cases h)
  clear hown0 hgrow0
  go_wp2
  refine wp_loop_rounds 1 ?_
  rw [rounds_succ]
  go_wp2
  go_ret
  exact ⟨_, _, rfl, ⟨Nat.zero_le _, fun h => by omega⟩, hb0⟩

set_option maxHeartbeats 400000 in
theorem paths_pos (b off n c : Nat) (ps : Nat → ZP) (w : World) (h : ZPsIs w (some ⟨b, off, none⟩) n ps) (h0 : 0 < n) (hn : n ≤ 1048577) (hs : ∀ j, j < n → (ps j).n ≤ 1048576) :
    Calls Try.prog 8 #[.slice (some ⟨b, off, none⟩) n c] w fun e w' => ∃ (r : Option Addr) (c' : Nat), e = .returned (.slice r n c') ∧ PathsIs w' r n ps ∧ Below w.heap.size w w' := by
  obtain ⟨i0, hi, hz0, hz1, hz2⟩ := info_parts Try.info28
  have hnil := fun w => Lib.run_eql_slice_nil (P := Try.prog) w 23 38 (some ⟨b, off, none⟩) n c 0 0 Try.underlying23
  obtain ⟨h1, h2, h3⟩ := h
  obtain ⟨b', off', hx, hc⟩ := h3 h0
  simp only [Option.some.injEq, Addr.mk.injEq, and_true] at hx
  obtain ⟨rfl, rfl⟩ := hx
  clear h3
  go_enter Try.func8, Try.ntmps8
  go_wp2_with (at_make; refine wpList_make_full _ rfl _ _ 30 rfl w.heap.size 28 i0 (.agg #[.string ⟨#[]⟩, .slice none 0 0]) 2 Try.underlying30 hi hz0 hz1 _ _ _ _ n rfl rfl rfl rfl ?b2 ?b3 (Nat.le_refl _) ?_)
  case b2 => rw [hz2]; omega
  case b3 => unfold maxLen; omega
  intro w0 hown0 hgrow0
  have hp0 : PathsPart w w0 n 0 ps := PathsPart.start hown0 hgrow0
  clear hown0 hgrow0
  go_wp2
  go_loopw [4] (fun i wr => ∃ j : Nat, j ≤ n ∧ i = .int .i64 j ∧ PathsPart w wr n j ps) (fun i _ => n - (intOf i).toNat)
  case atStart => exact ⟨0, Nat.zero_le _, rfl, hp0⟩
  case round =>
    obtain ⟨j, hj, rfl, hp⟩ := hrel
    by_cases hlt : j < n
    · obtain ⟨cn, ck⟩ := hc j hlt
      have hbel : Below w.heap.size w wr := hp.choose_spec.choose_spec.choose_spec.2.2
      have cn' := cell_keeps hbel cn
      have ck' := cell_keeps hbel ck
      have hzj' := (h2 j hlt).later hbel
      have hsj := hs j hlt
      have hjn : (j : Int) < (n : Int) := by omega
      have hbne : b ≠ w.heap.size := Nat.ne_of_lt (World.block_lt_of_cell? _ _ cn)
      obtain ⟨v0, v1, q0, q1, f0, f1⟩ := hp.cells hlt
      have HP : Hid (PathsPart w wr n j ps) := hp
      clear hc h2 cn ck hp hbel hp0 hnil hs
      go_wp2
      go_region_with (go_at_call 7; refine (els_any (ps j).a (ps j).n (ps j).c (ps j).zs _ (by exact hzj') hsj).mono ?_; rintro e w1 ⟨r, c1, rfl, hc1, hm1, hb1⟩; have cn1 := cell_keeps hb1 cn'; have q01 := cell_keeps hb1 q0; have q11 := cell_keeps hb1 q1; have f01 := frozen_keeps hb1 q0 f0; have f11 := frozen_keeps hb1 q1 f1)
      all_goals
        go_wp2
        go_roundw
        case rel => exact ⟨j + 1, by omega, by go_num, HP.out.step hlt ((Below.refl _ _).drew.trans hb1) hm1⟩
        case measure => simp [intOf]; omega
    · obtain rfl : j = n := by omega
      obtain ⟨hd, hb⟩ := hp.done h1
      go_wp2
      go_ret
      exact ⟨_, _, rfl, hd, hb⟩

/-- zzPaths AT EVERY SLICE. -/
theorem paths_any (a : Option Addr) (n c : Nat) (ps : Nat → ZP) (w : World) (h : ZPsIs w a n ps) (hn : n ≤ 1048577) (hs : ∀ j, j < n → (ps j).n ≤ 1048576) :
    Calls Try.prog 8 #[.slice a n c] w fun e w' => ∃ (r : Option Addr) (c' : Nat), e = .returned (.slice r n c') ∧ PathsIs w' r n ps ∧ Below w.heap.size w w' := by
  by_cases h0 : n = 0
  · subst h0
    cases a with
    | none => exact paths_nil c ps w
    | some x => exact paths_zero x c ps w
  · obtain ⟨b, off, rfl, _⟩ := h.2.2 (by omega)
    exact paths_pos b off n c ps w h (by omega) hn hs
end Go.Proofs.Qxb6623333a
