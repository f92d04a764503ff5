/- Seat b6623333a: THE WALK of zzSize. -/
import Derived.Test.Qxb6623333aSizes
namespace Go.Proofs.Qxb6623333a
open Go.RowKit Go.Maps
set_option maxRecDepth 100000

set_option maxHeartbeats 400000 in
theorem size_zero (a : Option Addr) (m ca : Nat) (b : Option Addr) (cb : Nat) (qs : Nat → ZE) (w : World) (ha : ZEsIs w a m qs) :
    Calls Try.prog 6 #[.slice a m ca, .slice b 0 cb] w fun e w' => IsInt e ∧ Below w.heap.size w w' := by
  go_enter Try.func6, Try.ntmps6
  go_wp2_with fail
  refine (addElems _ _ _ _ qs _ ha).mono ?_
  rintro e w1 ⟨hr, hw⟩; obtain ⟨r, hr⟩ := hr; subst hr; obtain rfl := hw.symm; clear hw
  go_wp2
  refine wp_loop_rounds 1 ?_
  rw [rounds_succ]
  go_wp2
  go_ret
  exact ⟨isInt_mk _, Below.refl _ _⟩

set_option maxHeartbeats 800000 in
theorem size_pos (a : Option Addr) (m ca bb bo n cb : Nat) (qs : Nat → ZE) (ps : Nat → ZP) (w : World) (ha : ZEsIs w a m qs) (hb : ZPsIs w (some ⟨bb, bo, none⟩) n ps) (h0 : 0 < n) :
    Calls Try.prog 6 #[.slice a m ca, .slice (some ⟨bb, bo, none⟩) n cb] w fun e w' => IsInt e ∧ Below w.heap.size w w' := by
  obtain ⟨hn, h2, h3⟩ := hb
  obtain ⟨b', off', hx, hc⟩ := h3 h0
  simp only [Option.some.injEq, Addr.mk.injEq, and_true] at hx
  obtain ⟨rfl, rfl⟩ := hx
  clear h3
  unfold maxLen at hn
  by_cases hs : (65536 : Int) < (n : Int)
  · go_enter Try.func6, Try.ntmps6
    go_wp2
    go_ret
    exact ⟨isInt_mk _, Below.refl _ _⟩
  · have HC : Hid (∀ W, Below w.heap.size w W → ∀ j, j < n → W.cell? ⟨bb, bo + j * 2, none⟩ = some (.string (ps j).origin) ∧ W.cell? ⟨bb, bo + j * 2 + 1, none⟩ = some (.slice (ps j).a (ps j).n (ps j).c) ∧ (ps j).ok W) :=
      fun W hW j hj => ⟨cell_keeps hW (hc j hj).1, cell_keeps hW (hc j hj).2, (h2 j hj).later hW⟩
    clear hc h2
    go_enter Try.func6, Try.ntmps6
    go_wp2_with fail
    refine (addElems _ _ _ _ qs _ ha).mono ?_
    rintro e w1 ⟨hr, hw⟩; obtain ⟨r, hr⟩ := hr; subst hr; obtain rfl := hw.symm; clear hw
    go_wp2
    go_loopw [5, 6] (fun z i wr => ∃ (j : Nat) (q : Int), j ≤ n ∧ i = .int .i64 j ∧ z = .int .i64 q ∧ Below w.heap.size w wr) (fun _ i _ => n - (intOf i).toNat)
    case atStart => exact ⟨0, _, Nat.zero_le _, rfl, rfl, Below.refl _ _⟩
    case round =>
      obtain ⟨j, q, hj, rfl, rfl, hbel⟩ := hrel
      by_cases hlt : j < n
      · obtain ⟨c0, c1, hok⟩ := HC.out wr hbel j hlt
        have hjn : (j : Int) < (n : Int) := by omega
        by_cases hq : q ≤ 1048576
        · go_wp2_with fail
          refine (addPath _ (ps j) _ hok).mono ?_
          rintro e w1 ⟨hr, hb1⟩; obtain ⟨r2, hr⟩ := hr; subst hr
          go_wp2
          go_roundw
          case rel => exact ⟨j + 1, _, by omega, by go_num, rfl, hbel.trans (hb1.mono hbel.size)⟩
          case measure => simp [intOf]; omega
        · have hq2 : 1048576 < q := by omega
          go_wp2
          go_ret
          exact ⟨isInt_mk _, hbel⟩
      · go_wp2
        go_ret
        exact ⟨isInt_mk _, hbel⟩

theorem size_any (a : Option Addr) (m ca : Nat) (b : Option Addr) (n cb : Nat) (qs : Nat → ZE) (ps : Nat → ZP) (w : World) (ha : ZEsIs w a m qs) (hb : ZPsIs w b n ps) :
    Calls Try.prog 6 #[.slice a m ca, .slice b n cb] w fun e w' => IsInt e ∧ Below w.heap.size w w' := by
  by_cases h0 : n = 0
  · subst h0
    exact size_zero a m ca b cb qs w ha
  · obtain ⟨bb, bo, rfl, _⟩ := hb.2.2 (by omega)
    exact size_pos a m ca bb bo n cb qs ps w ha hb (by omega)
end Go.Proofs.Qxb6623333a
