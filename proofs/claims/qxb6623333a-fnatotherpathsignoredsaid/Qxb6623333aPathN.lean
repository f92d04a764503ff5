/- Seat b6623333a: THE WALK of zzPathMatches where one of the two lists, or both, are empty; then at every input. -/
import Derived.Test.Qxb6623333aPathM
namespace Go.Proofs.Qxb6623333a
open Go.RowKit Go.Maps
set_option maxRecDepth 100000

theorem wrap_one (j : Nat) (h : j ≤ 4194304) : IntKind.i64.wrap (j : Int) = (j : Int) := by
  rw [IntKind.wrap_i64]
  omega

set_option maxHeartbeats 1600000 in
/-- No head. -/
theorem path_right (o : ByteArray) (rb ro n c : Nat) (a : Option Addr) (ca bb bo cb : Nat) (zs : Nat → ZE) (M : Nat → Option Nat) (w : World) (HB : Hid (ArgL w bb bo n zs)) (HR : Hid (RowL w rb ro n zs M)) (hn : n ≤ 1048576) :
    Calls Try.prog 11 #[.agg #[.string o, .slice (some ⟨rb, ro, none⟩) n c], .string o, .slice a 0 ca, .slice (some ⟨bb, bo, none⟩) n cb] w fun e w' => e = .returned (.bool true) ∧ Below w.heap.size w w' := by
  go_enter Try.func11, Try.ntmps11
  go_wp2
  refine wp_loop_rounds 1 ?_
  rw [rounds_succ]
  go_wp2
  go_loopw [10] (fun i wr => ∃ j : Nat, j ≤ n ∧ i = .int .i64 j ∧ Below (w.heap.size + 1) (w.alloc (.cells #[.string o, .slice (some ⟨rb, ro, none⟩) n c] 28)) wr) (fun i _ => n - (intOf i).toNat)
  case atStart => exact ⟨0, Nat.zero_le _, rfl, Below.refl _ _⟩
  case round =>
    obtain ⟨j, hj, rfl, hbel⟩ := hrel
    by_cases hlt : j < n
    · have x1 : wr.cell? ⟨w.heap.size, 1, none⟩ = some (.slice (some ⟨rb, ro, none⟩) n c) := by rw [hbel.cell (by simp)]; simp
      have hbw : Below w.heap.size w wr := ((Below.refl _ _).alloc (Nat.le_refl _) _).trans (hbel.mono (by simp))
      obtain ⟨r0, r1, rm⟩ := HR.out wr hbw j hlt
      obtain ⟨a0, a1, a2, aok⟩ := HB.out wr hbw j hlt
      have hjm : (j : Int) < (n : Int) := by omega
      have hwr := wrap_one j (by omega)
      clear hbw
      go_wp2
      go_region_with (go_at_call 16; refine (elem_any (zs j) (M j) _ (by exact aok) (by exact rm)).mono ?_; rintro e w1 ⟨rfl, hb1⟩)
      all_goals
        go_wp2
        go_roundw
        case rel => exact ⟨j + 1, by omega, by go_num, hbel.trans (((Below.refl _ _).drew.trans hb1).mono (by have := hbel.size; simpa using this))⟩
        case measure => simp [intOf]; omega
    · go_wp2
      go_ret
      exact ⟨rfl, ((Below.refl _ _).alloc (Nat.le_refl _) _).trans (hbel.mono (by simp))⟩

set_option maxHeartbeats 1600000 in
/-- A path without elements. -/
theorem path_left (o : ByteArray) (rb ro m c : Nat) (ab ao ca : Nat) (b : Option Addr) (cb : Nat) (qs : Nat → ZE) (M : Nat → Option Nat) (w : World) (HA : Hid (ArgL w ab ao m qs)) (HR : Hid (RowL w rb ro m qs M)) (hm : m ≤ 1048576) :
    Calls Try.prog 11 #[.agg #[.string o, .slice (some ⟨rb, ro, none⟩) m c], .string o, .slice (some ⟨ab, ao, none⟩) m ca, .slice b 0 cb] w fun e w' => e = .returned (.bool true) ∧ Below w.heap.size w w' := by
  go_enter Try.func11, Try.ntmps11
  go_wp2
  go_loopw [9] (fun i wr => ∃ j : Nat, j ≤ m ∧ i = .int .i64 j ∧ Below (w.heap.size + 1) (w.alloc (.cells #[.string o, .slice (some ⟨rb, ro, none⟩) m c] 28)) wr) (fun i _ => m - (intOf i).toNat)
  case atStart => exact ⟨0, Nat.zero_le _, rfl, (Below.refl _ _)⟩
  case round =>
    obtain ⟨j, hj, rfl, hbel⟩ := hrel
    by_cases hlt : j < m
    · have x1 : wr.cell? ⟨w.heap.size, 1, none⟩ = some (.slice (some ⟨rb, ro, none⟩) m c) := by rw [hbel.cell (by simp)]; simp
      have hbw : Below w.heap.size w wr := ((Below.refl _ _).alloc (Nat.le_refl _) _).trans (hbel.mono (by simp))
      obtain ⟨r0, r1, rm⟩ := HR.out wr hbw j hlt
      obtain ⟨a0, a1, a2, aok⟩ := HA.out wr hbw j hlt
      have hjm : (j : Int) < (m : Int) := by omega
      clear hbw
      go_wp2
      go_region_with (go_at_call 16; refine (elem_any (qs j) (M j) _ (by exact aok) (by exact rm)).mono ?_; rintro e w1 ⟨rfl, hb1⟩)
      all_goals
        go_wp2
        go_roundw
        case rel => exact ⟨j + 1, by omega, by go_num, hbel.trans (((Below.refl _ _).drew.trans hb1).mono (by have := hbel.size; simpa using this))⟩
        case measure => simp [intOf]; omega
    · go_wp2
      refine wp_loop_rounds 1 ?_
      rw [rounds_succ]
      go_wp2
      go_ret
      exact ⟨rfl, ((Below.refl _ _).alloc (Nat.le_refl _) _).trans (hbel.mono (by simp))⟩

/-- Neither has elements. -/
theorem path_none (o : ByteArray) (R : Option Addr) (c : Nat) (a : Option Addr) (ca : Nat) (b : Option Addr) (cb : Nat) (w : World) :
    Calls Try.prog 11 #[.agg #[.string o, .slice R 0 c], .string o, .slice a 0 ca, .slice b 0 cb] w fun e w' => e = .returned (.bool true) ∧ Below w.heap.size w w' := by
  go_enter Try.func11, Try.ntmps11
  go_wp2
  refine wp_loop_rounds 1 ?_
  rw [rounds_succ]
  go_wp2
  refine wp_loop_rounds 1 ?_
  rw [rounds_succ]
  go_wp2
  go_ret
  exact ⟨rfl, (Below.refl _ _).alloc (Nat.le_refl _) _⟩

theorem ElsIs.rowL {w : World} {rb ro N : Nat} {ks : Nat → ZE} {M : Nat → Option Nat} (h : ∀ j, j < N → w.cell? ⟨rb, ro + j * 2, none⟩ = some (.string (ks j).name) ∧ w.cell? ⟨rb, ro + j * 2 + 1, none⟩ = some (.map (M j)) ∧ MapIs w (M j) (ks j)) : Hid (RowL w rb ro N ks M) :=
  fun _ hW j hj => ⟨cell_keeps hW (h j hj).1, cell_keeps hW (h j hj).2.1, (h j hj).2.2.later hW⟩
theorem ZEsIs.argL {w : World} {a : Option Addr} {n : Nat} {zs : Nat → ZE} (h : ZEsIs w a n zs) (hn : 0 < n) : ∃ ab ao, a = some ⟨ab, ao, none⟩ ∧ Hid (ArgL w ab ao n zs) := by
  obtain ⟨ab, ao, ha, hc⟩ := h.2.2 hn
  exact ⟨ab, ao, ha, fun _ hW j hj => ⟨cell_keeps hW (hc j hj).1, cell_keeps hW (hc j hj).2.1, cell_keeps hW (hc j hj).2.2, (h.2.1 j hj).later hW⟩⟩

/-- zzPathMatches AT EVERY INPUT that At made. -/
theorem path_any (o : ByteArray) (R : Option Addr) (m n c : Nat) (a : Option Addr) (ca : Nat) (b : Option Addr) (cb : Nat) (qs zs : Nat → ZE) (w : World) (hR : ElsIs w R (m + n) (cat m qs zs)) (ha : ZEsIs w a m qs) (hb : ZEsIs w b n zs) (hm : m ≤ 1048576) (hn : n ≤ 1048576) :
    Calls Try.prog 11 #[.agg #[.string o, .slice R (m + n) c], .string o, .slice a m ca, .slice b n cb] w fun e w' => e = .returned (.bool true) ∧ Below w.heap.size w w' := by
  by_cases hm0 : m = 0
  · subst hm0
    rw [Nat.zero_add] at hR ⊢
    by_cases hn0 : n = 0
    · subst hn0
      exact path_none o R c a ca b cb w
    · obtain ⟨rb, ro, M, rfl, hr⟩ := (hR.congr (zs' := zs) fun i _ => by simp [cat]).2 (by omega)
      obtain ⟨bb, bo, rfl, HB⟩ := hb.argL (by omega)
      exact path_right o rb ro n c a ca bb bo cb zs M w HB (ElsIs.rowL hr) hn
  · obtain ⟨ab, ao, rfl, HA⟩ := ha.argL (by omega)
    by_cases hn0 : n = 0
    · subst hn0
      obtain ⟨rb, ro, M, rfl, hr⟩ := (hR.congr (zs' := qs) fun i hi => cat_lo hi).2 (by omega)
      exact path_left o rb ro m c ab ao ca b cb qs M w HA (ElsIs.rowL hr) hm
    · obtain ⟨rb, ro, M, rfl, hr⟩ := hR.2 (by omega)
      obtain ⟨bb, bo, rfl, HB⟩ := hb.argL (by omega)
      exact path_both o rb ro m n c ab ao ca bb bo cb qs zs M w HA HB (ElsIs.rowL hr) hm hn
end Go.Proofs.Qxb6623333a
