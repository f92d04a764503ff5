/- Seat b6623333a: THE WALK of zzElems. -/
import Derived.Test.Qxb6623333aMap
import Derived.Deep.OwnRows
import Derived.Deep.RegionWith
namespace Go.Proofs.Qxb6623333a
open Go.RowKit Go.Maps
set_option maxRecDepth 100000

theorem Try.info48 : (Try.prog.info? 48).map (fun i => (i.zero, i.size, i.bytes)) = some (some (.agg #[.string ⟨#[]⟩, .map none]), 2, 24) := by kernel_rfl

/-- The row that zzElems fills, behind j rounds. -/
def ElsPart (w wr : World) (n j : Nat) (zs : Nat → ZE) : Prop :=
  ∃ (f : Nat → Value) (M : Nat → Option Nat), wr.rowIs w.heap.size 48 (n * 2) f ∧
    (∀ i, i < j → f (i * 2) = .string (zs i).name ∧ f (i * 2 + 1) = .map (M i) ∧ MapIs wr (M i) (zs i) ∧ ∀ m, M i = some m → w.heap.size < m) ∧ Below w.heap.size w wr

theorem ElsPart.step {w wr w1 : World} {n j : Nat} {zs : Nat → ZE} (h : ElsPart w wr n j zs) (hj : j < n) {r : Option Nat} (hb : Below wr.heap.size wr w1) (hm : MapIs w1 r (zs j)) (hr : ∀ m, r = some m → wr.heap.size ≤ m) :
    ElsPart w ((w1.setCell ⟨w.heap.size, j * 2, none⟩ (.string (zs j).name)).setCell ⟨w.heap.size, j * 2 + 1, none⟩ (.map r)) n (j + 1) zs := by
  obtain ⟨f, M, hrow, hall, hbel⟩ := h
  have hlt := hrow.lt
  have hrow1 : w1.rowIs w.heap.size 48 (n * 2) f := hrow.of_block (hb.block _ hlt)
  have keep : ∀ (q : Option Nat) (z : ZE), MapIs w1 q z → (∀ m, q = some m → w.heap.size < m) →
      MapIs ((w1.setCell ⟨w.heap.size, j * 2, none⟩ (.string (zs j).name)).setCell ⟨w.heap.size, j * 2 + 1, none⟩ (.map r)) q z := by
    intro q z hq hlt2
    rcases hq with hq | ⟨h0, m, rfl, hown⟩
    · exact .inl hq
    · have := hlt2 m rfl
      exact .inr ⟨h0, m, rfl, (hown.setCell (a := ⟨w.heap.size, j * 2, none⟩) (by simp; omega) _).setCell (a := ⟨w.heap.size, j * 2 + 1, none⟩) (by simp; omega) _⟩
  refine ⟨_, fun i => if i = j then r else M i, (hrow1.set (j * 2) (.string (zs j).name)).set (j * 2 + 1) (.map r), ?_, ?_⟩
  · intro i hi
    by_cases e : i = j
    · subst e
      have hr' : ∀ m, r = some m → w.heap.size < m := fun m hm => Nat.lt_of_lt_of_le hlt (hr m hm)
      exact ⟨by simp, by simp, by simpa using keep r _ hm hr', by simpa using hr'⟩
    · obtain ⟨h1, h2, h3, h4⟩ := hall i (by omega)
      have e1 : ¬ i * 2 = j * 2 + 1 := by omega
      have e2 : ¬ i * 2 = j * 2 := by omega
      have e4 : ¬ i * 2 + 1 = j * 2 := by omega
      refine ⟨by simp [e1, e2, h1], by simp [e2, e4, e, h2], ?_, by simpa [e] using h4⟩
      simpa [e] using keep _ _ (h3.later hb) h4
  · exact ((hbel.trans (hb.mono (Nat.le_of_lt hlt))).setCell (by simp) _).setCell (by simp) _

/-- What zzElems makes, all of it in blocks from lo on. -/
def ElsFrom (w : World) (lo : Nat) (a : Option Addr) (n : Nat) (zs : Nat → ZE) : Prop :=
  n ≤ maxLen ∧ (0 < n → ∃ (b off : Nat) (M : Nat → Option Nat), lo ≤ b ∧ a = some ⟨b, off, none⟩ ∧ ∀ j, j < n → w.cell? ⟨b, off + j * 2, none⟩ = some (.string (zs j).name) ∧
    w.cell? ⟨b, off + j * 2 + 1, none⟩ = some (.map (M j)) ∧ MapIs w (M j) (zs j) ∧ ∀ m, M j = some m → lo ≤ m)
theorem ElsFrom.is {w : World} {lo n : Nat} {a : Option Addr} {zs : Nat → ZE} (h : ElsFrom w lo a n zs) : ElsIs w a n zs := by
  refine ⟨h.1, fun hn => ?_⟩
  obtain ⟨b, off, M, _, ha, hc⟩ := h.2 hn
  exact ⟨b, off, M, ha, fun j hj => ⟨(hc j hj).1, (hc j hj).2.1, (hc j hj).2.2.1⟩⟩
theorem ElsFrom.later {w w' : World} {lo n : Nat} {a : Option Addr} {zs : Nat → ZE} (h : ElsFrom w lo a n zs) (hb : Below w.heap.size w w') : ElsFrom w' lo a n zs := by
  refine ⟨h.1, fun hn => ?_⟩
  obtain ⟨b, off, M, hlo, ha, hc⟩ := h.2 hn
  exact ⟨b, off, M, hlo, ha, fun j hj => ⟨cell_keeps hb (hc j hj).1, cell_keeps hb (hc j hj).2.1, (hc j hj).2.2.1.later hb, (hc j hj).2.2.2⟩⟩
theorem ElsFrom.mono {w : World} {lo lo' n : Nat} {a : Option Addr} {zs : Nat → ZE} (h : ElsFrom w lo a n zs) (hl : lo' ≤ lo) : ElsFrom w lo' a n zs := by
  refine ⟨h.1, fun hn => ?_⟩
  obtain ⟨b, off, M, hlo, ha, hc⟩ := h.2 hn
  exact ⟨b, off, M, Nat.le_trans hl hlo, ha, fun j hj => ⟨(hc j hj).1, (hc j hj).2.1, (hc j hj).2.2.1, fun m hm => Nat.le_trans hl ((hc j hj).2.2.2 m hm)⟩⟩
theorem MapIs.setCell {w : World} {r : Option Nat} {z : ZE} (h : MapIs w r z) {g o : Nat} (hg : ∀ m, r = some m → g < m) (v : Value) : MapIs (w.setCell ⟨g, o, none⟩ v) r z := by
  rcases h with h | ⟨h0, m, hr, hm⟩
  · exact .inl h
  · exact .inr ⟨h0, m, hr, hm.setCell (a := ⟨g, o, none⟩) (Nat.ne_of_gt (hg m hr)) v⟩
theorem cell_setCell_far {w : World} {g o b q : Nat} (h : g < b) (v : Value) : (w.setCell ⟨g, o, none⟩ v).cell? ⟨b, q, none⟩ = w.cell? ⟨b, q, none⟩ :=
  World.cell?_of_block (w := w) (Below.heap_setCell _ _ _ _ (Nat.ne_of_gt h))
theorem ElsFrom.setCell {w : World} {lo n g o : Nat} {a : Option Addr} {zs : Nat → ZE} (h : ElsFrom w lo a n zs) (hg : g < lo) (v : Value) : ElsFrom (w.setCell ⟨g, o, none⟩ v) lo a n zs := by
  refine ⟨h.1, fun hn => ?_⟩
  obtain ⟨b, off, M, hlo, ha, hc⟩ := h.2 hn
  refine ⟨b, off, M, hlo, ha, fun j hj => ?_⟩
  obtain ⟨h1, h2, h3, h4⟩ := hc j hj
  exact ⟨by rw [cell_setCell_far (by omega)]; exact h1, by rw [cell_setCell_far (by omega)]; exact h2, h3.setCell (fun m hm => Nat.lt_of_lt_of_le hg (h4 m hm)) v, h4⟩

theorem ElsPart.done {w wr : World} {n : Nat} {zs : Nat → ZE} (h : ElsPart w wr n n zs) (hn : n ≤ maxLen) : ElsFrom wr w.heap.size (some ⟨w.heap.size, 0, none⟩) n zs ∧ Below w.heap.size w wr := by
  obtain ⟨f, M, hrow, hall, hbel⟩ := h
  refine ⟨⟨hn, fun _ => ⟨w.heap.size, 0, M, Nat.le_refl _, rfl, fun j hj => ?_⟩⟩, hbel⟩
  obtain ⟨h1, h2, h3, h4⟩ := hall j hj
  refine ⟨?_, ?_, h3, fun m hm => Nat.le_of_lt (h4 m hm)⟩
  · rw [Nat.zero_add, hrow.cell (by omega), h1]
  · rw [Nat.zero_add, hrow.cell (by omega), h2]

theorem ElsPart.start {w w0 : World} {n : Nat} {xs : List Value} {zs : Nat → ZE} (h : w0.ownsRow w.heap.size 48 2 (.slice (some ⟨w.heap.size, 0, none⟩) n n) n xs) (hg : w.grownBy w0 none) : ElsPart w w0 n 0 zs := by
  have hb0 : Below w.heap.size w w0 := (Below.refl _ _).grown hg (Nat.le_refl _) (fun k h => by cases h)
  rcases h.2 with ⟨h', _⟩ | ⟨g', cap', cur, h', _, hh, _, _, hs, _⟩
  · simp at h'
  · simp only [Value.slice.injEq, Option.some.injEq, Addr.mk.injEq, and_true, true_and] at h'
    obtain ⟨rfl, rfl⟩ := h'
    refine ⟨fun i => cur[i]?.getD undef, fun _ => none, ⟨cur, hh, hs, fun i hi => ?_⟩, fun i hi => by omega, hb0⟩
    simp [Array.getElem?_eq_getElem (show i < cur.size by omega)]

theorem frozen_keeps {w w' : World} (hb : Below w.heap.size w w') {b o : Nat} {v : Value} (hc : w.cell? ⟨b, o, none⟩ = some v) (h : w.frozen? ⟨b, o, none⟩ = false) : w'.frozen? ⟨b, o, none⟩ = false := by
  rw [hb.frozen (World.block_lt_of_cell? _ _ hc)]; exact h

/-- The cells that round j writes are there. -/
theorem ElsPart.cells {w wr : World} {n j : Nat} {zs : Nat → ZE} (h : ElsPart w wr n j zs) (hj : j < n) :
    ∃ v0 v1, wr.cell? ⟨w.heap.size, j * 2, none⟩ = some v0 ∧ wr.cell? ⟨w.heap.size, j * 2 + 1, none⟩ = some v1 ∧ wr.frozen? ⟨w.heap.size, j * 2, none⟩ = false ∧ wr.frozen? ⟨w.heap.size, j * 2 + 1, none⟩ = false := by
  obtain ⟨f, M, hrow, _⟩ := h
  exact ⟨_, _, hrow.cell (by omega), hrow.cell (by omega), hrow.frozen _, hrow.frozen _⟩

theorem els_nil (c : Nat) (zs : Nat → ZE) (w : World) :
    Calls Try.prog 7 #[.slice none 0 c] w fun e w' => ∃ (r : Option Addr) (c' : Nat), e = .returned (.slice r 0 c') ∧ 0 ≤ c' ∧ ElsFrom w' w.heap.size r 0 zs ∧ Below w.heap.size w w' := by
  have hnil := fun w => Lib.run_eql_slice_nil (P := Try.prog) w 22 43 none 0 c 0 0 Try.underlying22
  go_enter Try.func7, Try.ntmps7
  go_wp2
  go_ret
  exact ⟨_, _, rfl, Nat.zero_le _, ⟨Nat.zero_le _, fun h => by omega⟩, Below.refl _ _⟩

theorem els_zero (x : Addr) (c : Nat) (zs : Nat → ZE) (w : World) :
    Calls Try.prog 7 #[.slice (some x) 0 c] w fun e w' => ∃ (r : Option Addr) (c' : Nat), e = .returned (.slice r 0 c') ∧ 0 ≤ c' ∧ ElsFrom w' w.heap.size r 0 zs ∧ Below w.heap.size w w' := by
  obtain ⟨i0, hi, hz0, hz1, hz2⟩ := info_parts Try.info48
  have hnil := fun w => Lib.run_eql_slice_nil (P := Try.prog) w 22 43 (some x) 0 c 0 0 Try.underlying22
  go_enter Try.func7, Try.ntmps7
  go_wp2_with (at_make; refine wpList_make_full _ rfl _ _ 26 rfl w.heap.size 48 i0 (.agg #[.string ⟨#[]⟩, .map none]) 2 Try.underlying26 hi hz0 hz1 _ _ _ _ 0 rfl rfl rfl rfl ?b2 ?b3 (Nat.le_refl _) ?_)
  case b2 => omega
  case b3 => unfold maxLen; omega
  intro w0 hown0 hgrow0
  have hb0 : Below w.heap.size w w0 := (Below.refl _ _).grown hgrow0 (Nat.le_refl _) (fun k h => by cases h)
  clear hown0 hgrow0
  go_wp2
  refine wp_loop_rounds 1 ?_
  rw [rounds_succ]
  go_wp2
  go_ret
  exact ⟨_, _, rfl, Nat.zero_le _, ⟨Nat.zero_le _, fun h => by omega⟩, hb0⟩

set_option maxHeartbeats 400000 in
theorem els_pos (b off n c : Nat) (zs : Nat → ZE) (w : World) (h : ZEsIs w (some ⟨b, off, none⟩) n zs) (h0 : 0 < n) (hn : n ≤ 1048576) :
    Calls Try.prog 7 #[.slice (some ⟨b, off, none⟩) n c] w fun e w' => ∃ (r : Option Addr) (c' : Nat), e = .returned (.slice r n c') ∧ n ≤ c' ∧ ElsFrom w' w.heap.size r n zs ∧ Below w.heap.size w w' := by
  obtain ⟨i0, hi, hz0, hz1, hz2⟩ := info_parts Try.info48
  have hnil := fun w => Lib.run_eql_slice_nil (P := Try.prog) w 22 43 (some ⟨b, off, none⟩) n c 0 0 Try.underlying22
  obtain ⟨h1, h2, h3⟩ := h
  obtain ⟨b', off', hx, hc⟩ := h3 h0
  simp only [Option.some.injEq, Addr.mk.injEq, and_true] at hx
  obtain ⟨rfl, rfl⟩ := hx
  clear h3
  go_enter Try.func7, Try.ntmps7
  go_wp2_with (at_make; refine wpList_make_full _ rfl _ _ 26 rfl w.heap.size 48 i0 (.agg #[.string ⟨#[]⟩, .map none]) 2 Try.underlying26 hi hz0 hz1 _ _ _ _ n rfl rfl rfl rfl ?b2 ?b3 (Nat.le_refl _) ?_)
  case b2 => rw [hz2]; omega
  case b3 => unfold maxLen; omega
  intro w0 hown0 hgrow0
  have hp0 : ElsPart w w0 n 0 zs := ElsPart.start hown0 hgrow0
  clear hown0 hgrow0
  go_wp2
  go_loopw [4] (fun i wr => ∃ j : Nat, j ≤ n ∧ i = .int .i64 j ∧ ElsPart w wr n j zs) (fun i _ => n - (intOf i).toNat)
  case atStart => exact ⟨0, Nat.zero_le _, rfl, hp0⟩
  case round =>
    obtain ⟨j, hj, rfl, hp⟩ := hrel
    by_cases hlt : j < n
    · obtain ⟨cn, ck, cv⟩ := hc j hlt
      have hbel : Below w.heap.size w wr := hp.choose_spec.choose_spec.2.2
      have cn' := cell_keeps hbel cn
      have ck' := cell_keeps hbel ck
      have cv' := cell_keeps hbel cv
      have hzj' := (h2 j hlt).later hbel
      have hjn : (j : Int) < (n : Int) := by omega
      have hbne : b ≠ w.heap.size := Nat.ne_of_lt (World.block_lt_of_cell? _ _ cn)
      obtain ⟨v0, v1, q0, q1, f0, f1⟩ := hp.cells hlt
      have HP : Hid (ElsPart w wr n j zs) := hp
      clear hc h2 cn ck cv hp hbel hp0 hnil
      go_wp2
      go_region_with (go_at_call 15; refine (map_any (zs j) _ (by exact hzj')).mono ?_; rintro e w1 ⟨r, rfl, hm1, hb1, hr1⟩; have cn1 := cell_keeps hb1 cn'; have q01 := cell_keeps hb1 q0; have q11 := cell_keeps hb1 q1; have f01 := frozen_keeps hb1 q0 f0; have f11 := frozen_keeps hb1 q1 f1)
      all_goals
        go_wp2
        go_roundw
        case rel => exact ⟨j + 1, by omega, by go_num, HP.out.step hlt ((Below.refl _ _).drew.trans hb1) hm1 hr1⟩
        case measure => simp [intOf]; omega
    · obtain rfl : j = n := by omega
      obtain ⟨hd, hb⟩ := hp.done h1
      go_wp2
      go_ret
      exact ⟨_, _, rfl, Nat.le_refl _, hd, hb⟩

/-- zzElems AT EVERY SLICE. -/
theorem els_any (a : Option Addr) (n c : Nat) (zs : Nat → ZE) (w : World) (h : ZEsIs w a n zs) (hn : n ≤ 1048576) :
    Calls Try.prog 7 #[.slice a n c] w fun e w' => ∃ (r : Option Addr) (c' : Nat), e = .returned (.slice r n c') ∧ n ≤ c' ∧ ElsFrom w' w.heap.size r n zs ∧ Below w.heap.size w w' := by
  by_cases h0 : n = 0
  · subst h0
    cases a with
    | none => exact els_nil c zs w
    | some x => exact els_zero x c zs w
  · obtain ⟨b, off, rfl, _⟩ := h.2.2 (by omega)
    exact els_pos b off n c zs w h (by omega) hn
end Go.Proofs.Qxb6623333a
