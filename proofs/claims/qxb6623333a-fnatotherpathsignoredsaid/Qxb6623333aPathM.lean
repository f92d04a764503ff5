/- Seat b6623333a: THE WALK of zzPathMatches. -/
import Derived.Test.Qxb6623333aMatch
namespace Go.Proofs.Qxb6623333a
open Go.RowKit Go.Maps
set_option maxRecDepth 100000

/-- zzElemMatches AT EVERY ELEMENT that zzElems made. -/
theorem elem_any (z : ZE) (r : Option Nat) (w : World) (h : z.ok w) (hm : MapIs w r z) :
    Calls Try.prog 16 #[.agg #[.string z.name, .map r], .agg #[.string z.name, .slice z.ka z.kn z.kc, .slice z.va z.vn z.vc]] w fun e w' => e = .returned (.bool true) ∧ Below w.heap.size w w' := by
  rcases hm with ⟨h0, rfl⟩ | ⟨h0, m, rfl, hm⟩
  · exact elem_zero z w h h0
  · exact elem_pos z m w h h0 hm

theorem cat_lo {m j : Nat} {qs zs : Nat → ZE} (h : j < m) : cat m qs zs j = qs j := by simp [cat, h]
theorem cat_hi {m j : Nat} {qs zs : Nat → ZE} : cat m qs zs (m + j) = zs j := by
  have h : ¬ m + j < m := by omega
  simp only [cat, h, if_false]
  rw [Nat.add_sub_cancel_left]

theorem wrap_sum (m j : Nat) (h : m + j ≤ 4194304) : IntKind.i64.wrap ((m : Int) + (j : Int)) = (m : Int) + (j : Int) := by
  rw [IntKind.wrap_i64]
  omega

/-- The cells of the row, in every later world. -/
def RowL (w : World) (rb ro N : Nat) (ks : Nat → ZE) (M : Nat → Option Nat) : Prop :=
  ∀ W, Below w.heap.size w W → ∀ j, j < N → W.cell? ⟨rb, ro + j * 2, none⟩ = some (.string (ks j).name) ∧ W.cell? ⟨rb, ro + j * 2 + 1, none⟩ = some (.map (M j)) ∧ MapIs W (M j) (ks j)
def ArgL (w : World) (ab ao n : Nat) (zs : Nat → ZE) : Prop :=
  ∀ W, Below w.heap.size w W → ∀ j, j < n → W.cell? ⟨ab, ao + j * 3, none⟩ = some (.string (zs j).name) ∧ W.cell? ⟨ab, ao + j * 3 + 1, none⟩ = some (.slice (zs j).ka (zs j).kn (zs j).kc) ∧
    W.cell? ⟨ab, ao + j * 3 + 2, none⟩ = some (.slice (zs j).va (zs j).vn (zs j).vc) ∧ (zs j).ok W

set_option maxHeartbeats 1600000 in
theorem path_both (o : ByteArray) (rb ro m n c : Nat) (ab ao ca bb bo cb : Nat) (qs zs : Nat → ZE) (M : Nat → Option Nat) (w : World) (HA : Hid (ArgL w ab ao m qs)) (HB : Hid (ArgL w bb bo n zs)) (HR : Hid (RowL w rb ro (m + n) (cat m qs zs) M)) (hm : m ≤ 1048576) (hn : n ≤ 1048576) :
    Calls Try.prog 11 #[.agg #[.string o, .slice (some ⟨rb, ro, none⟩) (m + n) c], .string o, .slice (some ⟨ab, ao, none⟩) m ca, .slice (some ⟨bb, bo, none⟩) n cb] w fun e w' => e = .returned (.bool true) ∧ Below w.heap.size w w' := by
  go_enter Try.func11, Try.ntmps11
  go_wp2
  go_loopw [9] (fun i wr => ∃ j : Nat, j ≤ m ∧ i = .int .i64 j ∧ Below (w.heap.size + 1) (w.alloc (.cells #[.string o, .slice (some ⟨rb, ro, none⟩) (m + n) c] 28)) wr) (fun i _ => m - (intOf i).toNat)
  case atStart => exact ⟨0, Nat.zero_le _, rfl, (Below.refl _ _)⟩
  case round =>
    obtain ⟨j, hj, rfl, hbel⟩ := hrel
    by_cases hlt : j < m
    · have x1 : wr.cell? ⟨w.heap.size, 1, none⟩ = some (.slice (some ⟨rb, ro, none⟩) (m + n) c) := by rw [hbel.cell (by simp)]; simp
      have hbw : Below w.heap.size w wr := ((Below.refl _ _).alloc (Nat.le_refl _) _).trans (hbel.mono (by simp))
      obtain ⟨r0, r1, rm⟩ := HR.out wr hbw j (by omega)
      obtain ⟨a0, a1, a2, aok⟩ := HA.out wr hbw j hlt
      rw [cat_lo hlt] at r0 rm
      have hjm : (j : Int) < (m : Int) := by omega
      have hjn : (j : Int) < (m : Int) + (n : Int) := by omega
      have hjn2 : j < m + n := by omega
      clear hbw
      go_wp2
      go_region_with (go_at_call 16; refine (elem_any (qs j) (M j) _ (by exact aok) (by exact rm)).mono ?_; rintro e w1 ⟨rfl, hb1⟩)
      all_goals
        go_wp2
        go_roundw
        case rel => exact ⟨j + 1, by omega, by go_num, hbel.trans (((Below.refl _ _).drew.trans hb1).mono (by have := hbel.size; simpa using this))⟩
        case measure => simp [intOf]; omega
    · go_wp2
      clear hlt hj
      go_loopw [10] (fun i wr => ∃ j : Nat, j ≤ n ∧ i = .int .i64 j ∧ Below (w.heap.size + 1) (w.alloc (.cells #[.string o, .slice (some ⟨rb, ro, none⟩) (m + n) c] 28)) wr) (fun i _ => n - (intOf i).toNat)
      case atStart => exact ⟨0, Nat.zero_le _, rfl, hbel⟩
      case round =>
        obtain ⟨j, hj, rfl, hbel⟩ := hrel
        by_cases hlt : j < n
        · have x1 : wr.cell? ⟨w.heap.size, 1, none⟩ = some (.slice (some ⟨rb, ro, none⟩) (m + n) c) := by rw [hbel.cell (by simp)]; simp
          have hbw : Below w.heap.size w wr := ((Below.refl _ _).alloc (Nat.le_refl _) _).trans (hbel.mono (by simp))
          obtain ⟨r0, r1, rm⟩ := HR.out wr hbw (m + j) (by omega)
          obtain ⟨a0, a1, a2, aok⟩ := HB.out wr hbw j hlt
          rw [cat_hi] at r0 rm
          have hjm : (j : Int) < (n : Int) := by omega
          have hjn : (m : Int) + (j : Int) < (m : Int) + (n : Int) := by omega
          have hjn2 : m + j < m + n := by omega
          have hj0 : (0 : Int) ≤ (m : Int) + (j : Int) := by omega
          have hjt : ((m : Int) + (j : Int)).toNat = m + j := by omega
          have hwr := wrap_sum m j (by omega)
          clear hbw
          go_wp2
          go_region_with (go_at_call 16; refine (elem_any (zs j) (M (m + j)) _ (by exact aok) (by exact rm)).mono ?_; rintro e w1 ⟨rfl, hb1⟩)
          all_goals
            go_wp2
            go_roundw
            case rel => exact ⟨j + 1, by omega, by go_num, hbel.trans (((Below.refl _ _).drew.trans hb1).mono (by have := hbel.size; simpa using this))⟩
            case measure => simp [intOf]; omega
        · go_wp2
          go_ret
          exact ⟨rfl, ((Below.refl _ _).alloc (Nat.le_refl _) _).trans (hbel.mono (by simp))⟩
end Go.Proofs.Qxb6623333a
