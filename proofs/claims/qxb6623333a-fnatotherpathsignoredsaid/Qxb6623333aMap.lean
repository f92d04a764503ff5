/- Seat b6623333a: THE WALK of zzMap. -/
import Derived.Test.Qxb6623333aDefs
import Derived.Deep.RegionHeld3
import Derived.Deep.QuietTactic
import Derived.BigQuiet
namespace Go.Proofs.Qxb6623333a
open Go.RowKit Go.Maps
set_option maxRecDepth 100000

theorem law9 : Keyed Try.prog 9 := string_keyed Try.underlying9
theorem zero9 (w : World) : (zeroValue 9).run Try.prog w = .ok (.string ⟨#[]⟩) w := by kernel_rfl

theorem key9 {s : ByteArray} (h : s.size ≤ maxLen) : keyOf Try.prog 9 (.string s) = some (keyL s) := WideMaps.keyOf_string_mk Try.underlying9 h

set_option maxHeartbeats 800000 in
theorem map_any (z : ZE) (w : World) (h : z.ok w) :
    Calls Try.prog 15 #[.agg #[.string z.name, .slice z.ka z.kn z.kc, .slice z.va z.vn z.vc]] w fun e w' =>
      ∃ r : Option Nat, e = .returned (.map r) ∧ MapIs w' r z ∧ Below w.heap.size w w' ∧ ∀ m, r = some m → w.heap.size ≤ m := by
  have hmm := @run_makeMap Try.prog
  obtain ⟨⟨hk1, hk2, hk3⟩, hv1, hv2, hv3⟩ := h
  unfold maxLen at hk1 hv1
  by_cases h0 : z.num = 0
  · by_cases hle : z.kn ≤ z.vn
    · have e0 : z.kn = 0 := by unfold ZE.num at h0; omega
      go_enter Try.func15, Try.ntmps15
      go_wp2
      go_ret
      exact ⟨none, rfl, .inl ⟨h0, rfl⟩, (Below.refl _ _).alloc (Nat.le_refl _) _, fun m hm => by cases hm⟩
    · have e0 : z.vn = 0 := by unfold ZE.num at h0; omega
      go_enter Try.func15, Try.ntmps15
      go_wp2
      go_ret
      exact ⟨none, rfl, .inl ⟨h0, rfl⟩, (Below.refl _ _).alloc (Nat.le_refl _) _, fun m hm => by cases hm⟩
  · obtain ⟨n, hn⟩ : ∃ n, n = z.num := ⟨_, rfl⟩
    have hkn : n ≤ z.kn := by unfold ZE.num at hn; omega
    have hvn : n ≤ z.vn := by unfold ZE.num at hn; omega
    obtain ⟨kb, ko, hka, hkc⟩ := hk3 (by omega)
    obtain ⟨vb, vo, hva, hvc⟩ := hv3 (by omega)
    have hpos : 0 < n := by omega
    have hmin : min (z.kn : Int) (z.vn : Int) = (n : Int) := by unfold ZE.num at hn; omega
    have HN : Hid (n = z.num) := hn
    clear hn h0 hk3 hv3 hmin
    by_cases hle : z.vn < z.kn
    · obtain rfl : n = z.vn := by have := HN.out; unfold ZE.num at this; omega
      go_enter Try.func15, Try.ntmps15
      go_wp2
      go_loopw [5] (fun i wr => ∃ j : Nat, j ≤ z.vn ∧ i = .int .i64 j ∧ wr.ownsMap Try.prog 9 (plainElem Try.prog 9) (w.heap.size + 1) j (z.map j) ∧ Below (w.heap.size + 1) (w.alloc (.cells #[.string z.name, .slice (some ⟨kb, ko, none⟩) z.kn z.kc, .slice (some ⟨vb, vo, none⟩) z.vn z.vc] 43)) wr) (fun i _ => z.vn - (intOf i).toNat)
      case atStart =>
        refine ⟨0, Nat.zero_le _, rfl, ?_, (Below.refl _ _).alloc (by simp) _⟩
        have := World.ownsMap_made (w.alloc (.cells #[.string z.name, .slice (some ⟨kb, ko, none⟩) z.kn z.kc, .slice (some ⟨vb, vo, none⟩) z.vn z.vc] 43)) Try.prog 9 (plainElem (H := Unit) Try.prog 9)
        simpa [ZE.map] using this
      case round =>
        obtain ⟨j, hj, rfl, hown, hbel⟩ := hrel
        by_cases hlt : j < z.vn
        · have c1 : wr.cell? ⟨w.heap.size, 1, none⟩ = some (.slice (some ⟨kb, ko, none⟩) z.kn z.kc) := by rw [hbel.cell (by simp)]; simp
          have c2 : wr.cell? ⟨w.heap.size, 2, none⟩ = some (.slice (some ⟨vb, vo, none⟩) z.vn z.vc) := by rw [hbel.cell (by simp)]; simp
          have hbw : Below w.heap.size w wr := ((Below.refl _ _).alloc (Nat.le_refl _) _).trans (hbel.mono (by simp))
          have ck := cell_keeps hbw (hkc j (by omega))
          have cv := cell_keeps hbw (hvc j (by omega))
          obtain ⟨w1, hrun, hown1, hgrow1⟩ := World.ownsMap.update hown.drew law9 Try.underlying45 (by unfold maxLen; omega) (key9 (hk2 j (by omega))) (plainElem_string Try.underlying9 (hv2 j (by omega)))
          have hbel1 : Below (w.heap.size + 1) (w.alloc (.cells #[.string z.name, .slice (some ⟨kb, ko, none⟩) z.kn z.kc, .slice (some ⟨vb, vo, none⟩) z.vn z.vc] 43)) w1 := hbel.drew.grown hgrow1 (by have := hbel.size; simpa using this) (fun k hk => by cases hk; exact Nat.le_refl _)
          have hjk : (j : Int) < (z.kn : Int) := by omega
          have hjv : (j : Int) < (z.vn : Int) := by omega
          have HO : Hid (w1.ownsMap Try.prog 9 (plainElem Try.prog 9) (w.heap.size + 1) (j + 1) (z.map (j + 1))) := hown1
          clear hbel hown hgrow1 hbw hown1
          go_wp2
          go_region
          all_goals
            go_wp2
            go_roundw
            case rel => exact ⟨j + 1, by omega, by go_num, HO.out, hbel1⟩
            case measure => simp [intOf]; omega
        · obtain rfl : j = z.vn := by omega
          go_wp2
          go_ret
          refine ⟨some (w.heap.size + 1), rfl, .inr ⟨by rw [← HN.out]; exact hpos, _, rfl, by rw [← HN.out]; exact hown⟩, ((Below.refl _ _).alloc (Nat.le_refl _) _).trans (hbel.mono (by simp)), fun m hm => by cases hm; omega⟩
    · obtain rfl : n = z.kn := by have := HN.out; unfold ZE.num at this; omega
      go_enter Try.func15, Try.ntmps15
      go_wp2
      go_loopw [5] (fun i wr => ∃ j : Nat, j ≤ z.kn ∧ i = .int .i64 j ∧ wr.ownsMap Try.prog 9 (plainElem Try.prog 9) (w.heap.size + 1) j (z.map j) ∧ Below (w.heap.size + 1) (w.alloc (.cells #[.string z.name, .slice (some ⟨kb, ko, none⟩) z.kn z.kc, .slice (some ⟨vb, vo, none⟩) z.vn z.vc] 43)) wr) (fun i _ => z.kn - (intOf i).toNat)
      case atStart =>
        refine ⟨0, Nat.zero_le _, rfl, ?_, (Below.refl _ _).alloc (by simp) _⟩
        have := World.ownsMap_made (w.alloc (.cells #[.string z.name, .slice (some ⟨kb, ko, none⟩) z.kn z.kc, .slice (some ⟨vb, vo, none⟩) z.vn z.vc] 43)) Try.prog 9 (plainElem (H := Unit) Try.prog 9)
        simpa [ZE.map] using this
      case round =>
        obtain ⟨j, hj, rfl, hown, hbel⟩ := hrel
        by_cases hlt : j < z.kn
        · have c1 : wr.cell? ⟨w.heap.size, 1, none⟩ = some (.slice (some ⟨kb, ko, none⟩) z.kn z.kc) := by rw [hbel.cell (by simp)]; simp
          have c2 : wr.cell? ⟨w.heap.size, 2, none⟩ = some (.slice (some ⟨vb, vo, none⟩) z.vn z.vc) := by rw [hbel.cell (by simp)]; simp
          have hbw : Below w.heap.size w wr := ((Below.refl _ _).alloc (Nat.le_refl _) _).trans (hbel.mono (by simp))
          have ck := cell_keeps hbw (hkc j (by omega))
          have cv := cell_keeps hbw (hvc j (by omega))
          obtain ⟨w1, hrun, hown1, hgrow1⟩ := World.ownsMap.update hown.drew law9 Try.underlying45 (by unfold maxLen; omega) (key9 (hk2 j (by omega))) (plainElem_string Try.underlying9 (hv2 j (by omega)))
          have hbel1 : Below (w.heap.size + 1) (w.alloc (.cells #[.string z.name, .slice (some ⟨kb, ko, none⟩) z.kn z.kc, .slice (some ⟨vb, vo, none⟩) z.vn z.vc] 43)) w1 := hbel.drew.grown hgrow1 (by have := hbel.size; simpa using this) (fun k hk => by cases hk; exact Nat.le_refl _)
          have hjk : (j : Int) < (z.kn : Int) := by omega
          have hjv : (j : Int) < (z.vn : Int) := by omega
          have HO : Hid (w1.ownsMap Try.prog 9 (plainElem Try.prog 9) (w.heap.size + 1) (j + 1) (z.map (j + 1))) := hown1
          clear hbel hown hgrow1 hbw hown1
          go_wp2
          go_region
          all_goals
            go_wp2
            go_roundw
            case rel => exact ⟨j + 1, by omega, by go_num, HO.out, hbel1⟩
            case measure => simp [intOf]; omega
        · obtain rfl : j = z.kn := by omega
          go_wp2
          go_ret
          refine ⟨some (w.heap.size + 1), rfl, .inr ⟨by rw [← HN.out]; exact hpos, _, rfl, by rw [← HN.out]; exact hown⟩, ((Below.refl _ _).alloc (Nat.le_refl _) _).trans (hbel.mono (by simp)), fun m hm => by cases hm; omega⟩
end Go.Proofs.Qxb6623333a
