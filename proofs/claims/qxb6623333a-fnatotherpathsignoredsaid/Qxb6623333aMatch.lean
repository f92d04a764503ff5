/- Seat b6623333a: THE WALKS of zzElemMatches and zzPathMatches. -/
import Derived.Test.Qxb6623333aAt
namespace Go.Proofs.Qxb6623333a
open Go.RowKit Go.Maps
set_option maxRecDepth 100000

/-- The two blocks that the call lays first (two cells, three cells), in a later world. -/
theorem boxes {w w1 : World} {x y a b c : Value} {t t' : TypeId} (hb : Below ((w.alloc (.cells #[x, y] t)).alloc (.cells #[a, b, c] t')).heap.size ((w.alloc (.cells #[x, y] t)).alloc (.cells #[a, b, c] t')) w1) :
    w1.cell? ⟨w.heap.size, 0, none⟩ = some x ∧ w1.cell? ⟨w.heap.size, 1, none⟩ = some y ∧ w1.cell? ⟨w.heap.size + 1, 0, none⟩ = some a ∧ w1.cell? ⟨w.heap.size + 1, 1, none⟩ = some b ∧ w1.cell? ⟨w.heap.size + 1, 2, none⟩ = some c := by
  have e : ((w.alloc (.cells #[x, y] t)).alloc (.cells #[a, b, c] t')).heap.size = w.heap.size + 2 := by simp
  refine ⟨?_, ?_, ?_, ?_, ?_⟩
  · rw [hb.cell (by rw [e]; simp)]; simp
  · rw [hb.cell (by rw [e]; simp)]; simp
  · rw [hb.cell (by rw [e]; simp)]; simp
  · rw [hb.cell (by rw [e]; simp)]; simp
  · rw [hb.cell (by rw [e]; simp)]; simp

/-- Both maps give the same string at a key of the element. -/
theorem looks {w : World} {z : ZE} {m m2 j : Nat} (h1 : w.ownsMap Try.prog 9 (plainElem Try.prog 9) m z.num (z.map z.num)) (h2 : w.ownsMap Try.prog 9 (plainElem Try.prog 9) m2 z.num (z.map z.num)) (hj : j < z.num) (hs : (z.ks j).size ≤ maxLen) :
    ∃ s : ByteArray, (Instr.lookup 45 (.map (some m)) (.string (z.ks j)) true).run Try.prog w = .ok (.tuple #[.string s, .bool true]) w ∧ (Instr.lookup 45 (.map (some m2)) (.string (z.ks j)) false).run Try.prog w = .ok (.string s) w := by
  have hz : plainElem (H := Unit) Try.prog 9 (.string ⟨#[]⟩) = some (.lit (.string []), []) := plainElem_string Try.underlying9 (by decide)
  obtain ⟨v, ps, hr1, hv1⟩ := h1.look_ok law9 Try.underlying45 (zero9 w) hz (key9 hs)
  obtain ⟨v2, ps2, hr2, hv2⟩ := h2.lookup law9 Try.underlying45 (zero9 w) hz (key9 hs)
  obtain ⟨s, rfl, e1, _⟩ := plainElem_string_inv Try.underlying9 hv1
  obtain ⟨s2, rfl, e2, _⟩ := plainElem_string_inv Try.underlying9 hv2
  rw [z.has_key j z.num hj] at hr1
  have e : s = s2 := by
    simp only [Prod.mk.injEq] at e1 e2
    have h3 := e1.1.symm.trans e2.1
    simp only [DataW.lit.injEq, Lit.string.injEq] at h3
    apply ByteArray.ext
    exact Array.toList_inj.1 h3
  subst e
  exact ⟨s, hr1, hr2⟩

set_option maxHeartbeats 400000 in
theorem elem_zero (z : ZE) (w : World) (h : z.ok w) (h0 : z.num = 0) :
    Calls Try.prog 16 #[.agg #[.string z.name, .map none], .agg #[.string z.name, .slice z.ka z.kn z.kc, .slice z.va z.vn z.vc]] w fun e w' => e = .returned (.bool true) ∧ Below w.heap.size w w' := by
  have HOK : ∀ o1 o2, Hid (z.ok ((w.alloc o1).alloc o2)) := fun o1 o2 => h.later (((Below.refl _ _).alloc (Nat.le_refl _) _).alloc (by simp) _)
  have hk1 := h.1.1
  have hv1 := h.2.1
  unfold maxLen at hk1 hv1
  clear h
  have hln := fun w ty => Maps.len_nil (w := w) Try.underlying45 ty
  by_cases hle : z.vn < z.kn
  · have e0 : Hid (z.vn = 0) := show z.vn = 0 by unfold ZE.num at h0; omega
    go_enter Try.func16, Try.ntmps16
    go_wp2_with fail
    refine (map_any z _ (by exact (HOK _ _).out)).mono ?_
    rintro e w1 ⟨r, rfl, hm1, hb1, hr1⟩
    obtain rfl : r = none := by
      rcases hm1 with h | ⟨h, _⟩
      · exact h.2
      · omega
    obtain ⟨x0, x1, y0, y1, y2⟩ := boxes hb1
    have hbe : Below w.heap.size w w1 := (((Below.refl _ _).alloc (Nat.le_refl _) _).alloc (by simp) _).trans (hb1.mono (by simp; omega))
    have e0' := e0.out
    go_wp2
    refine wp_loop_rounds 1 ?_
    rw [rounds_succ]
    go_wp2
    go_ret
    exact ⟨rfl, hbe⟩
  · have e0 : Hid (z.kn = 0) := show z.kn = 0 by unfold ZE.num at h0; omega
    go_enter Try.func16, Try.ntmps16
    go_wp2_with fail
    refine (map_any z _ (by exact (HOK _ _).out)).mono ?_
    rintro e w1 ⟨r, rfl, hm1, hb1, hr1⟩
    obtain rfl : r = none := by
      rcases hm1 with h | ⟨h, _⟩
      · exact h.2
      · omega
    obtain ⟨x0, x1, y0, y1, y2⟩ := boxes hb1
    have hbe : Below w.heap.size w w1 := (((Below.refl _ _).alloc (Nat.le_refl _) _).alloc (by simp) _).trans (hb1.mono (by simp; omega))
    have e0' := e0.out
    go_wp2
    refine wp_loop_rounds 1 ?_
    rw [rounds_succ]
    go_wp2
    go_ret
    exact ⟨rfl, hbe⟩

set_option maxHeartbeats 800000 in
theorem elem_pos (z : ZE) (m : Nat) (w : World) (h : z.ok w) (h0 : 0 < z.num) (hm : w.ownsMap Try.prog 9 (plainElem Try.prog 9) m z.num (z.map z.num)) :
    Calls Try.prog 16 #[.agg #[.string z.name, .map (some m)], .agg #[.string z.name, .slice z.ka z.kn z.kc, .slice z.va z.vn z.vc]] w fun e w' => e = .returned (.bool true) ∧ Below w.heap.size w w' := by
  have HOK : ∀ o1 o2, Hid (z.ok ((w.alloc o1).alloc o2)) := fun o1 o2 => h.later (((Below.refl _ _).alloc (Nat.le_refl _) _).alloc (by simp) _)
  obtain ⟨⟨hk1, hk2, hk3⟩, hv1, _⟩ := h
  unfold maxLen at hk1 hv1
  obtain ⟨kb, ko, hka0, hkc⟩ := hk3 (by unfold ZE.num at h0; omega)
  have HA : Hid (z.ka = some ⟨kb, ko, none⟩) := hka0
  clear hk3 hka0
  by_cases hle : z.vn < z.kn
  · obtain ⟨n, hn⟩ : ∃ n, n = z.vn := ⟨_, rfl⟩
    have HN : Hid (n = z.num) := show n = z.num by unfold ZE.num; omega
    go_enter Try.func16, Try.ntmps16
    go_wp2_with fail
    refine (map_any z _ (by exact (HOK _ _).out)).mono ?_
    rintro e w1 ⟨r, rfl, hm1, hb1, hr1⟩
    obtain ⟨m2, hr2, hm2⟩ : ∃ m2, r = some m2 ∧ w1.ownsMap Try.prog 9 (plainElem Try.prog 9) m2 z.num (z.map z.num) := by
      rcases hm1 with h | ⟨h, h'⟩
      · omega
      · exact h'
    subst hr2
    obtain ⟨x0, x1, y0, y1, y2⟩ := boxes hb1
    have hbe : Below w.heap.size w w1 := (((Below.refl _ _).alloc (Nat.le_refl _) _).alloc (by simp) _).trans (hb1.mono (by simp; omega))
    have hm3 := ownsMap_later hm hbe hm.lt
    have HL : Hid (∀ j, j < z.num → ∃ s : ByteArray, (Instr.lookup 45 (.map (some m)) (.string (z.ks j)) true).run Try.prog w1 = .ok (.tuple #[.string s, .bool true]) w1 ∧ (Instr.lookup 45 (.map (some m2)) (.string (z.ks j)) false).run Try.prog w1 = .ok (.string s) w1) := fun j hj => looks hm3 hm2 hj (hk2 j (by unfold ZE.num at hj; omega))
    have HK : Hid (∀ j, j < z.kn → w1.cell? ⟨kb, ko + j, none⟩ = some (.string (z.ks j))) := fun j hj => cell_keeps hbe (hkc j hj)
    clear hb1 hm1 hr1 hkc
    have hka := HA.out
    go_wp2_with (first | (at_len; refine wpList_len_own _ rfl (.tmp 19) 45 rfl 9 9 Try.underlying45 _ m z.num (z.map z.num) rfl hm3 ?_) | (at_len; refine wpList_len_own _ rfl (.tmp 21) 45 rfl 9 9 Try.underlying45 _ m2 z.num (z.map z.num) rfl hm2 ?_))
    clear hm2 hm3
    go_loop [7] (fun i => ∃ j : Nat, j ≤ z.vn ∧ i = .int .i64 j) (fun i => z.vn - (intOf i).toNat)
    case atStart => exact ⟨0, Nat.zero_le _, rfl⟩
    case round =>
      obtain ⟨j, hj, rfl⟩ := hrel
      by_cases hlt : j < z.vn
      · obtain ⟨s, hl1, hl2⟩ := HL.out j (by rw [← HN.out, hn]; exact hlt)
        have ck := HK.out j (by omega)
        have hjk : (j : Int) < (z.kn : Int) := by omega
        go_wp2
        go_round
        case rel => exact ⟨j + 1, by omega, by go_num⟩
        case measure => simp [intOf]; omega
      · go_wp2
        go_ret
        exact ⟨rfl, hbe⟩
  · obtain ⟨n, hn⟩ : ∃ n, n = z.kn := ⟨_, rfl⟩
    have HN : Hid (n = z.num) := show n = z.num by unfold ZE.num; omega
    go_enter Try.func16, Try.ntmps16
    go_wp2_with fail
    refine (map_any z _ (by exact (HOK _ _).out)).mono ?_
    rintro e w1 ⟨r, rfl, hm1, hb1, hr1⟩
    obtain ⟨m2, hr2, hm2⟩ : ∃ m2, r = some m2 ∧ w1.ownsMap Try.prog 9 (plainElem Try.prog 9) m2 z.num (z.map z.num) := by
      rcases hm1 with h | ⟨h, h'⟩
      · omega
      · exact h'
    subst hr2
    obtain ⟨x0, x1, y0, y1, y2⟩ := boxes hb1
    have hbe : Below w.heap.size w w1 := (((Below.refl _ _).alloc (Nat.le_refl _) _).alloc (by simp) _).trans (hb1.mono (by simp; omega))
    have hm3 := ownsMap_later hm hbe hm.lt
    have HL : Hid (∀ j, j < z.num → ∃ s : ByteArray, (Instr.lookup 45 (.map (some m)) (.string (z.ks j)) true).run Try.prog w1 = .ok (.tuple #[.string s, .bool true]) w1 ∧ (Instr.lookup 45 (.map (some m2)) (.string (z.ks j)) false).run Try.prog w1 = .ok (.string s) w1) := fun j hj => looks hm3 hm2 hj (hk2 j (by unfold ZE.num at hj; omega))
    have HK : Hid (∀ j, j < z.kn → w1.cell? ⟨kb, ko + j, none⟩ = some (.string (z.ks j))) := fun j hj => cell_keeps hbe (hkc j hj)
    clear hb1 hm1 hr1 hkc
    have hka := HA.out
    go_wp2_with (first | (at_len; refine wpList_len_own _ rfl (.tmp 19) 45 rfl 9 9 Try.underlying45 _ m z.num (z.map z.num) rfl hm3 ?_) | (at_len; refine wpList_len_own _ rfl (.tmp 21) 45 rfl 9 9 Try.underlying45 _ m2 z.num (z.map z.num) rfl hm2 ?_))
    clear hm2 hm3
    go_loop [7] (fun i => ∃ j : Nat, j ≤ z.kn ∧ i = .int .i64 j) (fun i => z.kn - (intOf i).toNat)
    case atStart => exact ⟨0, Nat.zero_le _, rfl⟩
    case round =>
      obtain ⟨j, hj, rfl⟩ := hrel
      by_cases hlt : j < z.kn
      · obtain ⟨s, hl1, hl2⟩ := HL.out j (by rw [← HN.out, hn]; exact hlt)
        have ck := HK.out j (by omega)
        have hjk : (j : Int) < (z.kn : Int) := by omega
        go_wp2
        go_round
        case rel => exact ⟨j + 1, by omega, by go_num⟩
        case measure => simp [intOf]; omega
      · go_wp2
        go_ret
        exact ⟨rfl, hbe⟩
end Go.Proofs.Qxb6623333a
