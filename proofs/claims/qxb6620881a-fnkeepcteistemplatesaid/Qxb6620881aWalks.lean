/- Seat b6620881a: THE WALKS: what each Go function on the road does, callees first. -/
import Derived.Test.Qxb6620881aRows
import Derived.Test.Qxb6620881aPlain
import Derived.WalkKit
import Derived.WalkSpells
import Derived.Laws.IdiomStrings
namespace Go.Proofs.Qxb6620881a
open Go.RowKit
set_option maxRecDepth 100000

/-- The text that KeepCTE makes, as the model holds it. -/
def keepS (c m : ByteArray) : ByteArray := ⟨(Pl.keepL c.data.toList m.data.toList).toArray⟩

theorem keepS_size (c m : ByteArray) : (keepS c m).size = 244 + 3 * c.size + m.size := by
  show (Pl.keepL c.data.toList m.data.toList).toArray.size = _
  rw [List.size_toArray, Pl.keep_length]
  rfl

theorem keepS_eq (c m : ByteArray) : ((((((((⟨Pl.c0.toArray⟩ : ByteArray) ++ c) ++ ⟨Pl.c1.toArray⟩) ++ c) ++ ⟨Pl.c2.toArray⟩) ++ m) ++ ⟨Pl.c3.toArray⟩) ++ c) ++ ⟨Pl.c4.toArray⟩ = keepS c m := by
  apply ByteArray.ext
  simp [keepS, Pl.keepL, ByteArray.data_append]

theorem bytes_yes (c m : ByteArray) (w : World) (h : c.size + m.size ≤ 1048576) :
    Calls Try.prog 4 #[.string c, .string m] w fun e w' => e = .returned (.bool true) ∧ w' = w := by
  go_enter Try.func4, Try.ntmps4
  go_wp2
  go_ret
  exact ⟨rfl, rfl⟩

theorem bytes_no (c m : ByteArray) (w : World) (hc : c.size ≤ maxLen) (hm : m.size ≤ maxLen) (h : ¬ c.size + m.size ≤ 1048576) :
    Calls Try.prog 4 #[.string c, .string m] w fun e w' => e = .returned (.bool false) ∧ w' = w := by
  unfold maxLen at hc hm
  go_enter Try.func4, Try.ntmps4
  go_wp2
  all_goals
    go_ret
    exact ⟨rfl, rfl⟩

theorem keep_any (c m : ByteArray) (w : World) (hc : c.size ≤ 65536) (hm : m.size ≤ 65536) :
    Calls Try.prog 5 #[.string c, .string m] w fun e w' => e = .returned (.string (keepS c m)) ∧ w' = w := by
  go_enter Try.func5, Try.ntmps5
  go_wp2
  go_ret
  exact ⟨by rw [← keepS_eq]; rfl, rfl⟩

/-- A byte as the model's cell. -/
def bv (b : UInt8) : Value := .int .u8 (b.toNat : Int)
def cells (l : List UInt8) : List Value := l.map bv

theorem cells_snoc (l : List UInt8) (b : UInt8) : cells l ++ [bv b] = cells (l ++ [b]) := by simp [cells]
theorem cells_length (l : List UInt8) : (cells l).length = l.length := by simp [cells]

theorem take_snoc (s : ByteArray) (k : Nat) (h : k < s.size) : s.data.toList.take (k + 1) = s.data.toList.take k ++ [s[k]] := by
  rw [List.take_succ_eq_append_getElem (by simpa using h)]; rfl

theorem Try.info5 : (Try.prog.info? 5).map (fun i => (i.zero, i.size, i.bytes)) = some (some (.int .u8 0), 1, 1) := by kernel_rfl

/-- 'string(out)' of a slice that the call has built. -/
theorem conv_owned {w : World} {base n : Nat} {v : Value} {l : List UInt8} (h : w.ownsRow base 5 1 v n (cells l)) (hn : l.length = n) :
    (convert 25 9 v).run Try.prog w = .ok (.string ⟨l.toArray⟩) w := by
  have h0 := h
  obtain ⟨_, hcase⟩ := h
  rcases hcase with ⟨rfl, h00⟩ | ⟨g, cap', cur, rfl, hg, hh, hn', hcap, hsz, htake⟩
  · subst hn
    obtain rfl := List.length_eq_zero_iff.1 h00
    rw [run_convert_bytes_string w 25 9 5 none 0 0 Try.underlying25 Try.underlying5 Try.underlying9]
    simp [Conv.bytesToString]
    rfl
  · subst hn
    refine run_convert_bytes_back w 25 9 5 ⟨g, 0, none⟩ cap' l Try.underlying25 Try.underlying5 Try.underlying9 fun j hj => ?_
    rw [Addr.add_lit, Nat.zero_add, h0.cellAt j (by omega)]
    simp [cells, bv, List.getElem?_eq_getElem hj]

theorem fillB_0 (c m : List UInt8) {b : UInt8} (h : ((b.toNat : Int) == 0) = true) : Pl.fillB c m b = c := by
  have : b = 0 := UInt8.toNat_inj.1 (by simpa using h)
  simp [Pl.fillB, this]
theorem fillB_1 (c m : List UInt8) {b : UInt8} (h : ((b.toNat : Int) == 1) = true) : Pl.fillB c m b = m := by
  have h1 : (b.toNat : Int) = 1 := by simpa using h
  have : b = 1 := UInt8.toNat_inj.1 (by show b.toNat = 1; omega)
  simp [Pl.fillB, this]
theorem fillB_2 (c m : List UInt8) {b : UInt8} (h0 : ((b.toNat : Int) == 0) = false) (h1 : ((b.toNat : Int) == 1) = false) : Pl.fillB c m b = [b] := by
  have e0 : b ≠ 0 := fun e => by subst e; simp at h0
  have e1 : b ≠ 1 := fun e => by subst e; simp at h1
  simp [Pl.fillB, e0, e1]
/-- The row that is written lies among the call's own blocks. -/
theorem own_ge {w : World} {base : Nat} {e : TypeId} {size n : Nat} {v : Value} {xs : List Value} (h : w.ownsRow base e size v n xs) : ∀ k, v.ownBlock = some k → base ≤ k := by
  intro k hk
  obtain ⟨_, hcase⟩ := h
  rcases hcase with ⟨rfl, _⟩ | ⟨g, cap', cur, rfl, hg, _⟩
  · cases hk
  · cases hk; exact hg

set_option maxHeartbeats 800000 in
theorem fill_any (t c m : ByteArray) (w : World) (ht : t.size ≤ 4096) (hc : c.size ≤ 65536) (hm : m.size ≤ 65536) :
    Calls Try.prog 6 #[.string t, .string c, .string m] w fun e w' => e = .returned (.string ⟨(Pl.fill t.data.toList c.data.toList m.data.toList).toArray⟩) ∧ Below w.heap.size w w' := by
  obtain ⟨i0, hi, hz0, hz1, hz2⟩ := info_parts Try.info5
  go_enter Try.func6, Try.ntmps6
  go_wp2_with (at_make; refine wpList_make_own _ rfl _ _ 25 rfl w.heap.size 5 i0 (.int .u8 0) 1 Try.underlying25 hi hz0 hz1 _ _ _ t.size rfl rfl rfl ?b2 ?b3 (Nat.le_refl _) ?_)
  case b2 => rw [hz2]; omega
  case b3 => unfold maxLen; omega
  intro w0 hown0 hgrow0
  go_wp2
  go_loopw [7, 8] (fun v i wr => ∃ k : Nat, k ≤ t.size ∧ i = .int .i64 k ∧ wr.ownsRow w.heap.size 5 1 v (Pl.fill (t.data.toList.take k) c.data.toList m.data.toList).length (cells (Pl.fill (t.data.toList.take k) c.data.toList m.data.toList)) ∧ Below w.heap.size w wr)
    (fun _ i _ => t.size - (intOf i).toNat)
  case atStart => exact ⟨0, Nat.zero_le _, rfl, hown0, (Below.refl _ _).grown hgrow0 (Nat.le_refl _) (fun k h => by cases h)⟩
  case round =>
    obtain ⟨k, hk, rfl, hown, hnx⟩ := hrel
    by_cases hlt : k < t.size
    · have hF := Pl.fill_length (t.data.toList.take k) c.data.toList m.data.toList hc hm
      have hkl : (t.data.toList.take k).length ≤ k := List.length_take_le _ _
      have HS : Hid (t.data.toList.take (k + 1) = t.data.toList.take k ++ [t[k]]) := take_snoc t k hlt
      obtain ⟨F, hFe⟩ : ∃ F, F = Pl.fill (t.data.toList.take k) c.data.toList m.data.toList := ⟨_, rfl⟩
      rw [← hFe] at hown hF
      have HF : Hid (F = Pl.fill (t.data.toList.take k) c.data.toList m.data.toList) := hFe
      clear hFe
      have hFl : F.length ≤ 268435456 := Nat.le_trans hF (Nat.mul_le_mul (Nat.le_trans hkl (Nat.le_trans hk ht)) (Nat.le_refl 65536))
      by_cases hb0 : ((t[k].toNat : Int) == 0) = true
      · go_wp2
        go_loopw [7, 10] (fun v j wr => ∃ q : Nat, q ≤ c.size ∧ j = .int .i64 q ∧ wr.ownsRow w.heap.size 5 1 v (F ++ c.data.toList.take q).length (cells (F ++ c.data.toList.take q)) ∧ Below w.heap.size w wr)
          (fun _ j _ => c.size - (intOf j).toNat)
        case atStart => exact ⟨0, Nat.zero_le _, rfl, by simpa using hown, hnx⟩
        case round =>
          clear hown hnx
          obtain ⟨q, hq, rfl, hown, hnx⟩ := hrel
          have hGl : (F ++ c.data.toList.take q).length ≤ 268500992 := by
            have := List.length_take_le q c.data.toList
            rw [List.length_append]; omega
          by_cases hlq : q < c.size
          · have HQ : Hid (c.data.toList.take (q + 1) = c.data.toList.take q ++ [c[q]]) := take_snoc c q hlq
            go_wp2_with (at_builtin; refine wpList_append_own _ rfl (.tmp 32) (.tmp 36) 25 rfl w.heap.size 5 i0 (.int .u8 0) 1 1 Try.underlying25 hi hz0 hz1 hz2 rfl (by decide) _ _ _ rfl (hown.alloc _) ⟨wr.heap.size, 0, none⟩ 1 1 [bv c[q]] rfl rfl (cell_one_new _ _ _) (ints_oneCell .u8 [(c[q].toNat : Int)]) (by unfold maxLen; omega) (by omega) (by have := hnx.size; simp; omega) ?_; intro v' w1 hown' hgrow _)
            go_roundw
            case rel =>
              refine ⟨q + 1, by omega, by go_num, ?_, (hnx.alloc hnx.size _).grown hgrow (by have := hnx.size; simp; omega) (own_ge hown)⟩
              rw [cells_snoc, List.append_assoc, ← HQ.out] at hown'
              have el : (F ++ c.data.toList.take q).length + 1 = (F ++ c.data.toList.take (q + 1)).length := by rw [HQ.out]; simp; omega
              rw [el] at hown'
              exact hown'
            case measure => simp [intOf]; omega
          · have hqe : c.data.toList.take q = c.data.toList := List.take_of_length_le (by simp; show c.size ≤ q; omega)
            rw [hqe] at hown
            clear hqe
            go_wp2
            go_roundw
            case rel =>
              have e : Pl.fill (t.data.toList.take (k + 1)) c.data.toList m.data.toList = F ++ c.data.toList := by
                rw [HS.out, Pl.fill_append, ← HF.out, Pl.fill_one, fillB_0 c.data.toList m.data.toList hb0]
              exact ⟨k + 1, by omega, by go_num, by rw [e]; exact hown, hnx⟩
            case measure => simp [intOf]; omega
      · have hb0' : ((t[k].toNat : Int) == 0) = false := by simpa using hb0
        clear hb0
        by_cases hb1 : ((t[k].toNat : Int) == 1) = true
        · go_wp2
          go_loopw [7, 11] (fun v j wr => ∃ q : Nat, q ≤ m.size ∧ j = .int .i64 q ∧ wr.ownsRow w.heap.size 5 1 v (F ++ m.data.toList.take q).length (cells (F ++ m.data.toList.take q)) ∧ Below w.heap.size w wr)
            (fun _ j _ => m.size - (intOf j).toNat)
          case atStart => exact ⟨0, Nat.zero_le _, rfl, by simpa using hown, hnx⟩
          case round =>
            clear hown hnx
            obtain ⟨q, hq, rfl, hown, hnx⟩ := hrel
            have hGl : (F ++ m.data.toList.take q).length ≤ 268500992 := by
              have := List.length_take_le q m.data.toList
              rw [List.length_append]; omega
            by_cases hlq : q < m.size
            · have HQ : Hid (m.data.toList.take (q + 1) = m.data.toList.take q ++ [m[q]]) := take_snoc m q hlq
              go_wp2_with (at_builtin; refine wpList_append_own _ rfl (.tmp 46) (.tmp 50) 25 rfl w.heap.size 5 i0 (.int .u8 0) 1 1 Try.underlying25 hi hz0 hz1 hz2 rfl (by decide) _ _ _ rfl (hown.alloc _) ⟨wr.heap.size, 0, none⟩ 1 1 [bv m[q]] rfl rfl (cell_one_new _ _ _) (ints_oneCell .u8 [(m[q].toNat : Int)]) (by unfold maxLen; omega) (by omega) (by have := hnx.size; simp; omega) ?_; intro v' w1 hown' hgrow _)
              go_roundw
              case rel =>
                refine ⟨q + 1, by omega, by go_num, ?_, (hnx.alloc hnx.size _).grown hgrow (by have := hnx.size; simp; omega) (own_ge hown)⟩
                rw [cells_snoc, List.append_assoc, ← HQ.out] at hown'
                have el : (F ++ m.data.toList.take q).length + 1 = (F ++ m.data.toList.take (q + 1)).length := by rw [HQ.out]; simp; omega
                rw [el] at hown'
                exact hown'
              case measure => simp [intOf]; omega
            · have hqe : m.data.toList.take q = m.data.toList := List.take_of_length_le (by simp; show m.size ≤ q; omega)
              rw [hqe] at hown
              clear hqe
              go_wp2
              go_roundw
              case rel =>
                have e : Pl.fill (t.data.toList.take (k + 1)) c.data.toList m.data.toList = F ++ m.data.toList := by
                  rw [HS.out, Pl.fill_append, ← HF.out, Pl.fill_one, fillB_1 c.data.toList m.data.toList hb1]
                exact ⟨k + 1, by omega, by go_num, by rw [e]; exact hown, hnx⟩
              case measure => simp [intOf]; omega
        · have hb1' : ((t[k].toNat : Int) == 1) = false := by simpa using hb1
          clear hb1
          go_wp2_with (at_builtin; refine wpList_append_own _ rfl (.tmp 52) (.tmp 54) 25 rfl w.heap.size 5 i0 (.int .u8 0) 1 1 Try.underlying25 hi hz0 hz1 hz2 rfl (by decide) _ _ _ rfl (hown.alloc _) ⟨wr.heap.size, 0, none⟩ 1 1 [bv t[k]] rfl rfl (cell_one_new _ _ _) (ints_oneCell .u8 [(t[k].toNat : Int)]) (by unfold maxLen; omega) (by omega) (by have := hnx.size; simp; omega) ?_; intro v' w1 hown' hgrow _)
          go_roundw
          case rel =>
            have e : Pl.fill (t.data.toList.take (k + 1)) c.data.toList m.data.toList = F ++ [t[k]] := by
              rw [HS.out, Pl.fill_append, ← HF.out, Pl.fill_one, fillB_2 c.data.toList m.data.toList hb0' hb1']
            refine ⟨k + 1, by omega, by go_num, ?_, (hnx.alloc hnx.size _).grown hgrow (by have := hnx.size; simp; omega) (own_ge hown)⟩
            rw [e]
            simpa [cells_snoc] using hown'
          case measure => simp [intOf]; omega
    · have hconv := conv_owned hown rfl
      go_wp2
      go_ret
      have e : t.data.toList.take k = t.data.toList := List.take_of_length_le (by simp; show t.size ≤ k; omega)
      exact ⟨by rw [e]; rfl, hnx⟩
end Go.Proofs.Qxb6620881a
