/- Seat b6623314a: THE WALKS of the law's callees. -/
import Derived.Test.Qxb6623314aRows
import Derived.Test.Qxb6623314aPlain
import Derived.Test.Qxb6623314aShelf
import Derived.WalkKit
import Derived.WalkSpells
import Derived.WalkLawsBesides
import Derived.Laws.CopyOwn
import Derived.Deep.QuietTactic
import Derived.BigQuiet
namespace Go.Proofs.Qxb6623314a
open Go.RowKit
set_option maxRecDepth 100000

/-- The strings xs lie at block b from off on. -/
def Row (w : World) (b off : Nat) (xs : List ByteArray) : Prop := ∀ j, j < xs.length → w.cell? ⟨b, off + j, none⟩ = some (.string (xs.getD j ByteArray.empty))

/-- The call handed back a bool; where it is true, p holds. -/
def IsBool (p : Prop) (e : Ending) : Prop := ∃ r : Bool, e = .returned (.bool r) ∧ (r = true → p)
theorem isBool_no (p : Prop) : IsBool p (.returned (.bool false)) := ⟨false, rfl, fun h => by cases h⟩
theorem isBool_yes {p : Prop} (h : p) : IsBool p (.returned (.bool true)) := ⟨true, rfl, fun _ => h⟩
/-- No string of xs is longer than 1<<20. -/
def Short (xs : List ByteArray) : Prop := ∀ j, j < xs.length → (xs.getD j ByteArray.empty).size ≤ 1048576

theorem bytes_any (b off cap : Nat) (k : Int) (xs : List ByteArray) (w : World) (hx : Row w b off xs) (hl : ∀ j, j < xs.length → (xs.getD j ByteArray.empty).size ≤ maxLen) (hn : xs.length ≤ maxLen) :
    Calls Try.prog 4 #[.slice (some ⟨b, off, none⟩) xs.length cap, .int .i64 k] w fun e w' => IsBool (Short xs) e ∧ w' = w := by
  unfold maxLen at hl hn
  by_cases hb : xs.length ≤ 1048576
  · go_enter Try.func4, Try.ntmps4
    go_wp2
    go_loop [5, 6] (fun z i => ∃ j : Nat, j ≤ xs.length ∧ i = .int .i64 j ∧ Hid (∀ i, i < j → (xs.getD i ByteArray.empty).size ≤ 1048576) ∧ ∃ q : Nat, z = .int .i64 q ∧ q ≤ 1048576) (fun _ i => xs.length - (intOf i).toNat)
    case atStart => exact ⟨0, Nat.zero_le _, rfl, fun i hi => by omega, _, rfl, hb⟩
    case round =>
      obtain ⟨j, hj, rfl, HP, q, rfl, hq⟩ := hrel
      by_cases hlt : j < xs.length
      · have hc := hx j hlt
        have hs := hl j hlt
        obtain ⟨s, hse⟩ : ∃ s, s = xs.getD j ByteArray.empty := ⟨_, rfl⟩
        rw [← hse] at hc hs
        have HE : Hid (s = xs.getD j ByteArray.empty) := hse
        clear hse hx hl
        go_wp2
        all_goals first
          | (go_ret; exact ⟨isBool_no _, rfl⟩)
          | (go_round
             case rel =>
               refine ⟨j + 1, by omega, by go_num, fun i hi => ?_, q + s.size, by go_num, by omega⟩
               by_cases e : i = j
               · subst e; rw [← HE.out]; omega
               · exact HP.out i (by omega)
             case measure => simp [intOf]; omega)
      · obtain rfl : j = xs.length := by omega
        go_wp2
        go_ret
        exact ⟨isBool_yes HP.out, rfl⟩
  · go_enter Try.func4, Try.ntmps4
    go_wp2
    all_goals
      go_ret
      exact ⟨isBool_no _, rfl⟩

theorem bytes_zero (a : Option Addr) (c : Nat) (k : Int) (w : World) :
    Calls Try.prog 4 #[.slice a 0 c, .int .i64 k] w fun e w' => IsBool True e ∧ w' = w := by
  go_enter Try.func4, Try.ntmps4
  go_wp2
  refine wp_loop_rounds 1 ?_
  rw [rounds_succ]
  go_wp2
  go_ret
  exact ⟨isBool_yes trivial, rfl⟩

theorem Try.info9 : (Try.prog.info? 9).map (fun i => (i.zero, i.size, i.bytes)) = some (some (.string ⟨#[]⟩), 1, 16) := by kernel_rfl
theorem Try.size9 : (Try.prog.info? 9).map (·.size) = some 1 := by kernel_rfl

def cells (xs : List ByteArray) : List Value := xs.map .string
theorem cells_length (xs : List ByteArray) : (cells xs).length = xs.length := by simp [cells]
theorem cells_get (xs : List ByteArray) (j : Nat) (v : Value) (h : (cells xs)[j]? = some v) : j < xs.length ∧ v = .string (xs.getD j ByteArray.empty) := by
  simp only [cells, List.getElem?_map, Option.map_eq_some_iff] at h
  obtain ⟨s, hs, rfl⟩ := h
  obtain ⟨hj, rfl⟩ := List.getElem?_eq_some_iff.1 hs
  exact ⟨hj, by simp [hj]⟩
theorem cells_one (xs : List ByteArray) : ∀ v ∈ cells xs, v.oneCell' = true := by
  intro v hv
  obtain ⟨_, _, rfl⟩ := List.mem_map.1 hv
  rfl

/-- The block of a row that 'make' has laid. -/
theorem row_of_own {w : World} {base g n cap : Nat} {zs : List Value} (h : w.ownsRow base 9 1 (.slice (some ⟨g, 0, none⟩) n cap) n zs) :
    ∃ cur : List Value, w.heap[g]? = some (.cells cur.toArray 9 (0, 0)) ∧ cur.length = cap := by
  rcases h.2 with ⟨h', _⟩ | ⟨g', cap', cur, h', _, hg, _, _, hs, _⟩
  · simp at h'
  · simp only [Value.slice.injEq, Option.some.injEq, Addr.mk.injEq, and_true, true_and] at h'
    obtain ⟨rfl, rfl⟩ := h'
    exact ⟨cur.toList, by simpa using hg, by simpa using hs⟩

theorem row_of_block {w : World} {g : Nat} {xs : List ByteArray} (h : w.heap[g]? = some (.cells (cells xs).toArray 9 (0, 0))) : Row w g 0 xs := by
  intro j hj
  rw [Nat.zero_add, cell_of_row w g j _ 9 (0, 0) h]
  simp [cells, hj]

theorem copy_any (b off cap : Nat) (xs : List ByteArray) (w : World) (hx : Row w b off xs) (hn : xs.length ≤ 1048576) (hbw : b < w.heap.size) :
    Calls Try.prog 5 #[.slice (some ⟨b, off, none⟩) xs.length cap] w fun e w' => e = .returned (.slice (some ⟨w.heap.size, 0, none⟩) xs.length xs.length) ∧
      Row w' w.heap.size 0 xs ∧ Below w.heap.size w w' ∧ w.heap.size < w'.heap.size := by
  obtain ⟨i0, hi, hz0, hz1, hz2⟩ := info_parts Try.info9
  have hnil := fun w => Lib.run_eql_slice_nil (P := Try.prog) w 22 9 (some ⟨b, off, none⟩) xs.length cap 0 0 Try.underlying22
  go_enter Try.func5, Try.ntmps5
  go_wp2_with (at_make; refine wpList_make_full _ rfl _ _ 22 rfl w.heap.size 9 i0 (.string ⟨#[]⟩) 1 Try.underlying22 hi hz0 hz1 _ _ _ _ xs.length rfl rfl rfl rfl ?b2 ?b3 (Nat.le_refl _) ?_)
  case b2 => rw [hz2]; omega
  case b3 => unfold maxLen; omega
  intro w0 hown0 hgrow0
  obtain ⟨cur, hcur, hcl⟩ := row_of_own hown0
  have hb0 : Below w.heap.size w w0 := (Below.refl _ _).grown hgrow0 (Nat.le_refl _) (fun k h => by cases h)
  have hlt0 : w.heap.size < w0.heap.size := (Array.getElem?_eq_some_iff.1 hcur).1
  have hsrc : ∀ j v, (cells xs)[j]? = some v → w0.cell? ((⟨b, off, none⟩ : Addr).add j) = some v := by
    intro j v hv
    obtain ⟨hj, rfl⟩ := cells_get xs j v hv
    rw [Addr.add_lit, hb0.cell (p := ⟨b, off + j, none⟩) hbw]
    exact hx j hj
  have HC : Hid (w0.heap[w.heap.size]? = some (.cells cur.toArray 9 (0, 0))) := hcur
  have HS : Hid (∀ j v, (cells xs)[j]? = some v → w0.cell? ((⟨b, off, none⟩ : Addr).add j) = some v) := hsrc
  clear hcur hsrc
  go_wp2_with (refine wpList_copy_splice rfl (.tmp 9) (.tmp 10) 22 22 rfl 9 Try.underlying22 Try.size9 _ _ _ _ _ _ rfl rfl w.heap.size 0 cur 9 HC.out (cells xs) (by rw [cells_length]; simp) (fun _ => ⟨rfl, _, rfl, HS.out⟩) (by rw [cells_length]; omega) (cells_one xs) w.heap.size w hb0 (Nat.le_refl _) ?_)
  intro w2 hg2 hb2
  have hg3 : w2.heap[w.heap.size]? = some (.cells (cells xs).toArray 9 (0, 0)) := by
    have h := hg2.out
    have e : splice cur 0 (cells xs) = cells xs := by
      unfold splice
      rw [List.take_zero, List.nil_append, List.drop_eq_nil_of_le (by rw [cells_length]; omega), List.append_nil]
    rw [e] at h
    exact h
  have hR := row_of_block hg3
  have hlt2 : w.heap.size < w2.heap.size := (Array.getElem?_eq_some_iff.1 hg3).1
  clear hg2 hg3
  go_wp2
  go_ret
  exact ⟨rfl, hR, hb2, hlt2⟩
end Go.Proofs.Qxb6623314a
