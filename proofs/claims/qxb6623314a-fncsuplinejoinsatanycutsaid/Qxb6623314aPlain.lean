/- Seat b6623314a: THE PLAIN LAW: no Go in sight. 'csupL': the value of the csup line; its cut, its length, its bytes. -/
import Derived.Lib.Join
import Derived.Lib.Strings
namespace Go.Proofs.Qxb6623314a.Pl
open Go

def headL : List UInt8 := [99, 115, 117, 112, 58]
/-- The value of the csup line that lists xs. -/
def csupL (xs : List (List UInt8)) : List UInt8 := headL ++ Lib.join xs [44]

theorem join_cons2 (x y : List UInt8) (r : List (List UInt8)) : Lib.join (x :: y :: r) [44] = x ++ 44 :: Lib.join (y :: r) [44] := by
  rw [Lib.join_cons, Lib.join_cons]
  simp [Lib.joinTail]

/-- What stands ahead of element i. -/
def pre : List (List UInt8) → Nat → List UInt8
  | _, 0 => []
  | [], _ + 1 => []
  | x :: r, i + 1 => x ++ 44 :: pre r i

theorem join_pre : ∀ (xs : List (List UInt8)) (i : Nat), i < xs.length → Lib.join xs [44] = pre xs i ++ Lib.join (xs.drop i) [44]
  | _, 0, _ => by simp [pre]
  | [], _ + 1, h => by simp at h
  | [x], i + 1, h => by simp at h
  | x :: y :: r, i + 1, h => by
    rw [join_cons2, join_pre (y :: r) i (by simpa using h)]
    simp [pre]

theorem pre_eq : ∀ (xs : List (List UInt8)) (k : Nat), 0 < k → k ≤ xs.length → pre xs k = Lib.join (xs.take k) [44] ++ [44]
  | _, 0, h, _ => by omega
  | [], _ + 1, _, h => by simp at h
  | [x], k + 1, _, h => by
    obtain rfl : k = 0 := by simpa using h
    simp [pre, Lib.join_one]
  | x :: y :: r, 0 + 1, _, h => by simp [pre, Lib.join_one]
  | x :: y :: r, k + 1 + 1, _, h => by
    have ih := pre_eq (y :: r) (k + 1) (by omega) (by simpa using h)
    have e : pre (x :: y :: r) (k + 1 + 1) = x ++ 44 :: pre (y :: r) (k + 1) := rfl
    have e2 : (x :: y :: r).take (k + 1 + 1) = x :: y :: r.take k := rfl
    have e3 : (y :: r).take (k + 1) = y :: r.take k := rfl
    rw [e, ih, e2, e3, join_cons2]
    simp

/-- THE CUT. -/
theorem csup_cut (xs : List (List UInt8)) (k : Nat) (h0 : 0 < k) (h : k < xs.length) :
    csupL xs = csupL (xs.take k) ++ [44] ++ (csupL (xs.drop k)).drop 5 := by
  have e : (csupL (xs.drop k)).drop 5 = Lib.join (xs.drop k) [44] := by simp [csupL, headL]
  rw [e]
  unfold csupL
  rw [join_pre xs k h, pre_eq xs k h0 (by omega)]
  simp

theorem pre_length : ∀ (xs : List (List UInt8)) (i : Nat), i ≤ xs.length → (pre xs i).length = ((xs.take i).map List.length).sum + i
  | _, 0, _ => by simp [pre]
  | [], _ + 1, h => by simp at h
  | x :: r, i + 1, h => by
    have := pre_length r i (by simpa using h)
    simp only [pre, List.length_append, List.length_cons, this, List.take_succ_cons, List.map_cons, List.sum_cons]
    omega

/-- THE LENGTH. -/
theorem csup_length (xs : List (List UInt8)) (h : 0 < xs.length) : (csupL xs).length + 1 = 5 + (xs.map List.length).sum + xs.length := by
  match xs, h with
  | x :: r, _ =>
    have h1 := Lib.join_length x r [44]
    have h2 : Lib.lens (x :: r) = ((x :: r).map List.length).sum := rfl
    have h3 : (csupL (x :: r)).length = 5 + (Lib.join (x :: r) [44]).length := by rw [csupL, List.length_append]; rfl
    have h4 : ([44] : List UInt8).length = 1 := rfl
    have h5 : (x :: r).length = r.length + 1 := rfl
    rw [h4, h2, Nat.one_mul] at h1
    rw [h3, h1, h5]
    omega

/-- THE BYTES of element i, and the comma behind it. -/
theorem csup_at (xs : List (List UInt8)) (i : Nat) (h : i < xs.length) :
    ((csupL xs).drop (5 + ((xs.take i).map List.length).sum + i)).take (xs[i].length) = xs[i] ∧
    (i + 1 < xs.length → (csupL xs)[5 + ((xs.take i).map List.length).sum + i + xs[i].length]? = some 44) := by
  have hd : xs.drop i = xs[i] :: xs.drop (i + 1) := List.drop_eq_getElem_cons h
  have hp := pre_length xs i (by omega)
  have e : csupL xs = (headL ++ pre xs i) ++ (xs[i] ++ Lib.joinTail [44] (xs.drop (i + 1))) := by
    unfold csupL
    rw [join_pre xs i h, hd, Lib.join_cons, List.append_assoc]
  have hl : (headL ++ pre xs i).length = 5 + ((xs.take i).map List.length).sum + i := by
    simp only [List.length_append, hp, headL, List.length_cons, List.length_nil]; omega
  rw [e, ← hl]
  refine ⟨by simp, fun h1 => ?_⟩
  have hd1 : xs.drop (i + 1) = xs[i + 1] :: xs.drop (i + 2) := List.drop_eq_getElem_cons h1
  rw [hd1, List.getElem?_append_right (by omega), List.getElem?_append_right (by omega)]
  have e0 : (headL ++ pre xs i).length + xs[i].length - (headL ++ pre xs i).length - xs[i].length = 0 := by omega
  rw [e0]
  rfl

/-! ### The same of the model's strings -/
def bs (xs : List ByteArray) : List (List UInt8) := xs.map (·.data.toList)
def csupS (xs : List ByteArray) : ByteArray := ⟨(csupL (bs xs)).toArray⟩
/-- The sum of the first i lengths. -/
def S (xs : List ByteArray) (i : Nat) : Nat := ((xs.take i).map ByteArray.size).sum

theorem S_zero (xs : List ByteArray) : S xs 0 = 0 := by simp [S]
theorem S_succ (xs : List ByteArray) (i : Nat) (h : i < xs.length) : S xs (i + 1) = S xs i + (xs.getD i ByteArray.empty).size := by
  unfold S
  rw [List.take_succ_eq_append_getElem h, List.map_append, List.sum_append]
  have e : xs.getD i ByteArray.empty = xs[i] := by simp [h]
  rw [e]
  rfl
theorem S_le (xs : List ByteArray) (i : Nat) : S xs i ≤ S xs (i + 1) := by
  by_cases h : i < xs.length
  · rw [S_succ xs i h]; omega
  · have e1 : xs.take i = xs := List.take_of_length_le (by omega)
    have e2 : xs.take (i + 1) = xs := List.take_of_length_le (by omega)
    simp [S, e1, e2]
theorem S_mono (xs : List ByteArray) (i j : Nat) (h : i ≤ j) : S xs i ≤ S xs j := by
  induction j with
  | zero => obtain rfl : i = 0 := by omega
            exact Nat.le_refl _
  | succ j ih =>
    by_cases e : i = j + 1
    · subst e; exact Nat.le_refl _
    · exact Nat.le_trans (ih (by omega)) (S_le xs j)

theorem sizes (xs : List ByteArray) (i : Nat) : (((bs xs).take i).map List.length).sum = S xs i := by
  unfold S bs
  rw [← List.map_take, List.map_map]
  congr 1

theorem csupS_size (xs : List ByteArray) (h : 0 < xs.length) : (csupS xs).size + 1 = 5 + S xs xs.length + xs.length := by
  have h1 := csup_length (bs xs) (by simpa [bs] using h)
  have h2 := sizes xs xs.length
  have e : (bs xs).take xs.length = bs xs := List.take_of_length_le (by simp [bs])
  rw [e] at h2
  have h3 : (bs xs).length = xs.length := by simp [bs]
  rw [h2, h3] at h1
  have h4 : (csupS xs).size = (csupL (bs xs)).length := by simp [csupS, ByteArray.size]
  omega

theorem csupS_data (xs : List ByteArray) : (csupS xs).data.toList = csupL (bs xs) := by simp [csupS]

theorem csupS_cut (xs : List ByteArray) (k : Nat) (h0 : 0 < k) (h : k < xs.length) :
    csupS (xs.take k) ++ ⟨#[44]⟩ ++ (csupS (xs.drop k)).extract 5 (csupS (xs.drop k)).size = csupS xs := by
  apply ByteArray.ext
  apply Array.toList_inj.1
  have hc := csup_cut (bs xs) k h0 (by simpa [bs] using h)
  have e1 : (bs xs).take k = bs (xs.take k) := by simp [bs, List.map_take]
  have e2 : (bs xs).drop k = bs (xs.drop k) := by simp [bs, List.map_drop]
  rw [e1, e2] at hc
  have e3 : ((csupS (xs.drop k)).extract 5 (csupS (xs.drop k)).size).data.toList = (csupL (bs (xs.drop k))).drop 5 := by
    rw [Lib.extract_data, csupS_data]
    apply List.take_of_length_le
    simp [csupS, ByteArray.size]
  rw [ByteArray.data_append, ByteArray.data_append, Array.toList_append, Array.toList_append, e3, csupS_data, csupS_data, hc]

theorem csupS_word (xs : List ByteArray) (i : Nat) (h : i < xs.length) :
    (csupS xs).extract (5 + S xs i + i) (5 + S xs i + i + (xs.getD i ByteArray.empty).size) = xs.getD i ByteArray.empty := by
  have hb : i < (bs xs).length := by simpa [bs] using h
  have h1 := (csup_at (bs xs) i hb).1
  rw [sizes] at h1
  have e : (bs xs)[i] = (xs.getD i ByteArray.empty).data.toList := by simp [bs, h]
  rw [e] at h1
  apply ByteArray.ext
  apply Array.toList_inj.1
  rw [Lib.extract_data, csupS_data]
  have e2 : 5 + S xs i + i + (xs.getD i ByteArray.empty).size - (5 + S xs i + i) = (xs.getD i ByteArray.empty).data.toList.length := by
    rw [← Lib.size_eq]; omega
  rw [e2]
  exact h1

theorem csupS_comma (xs : List ByteArray) (i : Nat) (h : i + 1 < xs.length) :
    ∃ hp : 5 + S xs i + i + (xs.getD i ByteArray.empty).size < (csupS xs).size, (csupS xs)[5 + S xs i + i + (xs.getD i ByteArray.empty).size]'hp = 44 := by
  have hb : i < (bs xs).length := by simp [bs]; omega
  have h1 := (csup_at (bs xs) i hb).2 (by simpa [bs] using h)
  rw [sizes] at h1
  have e : (bs xs)[i].length = (xs.getD i ByteArray.empty).size := by
    have e' : (bs xs)[i] = (xs.getD i ByteArray.empty).data.toList := by simp [bs, show i < xs.length by omega]
    rw [e', ← Lib.size_eq]
  rw [e] at h1
  obtain ⟨hp, h2⟩ := List.getElem?_eq_some_iff.1 h1
  refine ⟨by rw [Lib.size_eq (csupS xs), csupS_data]; exact hp, ?_⟩
  rw [← h2]
  simp [csupS, ByteArray.getElem_eq_getElem_data]

/-- The string of a joined list is no longer than the whole's bound. -/
theorem csupS_le (xs : List ByteArray) : (Lib.join (xs.map (·.data.toList)) [44]).length ≤ S xs xs.length + xs.length := by
  match xs with
  | [] => simp [Lib.join_nil]
  | x :: r =>
    have h := csupS_size (x :: r) (by simp)
    have h4 : (csupS (x :: r)).size = 5 + (Lib.join ((x :: r).map (·.data.toList)) [44]).length := by
      rw [Lib.size_eq, csupS_data, csupL, List.length_append]; rfl
    omega
theorem S_take (xs : List ByteArray) (k : Nat) : S (xs.take k) (xs.take k).length ≤ S xs xs.length := by
  have e : S (xs.take k) (xs.take k).length = S xs (min k xs.length) := by
    unfold S
    rw [List.length_take, List.take_take]
    congr 3
    omega
  rw [e]
  exact S_mono _ _ _ (by omega)
theorem S_all (xs : List ByteArray) : S xs xs.length = (xs.map ByteArray.size).sum := by simp [S]
theorem S_drop (xs : List ByteArray) (k : Nat) : S (xs.drop k) (xs.drop k).length ≤ S xs xs.length := by
  rw [S_all, S_all]
  have : (xs.map ByteArray.size).sum = ((xs.take k).map ByteArray.size).sum + ((xs.drop k).map ByteArray.size).sum := by
    rw [← List.sum_append, ← List.map_append, List.take_append_drop]
  omega
end Go.Proofs.Qxb6623314a.Pl
