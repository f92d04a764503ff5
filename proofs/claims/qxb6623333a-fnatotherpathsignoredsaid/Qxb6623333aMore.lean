/- Seat b6623333a: THE CELLS of a row of paths, and of that row with one more path put in at place j. -/
import Derived.Test.Qxb6623333aDefs
namespace Go.Proofs.Qxb6623333a
open Go.RowKit Go.Maps

def pCells (n : Nat) (ps : Nat → ZP) : List Value := ((List.range n).map fun j => [Value.string (ps j).origin, Value.slice (ps j).a (ps j).n (ps j).c]).flatten

theorem pCells_succ (n : Nat) (ps : Nat → ZP) : pCells (n + 1) ps = pCells n ps ++ [.string (ps n).origin, .slice (ps n).a (ps n).n (ps n).c] := by
  simp [pCells, List.range_succ]
theorem pCells_length (n : Nat) (ps : Nat → ZP) : (pCells n ps).length = n * 2 := by
  induction n with
  | zero => rfl
  | succ n ih => rw [pCells_succ, List.length_append, ih]; simp; omega
theorem pCells_at (n : Nat) (ps : Nat → ZP) : ∀ j, j < n → (pCells n ps)[j * 2]? = some (.string (ps j).origin) ∧ (pCells n ps)[j * 2 + 1]? = some (.slice (ps j).a (ps j).n (ps j).c) := by
  induction n with
  | zero => intro j hj; omega
  | succ n ih =>
    intro j hj
    rw [pCells_succ]
    have hl := pCells_length n ps
    by_cases e : j = n
    · subst e
      constructor
      · rw [List.getElem?_append_right (by omega), hl]; simp
      · rw [List.getElem?_append_right (by omega), hl, show j * 2 + 1 - j * 2 = 1 by omega]; rfl
    · rw [List.getElem?_append_left (by omega), List.getElem?_append_left (by omega)]
      exact ih j (by omega)
theorem pCells_one (n : Nat) (ps : Nat → ZP) : ∀ u ∈ pCells n ps, u.oneCell' = true := by
  induction n with
  | zero => intro u hu; cases hu
  | succ n ih =>
    intro u hu
    rw [pCells_succ, List.mem_append] at hu
    rcases hu with hu | hu
    · exact ih u hu
    · simp at hu; rcases hu with rfl | rfl <;> rfl
/-- They lie where the paths lie. -/
theorem pCells_lie {w : World} {b off n : Nat} {ps : Nat → ZP}
    (h : ∀ j, j < n → w.cell? ⟨b, off + j * 2, none⟩ = some (.string (ps j).origin) ∧ w.cell? ⟨b, off + j * 2 + 1, none⟩ = some (.slice (ps j).a (ps j).n (ps j).c)) :
    ∀ i u, (pCells n ps)[i]? = some u → w.cell? ((⟨b, off, none⟩ : Addr).add i) = some u := by
  intro i u hu
  have hl := pCells_length n ps
  have hi : i < n * 2 := by have := (List.getElem?_eq_some_iff.1 hu).1; omega
  rw [Addr.add_lit]
  obtain ⟨q, hq⟩ : ∃ q, i = q * 2 ∨ i = q * 2 + 1 := ⟨i / 2, by omega⟩
  rcases hq with rfl | rfl
  · rw [(pCells_at n ps q (by omega)).1] at hu; rw [(h q (by omega)).1]; exact hu
  · rw [(pCells_at n ps q (by omega)).2] at hu; rw [← Nat.add_assoc, (h q (by omega)).2]; exact hu

/-- One more path at place j. -/
def ins (j : Nat) (ps : Nat → ZP) (x : ZP) : Nat → ZP := fun k => if k < j then ps k else if k = j then x else ps (k - 1)

theorem ins_at (j : Nat) (ps : Nat → ZP) (x : ZP) : ins j ps x j = x := by simp [ins]
theorem ins_shift (j i : Nat) (ps : Nat → ZP) (x : ZP) : ins j ps x (if j ≤ i then i + 1 else i) = ps i := by
  unfold ins
  split
  · rename_i h
    split
    · omega
    · split
      · omega
      · rw [Nat.add_sub_cancel]
  · rename_i h
    rw [if_pos (by omega)]

theorem pCells_append (m n : Nat) (ps : Nat → ZP) : pCells (m + n) ps = pCells m ps ++ pCells n (fun k => ps (m + k)) := by
  induction n with
  | zero => simp [pCells]
  | succ n ih => rw [← Nat.add_assoc, pCells_succ, ih, pCells_succ, List.append_assoc]
theorem pCells_congr (n : Nat) (ps qs : Nat → ZP) (h : ∀ k, k < n → ps k = qs k) : pCells n ps = pCells n qs := by
  induction n with
  | zero => rfl
  | succ n ih => rw [pCells_succ, pCells_succ, ih (fun k hk => h k (by omega)), h n (by omega)]

theorem pCells_ins (j n : Nat) (ps : Nat → ZP) (x : ZP) (h : j ≤ n) :
    pCells j ps ++ [.string x.origin, .slice x.a x.n x.c] ++ pCells (n - j) (fun k => ps (j + k)) = pCells (n + 1) (ins j ps x) := by
  have e : n + 1 = (j + 1) + (n - j) := by omega
  rw [e, pCells_append, pCells_succ, ins_at]
  congr 1
  · congr 1
    exact pCells_congr _ _ _ fun k hk => by simp [ins, hk]
  · refine pCells_congr _ _ _ fun k _ => ?_
    have h1 : ¬ j + 1 + k < j := by omega
    have h2 : ¬ j + 1 + k = j := by omega
    simp only [ins, h1, h2, if_false]
    congr 1
    omega

/-- The row that holds those cells is a slice of paths. -/
theorem ZPsIs.ofRow {w : World} {g N : Nat} {ps : Nat → ZP} (hN : N ≤ maxLen) (hok : ∀ k, k < N → (ps k).ok w) (hc : ∀ i, i < N * 2 → w.cell? ⟨g, i, none⟩ = (pCells N ps)[i]?) : ZPsIs w (some ⟨g, 0, none⟩) N ps := by
  refine ⟨hN, hok, fun _ => ⟨g, 0, rfl, fun k hk => ?_⟩⟩
  obtain ⟨h1, h2⟩ := pCells_at N ps k hk
  rw [Nat.zero_add, hc _ (by omega), hc _ (by omega)]
  exact ⟨h1, h2⟩
end Go.Proofs.Qxb6623333a
