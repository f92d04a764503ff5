/- Seat b6623333a: THE WALKS of Path.Below and Prefixed.At. -/
import Derived.Test.Qxb6623333aPaths
import Derived.Deep.RegionLawGrows
import Derived.Deep.AppendLies
namespace Go.Proofs.Qxb6623333a
open Go.RowKit Go.Maps
set_option maxRecDepth 100000

/-- The elements of a head of m elements, then the path's own. -/
def cat (m : Nat) (qs zs : Nat → ZE) : Nat → ZE := fun i => if i < m then qs i else zs (i - m)

/-- The cells of a row of elements. -/
def elCells (n : Nat) (zs : Nat → ZE) (M : Nat → Option Nat) : List Value := ((List.range n).map fun j => [Value.string (zs j).name, Value.map (M j)]).flatten

theorem elCells_succ (n : Nat) (zs : Nat → ZE) (M : Nat → Option Nat) : elCells (n + 1) zs M = elCells n zs M ++ [.string (zs n).name, .map (M n)] := by
  simp [elCells, List.range_succ]
theorem elCells_length (n : Nat) (zs : Nat → ZE) (M : Nat → Option Nat) : (elCells n zs M).length = n * 2 := by
  induction n with
  | zero => rfl
  | succ n ih => rw [elCells_succ, List.length_append, ih]; simp; omega
theorem elCells_at (n : Nat) (zs : Nat → ZE) (M : Nat → Option Nat) : ∀ j, j < n → (elCells n zs M)[j * 2]? = some (.string (zs j).name) ∧ (elCells n zs M)[j * 2 + 1]? = some (.map (M j)) := by
  induction n with
  | zero => intro j hj; omega
  | succ n ih =>
    intro j hj
    rw [elCells_succ]
    have hl := elCells_length n zs M
    by_cases e : j = n
    · subst e
      constructor
      · rw [List.getElem?_append_right (by omega), hl]; simp
      · rw [List.getElem?_append_right (by omega), hl, show j * 2 + 1 - j * 2 = 1 by omega]; rfl
    · rw [List.getElem?_append_left (by omega), List.getElem?_append_left (by omega)]
      exact ih j (by omega)
theorem elCells_one (n : Nat) (zs : Nat → ZE) (M : Nat → Option Nat) : ∀ u ∈ elCells n zs M, u.oneCell' = true := by
  induction n with
  | zero => intro u hu; cases hu
  | succ n ih =>
    intro u hu
    rw [elCells_succ, List.mem_append] at hu
    rcases hu with hu | hu
    · exact ih u hu
    · simp at hu; rcases hu with rfl | rfl <;> rfl
/-- They lie where the elements lie. -/
theorem elCells_lie {w : World} {b off n : Nat} {zs : Nat → ZE} {M : Nat → Option Nat}
    (h : ∀ j, j < n → w.cell? ⟨b, off + j * 2, none⟩ = some (.string (zs j).name) ∧ w.cell? ⟨b, off + j * 2 + 1, none⟩ = some (.map (M j)) ∧ MapIs w (M j) (zs j)) :
    ∀ i u, (elCells n zs M)[i]? = some u → w.cell? ((⟨b, off, none⟩ : Addr).add i) = some u := by
  intro i u hu
  have hl := elCells_length n zs M
  have hi : i < n * 2 := by have := (List.getElem?_eq_some_iff.1 hu).1; omega
  rw [Addr.add_lit]
  obtain ⟨q, hq⟩ : ∃ q, i = q * 2 ∨ i = q * 2 + 1 := ⟨i / 2, by omega⟩
  rcases hq with rfl | rfl
  · rw [(elCells_at n zs M q (by omega)).1] at hu; rw [(h q (by omega)).1]; exact hu
  · rw [(elCells_at n zs M q (by omega)).2] at hu; rw [← Nat.add_assoc, (h q (by omega)).2.1]; exact hu

/-- Nothing is appended: the value stays. -/
theorem step_append_zero {ops : Array Oper} {o : Oper} {a : Act} {w : World} {K : Act → World → Prop} {Q : Exit → Act → World → Prop} {E : Prop}
    (hg : o.guard = none) (s x : Operand) (hop : o.op = Op.call { callee := Callee.builtin Builtin.append, args := #[s, x], argTypes := #[26, 26] })
    (q : Addr) (m cap : Nat) (hs : a.eval s = .slice (some q) m cap) (hm : m ≤ cap) (A : Option Addr) (c : Nat) (hx : a.eval x = .slice A 0 c)
    (hK : K (a.put o.dst (.slice (some q) m cap)) w) :
    if Region.wanted o (yielded ops a.tmps) = true then Oper.wp Try.prog o a w K Q else E := by
  have hw : Region.wanted o (yielded ops a.tmps) = true := by simp [Region.wanted, hg]
  rw [if_pos hw]
  obtain ⟨i0, hi, hz0, hz1, hz2⟩ := info_parts Try.info48
  have hrun : (Builtin.append_ #[26, 26] o.type #[.slice (some q) m cap, .slice A 0 c]).run Try.prog w = .ok (.slice (some q) m cap) w := by
    cases A with
    | none => simp [Builtin.append_, run_underlying Try.underlying26, sizeOf, typeInfo, hi, Builtin.lenOf, Builtin.firstCells, hm, storeCells]
    | some y => simp [Builtin.append_, run_underlying Try.underlying26, sizeOf, typeInfo, hi, Builtin.lenOf, Builtin.firstCells, hm, storeCells, loadCells, loadCellsFrom]
  unfold Oper.wp
  simp [execOp, hop, resolve, invoke, builtin, hs, hx, hrun, Result.andThen]
  exact hK

theorem ElsIs.congr {w : World} {a : Option Addr} {n : Nat} {zs zs' : Nat → ZE} (h : ElsIs w a n zs) (e : ∀ i, i < n → zs i = zs' i) : ElsIs w a n zs' := by
  refine ⟨h.1, fun hn => ?_⟩
  obtain ⟨b, off, M, ha, hc⟩ := h.2 hn
  exact ⟨b, off, M, ha, fun j hj => by rw [← e j hj]; exact hc j hj⟩

/-- An empty head: the path itself. -/
theorem below_zero (o : ByteArray) (A : Option Addr) (n C : Nat) (Q : Option Addr) (D : Nat) (w : World) :
    Calls Try.prog 10 #[.agg #[.string o, .slice A n C], .slice Q 0 D] w fun e w' => e = .returned (.agg #[.string o, .slice A n C]) ∧ Below w.heap.size w w' := by
  go_enter Try.func10, Try.ntmps10
  go_wp2
  refine bodyPost_ret (v := .agg #[.string o, .slice A n C]) (by simp [results, Try.results10, go_sem]) rfl ⟨rfl, ?_⟩
  exact ((Below.refl _ _).alloc (Nat.le_refl _) _).alloc (by simp) _

set_option maxHeartbeats 400000 in
/-- A path without elements: the head itself. -/
theorem below_none (o : ByteArray) (A : Option Addr) (C : Nat) (q : Addr) (m D : Nat) (w : World) (hm : 0 < m) (hD : m ≤ D) (hm2 : m ≤ 1048576) :
    Calls Try.prog 10 #[.agg #[.string o, .slice A 0 C], .slice (some q) m D] w fun e w' => e = .returned (.agg #[.string o, .slice (some q) m m]) ∧ Below w.heap.size w w' := by
  have hm' : ((m : Int) == 0) = false := by simp; omega
  go_enter Try.func10, Try.ntmps10
  go_wp2
  go_region_law (refine step_append_zero rfl (.tmp 16) (.tmp 18) rfl q m m rfl (Nat.le_refl _) A C rfl ?_)
  all_goals
    go_wp2
    refine bodyPost_ret (v := .agg #[.string o, .slice (some q) m m]) (by simp [results, Try.results10, go_sem]) rfl ⟨rfl, ?_⟩
    exact (((Below.refl _ _).alloc (Nat.le_refl _) _).alloc (by simp) _).drew

/-- The new row reads as the head's elements, then the path's own. -/
theorem joined {w w2 : World} {g m n : Nat} {qs zs : Nat → ZE} {QM M : Nat → Option Nat} (hmn : m + n ≤ maxLen) (hb : Below w.heap.size w w2)
    (hcells : ∀ i, i < (m + n) * 2 → w2.cell? ⟨g, i, none⟩ = (elCells m qs QM ++ elCells n zs M)[i]?) (hq : ∀ j, j < m → MapIs w (QM j) (qs j)) (hz : ∀ j, j < n → MapIs w (M j) (zs j)) :
    ElsIs w2 (some ⟨g, 0, none⟩) (m + n) (cat m qs zs) := by
  refine ⟨hmn, fun _ => ⟨g, 0, fun j => if j < m then QM j else M (j - m), rfl, fun j hj => ?_⟩⟩
  have hl := elCells_length m qs QM
  rw [Nat.zero_add, hcells _ (by omega), hcells _ (by omega)]
  by_cases h : j < m
  · obtain ⟨e1, e2⟩ := elCells_at m qs QM j h
    rw [List.getElem?_append_left (by omega), List.getElem?_append_left (by omega), e1, e2]
    simp only [cat, h, if_true]
    exact ⟨trivial, trivial, (hq j h).later hb⟩
  · obtain ⟨e1, e2⟩ := elCells_at n zs M (j - m) (by omega)
    rw [List.getElem?_append_right (by omega), List.getElem?_append_right (by omega), hl, show j * 2 - m * 2 = (j - m) * 2 by omega, show j * 2 + 1 - m * 2 = (j - m) * 2 + 1 by omega, e1, e2]
    simp only [cat, h, if_false]
    exact ⟨trivial, trivial, (hz (j - m) (by omega)).later hb⟩

/-- The two blocks that the call lays first, in a later world. -/
theorem two_new {w w1 : World} {x y x' y' : Value} {t t' : TypeId} (hb : Below ((w.alloc (.cells #[x, y] t)).alloc (.cells #[x', y'] t')).drew.heap.size ((w.alloc (.cells #[x, y] t)).alloc (.cells #[x', y'] t')).drew w1) :
    w1.cell? ⟨w.heap.size, 0, none⟩ = some x ∧ w1.cell? ⟨w.heap.size + 1, 0, none⟩ = some x' ∧ w1.cell? ⟨w.heap.size + 1, 1, none⟩ = some y' ∧ w1.frozen? ⟨w.heap.size + 1, 0, none⟩ = false ∧ w1.frozen? ⟨w.heap.size + 1, 1, none⟩ = false := by
  have e : ((w.alloc (.cells #[x, y] t)).alloc (.cells #[x', y'] t')).drew.heap.size = w.heap.size + 2 := by simp
  refine ⟨?_, ?_, ?_, ?_, ?_⟩
  · rw [hb.cell (by rw [e]; simp)]; simp
  · rw [hb.cell (by rw [e]; simp)]; simp
  · rw [hb.cell (by rw [e]; simp)]; simp
  · rw [hb.frozen (by rw [e]; simp)]; simp
  · rw [hb.frozen (by rw [e]; simp)]; simp

theorem two_block {w w1 : World} {x y x' y' : Value} {t t' : TypeId} (hb : Below ((w.alloc (.cells #[x, y] t)).alloc (.cells #[x', y'] t')).drew.heap.size ((w.alloc (.cells #[x, y] t)).alloc (.cells #[x', y'] t')).drew w1) :
    w1.heap[w.heap.size + 1]? = some (.cells #[x', y'] t' (0, 0)) := by
  have e : ((w.alloc (.cells #[x, y] t)).alloc (.cells #[x', y'] t')).drew.heap.size = w.heap.size + 2 := by simp
  rw [hb.block _ (by rw [e]; omega)]
  have e2 : (w.alloc (.cells #[x, y] t)).heap.size = w.heap.size + 1 := by simp
  rw [← e2]
  exact heap_alloc_new (w.alloc (.cells #[x, y] t)) _

set_option maxHeartbeats 800000 in
/-- Both have elements: a new row. -/
theorem below_both (o : ByteArray) (b off n C : Nat) (zs : Nat → ZE) (M : Nat → Option Nat) (qb qo m D : Nat) (qs : Nat → ZE) (QM : Nat → Option Nat) (w : World)
    (hz : ∀ j, j < n → w.cell? ⟨b, off + j * 2, none⟩ = some (.string (zs j).name) ∧ w.cell? ⟨b, off + j * 2 + 1, none⟩ = some (.map (M j)) ∧ MapIs w (M j) (zs j))
    (hq : ∀ j, j < m → w.cell? ⟨qb, qo + j * 2, none⟩ = some (.string (qs j).name) ∧ w.cell? ⟨qb, qo + j * 2 + 1, none⟩ = some (.map (QM j)) ∧ MapIs w (QM j) (qs j))
    (hn : 0 < n) (hn2 : n ≤ 1048576) (hm : 0 < m) (hD : m ≤ D) (hm2 : m ≤ 1048576) :
    Calls Try.prog 10 #[.agg #[.string o, .slice (some ⟨b, off, none⟩) n C], .slice (some ⟨qb, qo, none⟩) m D] w fun e w' => ∃ (R : Option Addr) (c : Nat), e = .returned (.agg #[.string o, .slice R (m + n) c]) ∧ ElsIs w' R (m + n) (cat m qs zs) ∧ Below w.heap.size w w' := by
  obtain ⟨i0, hi, hz0, hz1, hz2⟩ := info_parts Try.info48
  have hm' : ((m : Int) == 0) = false := by simp; omega
  have LZ : Hid (∀ W, Below w.heap.size w W → ∀ i u, (elCells n zs M)[i]? = some u → W.cell? ((⟨b, off, none⟩ : Addr).add i) = some u) := fun W hW =>
    elCells_lie fun j hj => ⟨cell_keeps hW (hz j hj).1, cell_keeps hW (hz j hj).2.1, (hz j hj).2.2.later hW⟩
  have LQ : Hid (∀ W, Below w.heap.size w W → ∀ i u, (elCells m qs QM)[i]? = some u → W.cell? ((⟨qb, qo, none⟩ : Addr).add i) = some u) := fun W hW =>
    elCells_lie fun j hj => ⟨cell_keeps hW (hq j hj).1, cell_keeps hW (hq j hj).2.1, (hq j hj).2.2.later hW⟩
  have MZ : Hid (∀ j, j < n → MapIs w (M j) (zs j)) := fun j hj => (hz j hj).2.2
  have MQ : Hid (∀ j, j < m → MapIs w (QM j) (qs j)) := fun j hj => (hq j hj).2.2
  have HB : ∀ o1 o2, Hid (Below w.heap.size w ((w.alloc o1).alloc o2).drew) := fun o1 o2 => (((Below.refl _ _).alloc (Nat.le_refl _) _).alloc (by simp) _).drew
  clear hz hq
  go_enter Try.func10, Try.ntmps10
  go_wp2
  go_region_law (refine step_append_grows rfl (.tmp 16) (.tmp 18) 26 rfl 48 i0 (.agg #[.string ⟨#[]⟩, .map none]) 2 24 Try.underlying26 hi hz0 hz1 hz2 rfl (by decide) (some ⟨qb, qo, none⟩) m m (elCells m qs QM) rfl (fun h => by cases h) (elCells_length m qs QM) (fun b h => by cases h; exact LQ.out _ (HB _ _).out) ⟨b, off, none⟩ n C (elCells n zs M) rfl (elCells_length n zs M) (LZ.out _ (HB _ _).out) (elCells_one n zs M) (by omega) (by unfold maxLen; omega) (by omega) ?_; intro v1 w1 hown hgrow; obtain ⟨g, cap, hv1, hg1, hg2⟩ := hown.form (by omega); subst hv1; have hb1 := (Below.refl _ _).grown hgrow (Nat.le_refl _) (fun k h => by cases h); obtain ⟨r0, s0, s1, t0, t1⟩ := two_new hb1)
  all_goals
    go_wp2
    refine bodyPost_ret (v := .agg #[.string o, .slice (some ⟨g, 0, none⟩) (m + n) cap]) (by simp [results, Try.results10, go_sem, s0, s1]) rfl ⟨_, _, rfl, ?_, ?_⟩
    · have hg1' : w.heap.size + 2 ≤ g := by simpa using hg1
      refine joined (w := w) (by unfold maxLen; omega) ((((HB _ _).out.trans (hb1.mono (by simp; omega))).setCell (by simp) _).setCell (by simp) _) (fun i hi => ?_) MQ.out MZ.out
      rw [cell_setCell_far (by omega), cell_setCell_far (by omega)]
      exact hown.cellAt i hi
    · exact ((HB _ _).out.trans (hb1.mono (by simp; omega))).setCell (by simp) _ |>.setCell (by simp) _
end Go.Proofs.Qxb6623333a
