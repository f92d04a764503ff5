/- Seat b6623333a: Path.Below at every input; THE WALK of Prefixed.At. -/
import Derived.Test.Qxb6623333aBelow
namespace Go.Proofs.Qxb6623333a
open Go.RowKit Go.Maps
set_option maxRecDepth 100000

/-- Path.Below AT EVERY INPUT. -/
theorem below_any (o : ByteArray) (A : Option Addr) (n C : Nat) (zs : Nat → ZE) (Q : Option Addr) (m D : Nat) (qs : Nat → ZE) (w : World) (hz : ElsIs w A n zs) (hq : ElsIs w Q m qs) (hn : n ≤ 1048576) (hm : m ≤ 1048576) (hD : m ≤ D) :
    Calls Try.prog 10 #[.agg #[.string o, .slice A n C], .slice Q m D] w fun e w' => ∃ (R : Option Addr) (c : Nat), e = .returned (.agg #[.string o, .slice R (m + n) c]) ∧ ElsIs w' R (m + n) (cat m qs zs) ∧ Below w.heap.size w w' := by
  by_cases hm0 : m = 0
  · subst hm0
    refine (below_zero o A n C Q D w).mono ?_
    rintro e w' ⟨rfl, hb⟩
    refine ⟨A, C, by rw [Nat.zero_add], ?_, hb⟩
    rw [Nat.zero_add]
    exact (hz.later hb).congr fun i _ => by simp [cat]
  · obtain ⟨qb, qo, QM, rfl, hqc⟩ := hq.2 (by omega)
    by_cases hn0 : n = 0
    · subst hn0
      refine (below_none o A C ⟨qb, qo, none⟩ m D w (by omega) hD hm).mono ?_
      rintro e w' ⟨rfl, hb⟩
      exact ⟨_, _, rfl, (hq.later hb).congr fun i hi => by simp [cat, show i < m by omega], hb⟩
    · obtain ⟨b, off, M, rfl, hzc⟩ := hz.2 (by omega)
      exact below_both o b off n C zs M qb qo m D qs QM w hzc hqc (by omega) hn (by omega) hD hm

theorem cell_setCell_else {w : World} {g o b q : Nat} (h : b ≠ g) (v : Value) : (w.setCell ⟨g, o, none⟩ v).cell? ⟨b, q, none⟩ = w.cell? ⟨b, q, none⟩ :=
  World.cell?_of_block (w := w) (Below.heap_setCell _ _ _ _ h)

/-- A store into a result's block (a string, a slice) touches no row of elements. -/
theorem ElsIs.setResult {w : World} {g : Nat} {x : Value} {a' : Option Addr} {n' c' : Nat} {t : TypeId} {fr : Nat × Nat} (hg : w.heap[g]? = some (.cells #[x, .slice a' n' c'] t fr)) {R : Option Addr} {n : Nat} {zs : Nat → ZE} (h : ElsIs w R n zs) (u v : Value) :
    ElsIs ((w.setCell ⟨g, 0, none⟩ u).setCell ⟨g, 1, none⟩ v) R n zs := by
  refine ⟨h.1, fun hn => ?_⟩
  obtain ⟨b, off, M, hR, hc⟩ := h.2 hn
  have hbg : b ≠ g := by
    intro e
    subst e
    have h1 := (hc 0 hn).2.1
    rw [cell_of_row w b _ _ t fr hg, Nat.zero_mul, Nat.add_zero] at h1
    have : off + 1 < 2 := by
      have := (Array.getElem?_eq_some_iff.1 h1).1
      simpa using this
    obtain rfl : off = 0 := by omega
    simp at h1
  refine ⟨b, off, M, hR, fun j hj => ?_⟩
  obtain ⟨h1, h2, h3⟩ := hc j hj
  refine ⟨by rw [cell_setCell_else hbg, cell_setCell_else hbg]; exact h1, by rw [cell_setCell_else hbg, cell_setCell_else hbg]; exact h2, ?_⟩
  rcases h3 with h3 | ⟨h0, m, hr, hm⟩
  · exact .inl h3
  · have hmg : m ≠ g := by
      intro e
      subst e
      obtain ⟨es, clock, hb, _⟩ := hm
      rw [hg] at hb
      cases hb
    exact .inr ⟨h0, m, hr, (hm.setCell (a := ⟨g, 0, none⟩) hmg u).setCell (a := ⟨g, 1, none⟩) hmg v⟩

set_option maxHeartbeats 800000 in
theorem at_any (Q : Option Addr) (m D : Nat) (qs : Nat → ZE) (P : Option Addr) (n C : Nat) (ps : Nat → ZP) (i : Nat) (w : World) (hq : ElsIs w Q m qs) (hp : PathsIs w P n ps) (hi : i < n) (hn : (ps i).n ≤ 1048576) (hm : m ≤ 1048576) (hD : m ≤ D) :
    Calls Try.prog 9 #[.agg #[.slice Q m D, .slice P n C], .int .i64 i] w fun e w' => ∃ (R : Option Addr) (c : Nat), e = .returned (.agg #[.string (ps i).origin, .slice R (m + (ps i).n) c]) ∧ ElsIs w' R (m + (ps i).n) (cat m qs (ps i).zs) ∧ Below w.heap.size w w' := by
  obtain ⟨hn1, hp2⟩ := hp
  obtain ⟨b, off, A, C', rfl, hc⟩ := hp2 (by omega)
  obtain ⟨c0, c1, he⟩ := hc i hi
  clear hp2 hc
  unfold maxLen at hn1
  have hb := World.block_lt_of_cell? _ _ c0
  have hin : (i : Int) < (n : Int) := by omega
  have HE : Hid (∀ W, Below w.heap.size w W → ElsIs W (A i) (ps i).n (ps i).zs) := fun W hW => he.later hW
  have HQ : Hid (∀ W, Below w.heap.size w W → ElsIs W Q m qs) := fun W hW => hq.later hW
  have HB : ∀ o1 o2, Hid (Below w.heap.size w ((w.alloc o1).alloc o2).drew) := fun o1 o2 => (((Below.refl _ _).alloc (Nat.le_refl _) _).alloc (by simp) _).drew
  clear he hq
  go_enter Try.func9, Try.ntmps9
  go_wp2
  go_region_with (go_at_call 10; refine (below_any (ps i).origin (A i) (ps i).n (C' i) (ps i).zs Q m D qs _ (by exact HE.out _ (HB _ _).out) (by exact HQ.out _ (HB _ _).out) hn hm hD).mono ?_; rintro e w1 ⟨R, c, rfl, hR, hb1⟩; obtain ⟨r0, s0, s1, t0, t1⟩ := two_new hb1; have hg1 := two_block hb1; have hb2 := (HB _ _).out.trans (hb1.mono (by simp; omega)); clear hb1)
  all_goals
    go_wp2
    refine bodyPost_ret (v := .agg #[.string (ps i).origin, .slice R (m + (ps i).n) c]) (by simp [results, Try.results9, go_sem, s0, s1]) rfl ⟨R, c, rfl, hR.setResult hg1 _ _, ?_⟩
    exact (hb2.setCell (by simp) _).setCell (by simp) _
end Go.Proofs.Qxb6623333a
