/- Seat b6623336aF: the bound's own check, and the copy of the text. -/
import Derived.Test.Qxb6623336aFmtLaw3
import Derived.Maps.AppendAt
namespace Go.Proofs.Qxb6623336aFmt
open Go.RowKit Go.Extern.Stop Go.Stop Go.Extern

set_option maxHeartbeats 400000 in
theorem zz_small (p : Option Addr) (n c : Nat) (b : Int) (w : World) (h : n ≤ 1048576) :
    Calls Tryf.prog 7 #[.slice p n c, .int .i64 b] w fun e w' => e = .returned (.bool true) ∧ w' = w := by
  have hn : ¬ ((1048576 : Int) < (n : Int)) := by omega
  go_enter Tryf.func7, Tryf.ntmps7
  go_wp2
  go_ret
  exact ⟨rfl, rfl⟩

set_option maxHeartbeats 400000 in
theorem zz_great (p : Option Addr) (n c : Nat) (b : Int) (w : World) (h : ¬ n ≤ 1048576) :
    Calls Tryf.prog 7 #[.slice p n c, .int .i64 b] w fun e w' => e = .returned (.bool false) ∧ w' = w := by
  have hn : (1048576 : Int) < (n : Int) := by omega
  go_enter Tryf.func7, Tryf.ntmps7
  go_wp2
  go_ret
  exact ⟨rfl, rfl⟩

theorem info_parts {P : Program} {e : TypeId} {z : Value} {s b : Nat} (h : (P.info? e).map (fun i => (i.zero, i.size, i.bytes)) = some (some z, s, b)) :
    ∃ i, P.info? e = some i ∧ i.zero = some z ∧ i.size = s ∧ i.bytes = b := by
  cases hi : P.info? e with
  | none => rw [hi] at h; cases h
  | some i =>
    rw [hi] at h
    simp at h
    exact ⟨i, rfl, h.1, h.2.1, h.2.2⟩

theorem info5 : (Tryf.prog.info? 5).map (fun i => (i.zero, i.size, i.bytes)) = some (some (.int .u8 0), 1, 1) := by kernel_rfl

/-- The copy of a text: the bytes are the text's, in a row that is laid now. -/
theorem copy_bytes (a : Addr) (cap : Nat) (xs : List Int) (w : World) (hc : ∀ j u, (xs.map (Value.int .u8))[j]? = some u → w.cell? (a.add j) = some u) (hn : xs.length ≤ 1048576) :
    ∃ v wx, (Builtin.append_ #[23, 23] 23 #[.slice (some ⟨w.heap.size, 0, none⟩) 0 0, .slice (some a) xs.length cap]).run Tryf.prog (w.alloc (.cells #[] 5)) = .ok v wx ∧
      Below w.heap.size w wx ∧ BytesIs wx v xs := by
  obtain ⟨i, hi, hz, hs, hb⟩ := info_parts info5
  have hown : (w.alloc (.cells #[] 5)).ownsRow w.heap.size 5 1 (.slice (some ⟨w.heap.size, 0, none⟩) 0 0) 0 [] :=
    ⟨rfl, Or.inr ⟨w.heap.size, 0, #[], rfl, Nat.le_refl _, by simp [World.alloc, -World.alloc_eq], Nat.le_refl _, by unfold maxLen; omega, rfl, rfl⟩⟩
  have bel : Below w.heap.size w (w.alloc (.cells #[] 5)) := (Below.refl _ w).alloc (Nat.le_refl _) _
  obtain ⟨v', w', hr, ho, hg, _, _⟩ := run_append_own_at (P := Tryf.prog) (w.alloc (.cells #[] 5)) w.heap.size 23 23 5 i (.int .u8 0) 1 1 Tryf.underlying23 hi hz hs hb rfl (by omega)
    (.slice (some ⟨w.heap.size, 0, none⟩) 0 0) 0 [] hown a xs.length cap (xs.map (Value.int .u8)) (by simp) (fun j u hj => cell_later bel (hc j u hj)) (by
      intro u hu
      obtain ⟨x, _, rfl⟩ := List.mem_map.1 hu
      rfl) (by unfold maxLen; omega) (by omega) bel.size
  refine ⟨v', w', hr, bel.grown hg bel.size (fun k hk => by simp [Value.ownBlock] at hk; omega), ?_⟩
  rw [Nat.zero_add] at ho
  rcases ho.2 with ⟨hv, h0⟩ | ⟨g, c, cur, hv, _, hgc, _, _, _, ht⟩
  · exact Or.inl ⟨hv, List.length_eq_zero_iff.1 h0⟩
  · refine Or.inr ⟨⟨g, 0, none⟩, c, hv, fun j u hj => ?_⟩
    have ha : (⟨g, 0, none⟩ : Addr).add j = ⟨g, j, none⟩ := by simp [Addr.add]; exact fun h => h.symm
    rw [List.nil_append, Nat.mul_one] at ht
    rw [← ht] at hj
    have hjl := (List.getElem?_eq_some_iff.1 hj).1
    rw [List.getElem?_take_of_lt (by simp at hjl; omega)] at hj
    rw [ha]
    simp [World.cell?, hgc]
    simpa using hj

end Go.Proofs.Qxb6623336aFmt
