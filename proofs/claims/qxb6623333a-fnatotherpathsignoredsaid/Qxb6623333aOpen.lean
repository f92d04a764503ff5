/- Seat b6623333a: FROM A READING DOWN TO THE WORLD: what the row reads of the arguments gives what the walks ask. -/
import Derived.Test.Qxb6623333aDefs
import Derived.ProofKit
import Derived.SliceStrings
import Derived.Deep.Slices
import Derived.Deep.Strs
import Derived.Lib.SmallJoins
namespace Go.Proofs.Qxb6623333a
open Go.RowKit Go.ChangeShapes Go.WideShapes Go.Deep

theorem Try.cells9 : Try.prog.cellsOf 9 = 1 := by kernel_rfl
theorem Try.cells22 : Try.prog.cellsOf 22 = 1 := by kernel_rfl
theorem Try.cells41 : Try.prog.cellsOf 41 = 1 := by kernel_rfl
theorem Try.cells43 : Try.prog.cellsOf 43 = 3 := by kernel_rfl
theorem Try.cells38 : Try.prog.cellsOf 38 = 2 := by kernel_rfl

section
variable {H : Type} {enc : TypeId × Value → H} {w : World} {base : Nat} {held : Bool}

theorem strs_down {fuel : Nat} {cs : List Value} {x : DataW H × List MemPlace} (h : DataW.trod enc Try.prog w base (fun _ => true) held fuel 41 cs = some x) :
    ∃ a n c xs, cs = [.slice a n c] ∧ StrsIs w a n xs := by
  rcases open_strings Try.underlying41 Try.underlying9 Try.cells9 h with ⟨rfl, _⟩ | ⟨a, len, cap, ss, rfl, _, hl, hm, hz, _, hcell, hsz⟩
  · exact ⟨none, 0, 0, fun _ => ByteArray.empty, rfl, Nat.zero_le _, fun j hj => by omega, fun hn => by omega⟩
  · have hz' : ss.length = cap := by simpa using hz
    refine ⟨some a, len, cap, fun j => ss.getD j ByteArray.empty, rfl, Nat.le_trans hl hm, fun j hj => hsz _ (by simp [show j < ss.length by omega]), fun hn => ?_⟩
    obtain ⟨b, off, spot⟩ := a
    have hspot : spot = none := by simpa [Addr.add] using World.cell?_spot (hcell 0 (by omega))
    subst hspot
    exact ⟨b, off, rfl, fun j hj => by rw [← Addr.add_lit]; exact hcell j (by omega)⟩

theorem cells_each {a : Addr} {n : Nat} {cs : List Value} (h : w.cells? base a n = some cs) : ∀ k, k < n → w.cell? (a.add k) = cs[k]? :=
  (World.cells?_some h).2.2

theorem list3 {α : Type} {l : List α} (h : l.length = 3) : ∃ a b c, l = [a, b, c] := by
  match l, h with
  | [a, b, c], _ => exact ⟨a, b, c, rfl⟩
theorem list2 {α : Type} {l : List α} (h : l.length = 2) : ∃ a b, l = [a, b] := by
  match l, h with
  | [a, b], _ => exact ⟨a, b, rfl⟩

theorem elem_down {fuel : Nat} {cs : List Value} {x : DataW H × List MemPlace} (h : DataW.trod enc Try.prog w base (fun _ => true) held fuel 43 cs = some x) :
    ∃ z : ZE, cs = [.string z.name, .slice z.ka z.kn z.kc, .slice z.va z.vn z.vc] ∧ z.ok w := by
  obtain ⟨y0, y1, y2, n, _, hl, h0, h1, h2⟩ := trod_struct3 Try.underlying43 h
  rw [Try.cells43] at hl
  obtain ⟨c0, c1, c2, rfl⟩ := list3 hl
  simp only [Try.cells9, Try.cells41, List.drop_zero, List.drop_succ_cons, List.take_succ_cons, List.take_zero] at h0 h1 h2
  obtain ⟨s, e0, _, _⟩ := DataW.trod_string Try.underlying9 h0
  obtain ⟨ka, kn, kc, ks, e1, hk⟩ := strs_down h1
  obtain ⟨va, vn, vc, vs, e2, hv⟩ := strs_down h2
  simp only [List.cons.injEq, and_true] at e0 e1 e2
  subst e0 e1 e2
  exact ⟨⟨s, ka, kn, kc, ks, va, vn, vc, vs⟩, rfl, hk, hv⟩

theorem elems_down {fuel : Nat} {cs : List Value} {x : DataW H × List MemPlace} (h : DataW.trod enc Try.prog w base (fun _ => true) held fuel 22 cs = some x) :
    ∃ a n c zs, cs = [.slice a n c] ∧ n ≤ c ∧ ZEsIs w a n zs := by
  have dz : ZE := ⟨ByteArray.empty, none, 0, 0, fun _ => ByteArray.empty, none, 0, 0, fun _ => ByteArray.empty⟩
  rcases open_slice Try.underlying22 h with ⟨rfl, _⟩ | ⟨a, len, cap, m, n, D, Pl, rfl, _, hl, hm, hmm, _, hel⟩
  · exact ⟨none, 0, 0, fun _ => dz, rfl, Nat.le_refl _, Nat.zero_le _, fun j hj => by omega, fun hn => by omega⟩
  · have hmc : m = cap := by simpa using hmm
    have each : ∀ i, i < len → ∃ z : ZE, w.cells? base (a.add (i * 3)) 3 = some [.string z.name, .slice z.ka z.kn z.kc, .slice z.va z.vn z.vc] ∧ z.ok w := by
      intro i hi
      obtain ⟨cs', h1, h2⟩ := hel i (by omega)
      rw [Try.cells43] at h1
      obtain ⟨z, rfl, hz⟩ := elem_down h2
      exact ⟨z, h1, hz⟩
    obtain ⟨zs, hzs⟩ := @choose_lt ZE ⟨dz⟩ len _ each
    refine ⟨some a, len, cap, zs, rfl, hl, Nat.le_trans hl hm, fun j hj => (hzs j hj).2, fun hn => ?_⟩
    obtain ⟨b, off, spot⟩ := a
    have cellsAt : ∀ j, j < len → ∀ k, k < 3 → w.cell? (((⟨b, off, spot⟩ : Addr).add (j * 3)).add k) = [Value.string (zs j).name, .slice (zs j).ka (zs j).kn (zs j).kc, .slice (zs j).va (zs j).vn (zs j).vc][k]? :=
      fun j hj k hk => cells_each (hzs j hj).1 k hk
    have hspot : spot = none := by
      have := World.cell?_spot (cellsAt 0 hn 0 (by omega))
      simpa [Addr.add] using this
    subst hspot
    refine ⟨b, off, rfl, fun j hj => ⟨?_, ?_, ?_⟩⟩
    · have := cellsAt j hj 0 (by omega); simpa [Addr.add_lit] using this
    · have := cellsAt j hj 1 (by omega); simpa [Addr.add_lit] using this
    · have := cellsAt j hj 2 (by omega); simpa [Addr.add_lit] using this

theorem path_down {fuel : Nat} {cs : List Value} {x : DataW H × List MemPlace} (h : DataW.trod enc Try.prog w base (fun _ => true) held fuel 38 cs = some x) :
    ∃ p : ZP, cs = [.string p.origin, .slice p.a p.n p.c] ∧ p.ok w := by
  obtain ⟨y0, y1, n, _, hl, h0, h1⟩ := trod_struct2 Try.underlying38 h
  rw [Try.cells38] at hl
  obtain ⟨c0, c1, rfl⟩ := list2 hl
  simp only [Try.cells9, Try.cells22, List.drop_zero, List.drop_succ_cons, List.take_succ_cons, List.take_zero] at h0 h1
  obtain ⟨s, e0, _, _⟩ := DataW.trod_string Try.underlying9 h0
  obtain ⟨a, n, c, zs, e1, _, hz⟩ := elems_down h1
  simp only [List.cons.injEq, and_true] at e0 e1
  subst e0 e1
  exact ⟨⟨s, a, n, c, zs⟩, rfl, hz⟩

theorem paths_down {fuel : Nat} {cs : List Value} {x : DataW H × List MemPlace} (h : DataW.trod enc Try.prog w base (fun _ => true) held fuel 23 cs = some x) :
    ∃ a n c ps, cs = [.slice a n c] ∧ n ≤ c ∧ ZPsIs w a n ps := by
  have dz : ZE := ⟨ByteArray.empty, none, 0, 0, fun _ => ByteArray.empty, none, 0, 0, fun _ => ByteArray.empty⟩
  have dp : ZP := ⟨ByteArray.empty, none, 0, 0, fun _ => dz⟩
  rcases open_slice Try.underlying23 h with ⟨rfl, _⟩ | ⟨a, len, cap, m, n, D, Pl, rfl, _, hl, hm, hmm, _, hel⟩
  · exact ⟨none, 0, 0, fun _ => dp, rfl, Nat.le_refl _, Nat.zero_le _, fun j hj => by omega, fun hn => by omega⟩
  · have hmc : m = cap := by simpa using hmm
    have each : ∀ i, i < len → ∃ p : ZP, w.cells? base (a.add (i * 2)) 2 = some [.string p.origin, .slice p.a p.n p.c] ∧ p.ok w := by
      intro i hi
      obtain ⟨cs', h1, h2⟩ := hel i (by omega)
      rw [Try.cells38] at h1
      obtain ⟨p, rfl, hp⟩ := path_down h2
      exact ⟨p, h1, hp⟩
    obtain ⟨ps, hps⟩ := @choose_lt ZP ⟨dp⟩ len _ each
    refine ⟨some a, len, cap, ps, rfl, hl, Nat.le_trans hl hm, fun j hj => (hps j hj).2, fun hn => ?_⟩
    obtain ⟨b, off, spot⟩ := a
    have cellsAt : ∀ j, j < len → ∀ k, k < 2 → w.cell? (((⟨b, off, spot⟩ : Addr).add (j * 2)).add k) = [Value.string (ps j).origin, .slice (ps j).a (ps j).n (ps j).c][k]? :=
      fun j hj k hk => cells_each (hps j hj).1 k hk
    have hspot : spot = none := by
      have := World.cell?_spot (cellsAt 0 hn 0 (by omega))
      simpa [Addr.add] using this
    subst hspot
    refine ⟨b, off, rfl, fun j hj => ⟨?_, ?_⟩⟩
    · have := cellsAt j hj 0 (by omega); simpa [Addr.add_lit] using this
    · have := cellsAt j hj 1 (by omega); simpa [Addr.add_lit] using this
end
end Go.Proofs.Qxb6623333a
