/- Seat b6623333a: WHAT THE ARGUMENTS ARE, AND WHAT THE CALL MAKES OF THEM: predicates on the world, and that they last while nothing old is written. The plain law of the map that zzMap fills. -/
import Derived.Test.Qxb6623333aRows
import Derived.WalkKit
import Derived.WalkSpells
import Derived.WalkLawsBesides
import Derived.Maps.OwnSet
import Derived.Maps.StringElems
namespace Go.Proofs.Qxb6623333a
open Go.RowKit Go.Maps

/-! ### A slice of strings that came in -/
def StrsIs (w : World) (a : Option Addr) (n : Nat) (xs : Nat → ByteArray) : Prop :=
  n ≤ maxLen ∧ (∀ j, j < n → (xs j).size ≤ maxLen) ∧ (0 < n → ∃ b off, a = some ⟨b, off, none⟩ ∧ ∀ j, j < n → w.cell? ⟨b, off + j, none⟩ = some (.string (xs j)))

theorem cell_keeps {w w' : World} (hb : Below w.heap.size w w') {b o : Nat} {v : Value} (h : w.cell? ⟨b, o, none⟩ = some v) : w'.cell? ⟨b, o, none⟩ = some v := by
  rw [hb.cell (World.block_lt_of_cell? _ _ h)]; exact h

theorem StrsIs.later {w w' : World} {a : Option Addr} {n : Nat} {xs : Nat → ByteArray} (h : StrsIs w a n xs) (hb : Below w.heap.size w w') : StrsIs w' a n xs := by
  obtain ⟨h1, h2, h3⟩ := h
  refine ⟨h1, h2, fun hn => ?_⟩
  obtain ⟨b, off, ha, hc⟩ := h3 hn
  exact ⟨b, off, ha, fun j hj => cell_keeps hb (hc j hj)⟩

/-! ### A ZElem, and a slice of them -/
structure ZE where
  name : ByteArray
  ka : Option Addr
  kn : Nat
  kc : Nat
  ks : Nat → ByteArray
  va : Option Addr
  vn : Nat
  vc : Nat
  vs : Nat → ByteArray

def ZE.ok (z : ZE) (w : World) : Prop := StrsIs w z.ka z.kn z.ks ∧ StrsIs w z.va z.vn z.vs
theorem ZE.ok.later {z : ZE} {w w' : World} (h : z.ok w) (hb : Below w.heap.size w w') : z.ok w' := ⟨h.1.later hb, h.2.later hb⟩

def ZEsIs (w : World) (a : Option Addr) (n : Nat) (zs : Nat → ZE) : Prop :=
  n ≤ maxLen ∧ (∀ j, j < n → (zs j).ok w) ∧
  (0 < n → ∃ b off, a = some ⟨b, off, none⟩ ∧ ∀ j, j < n → w.cell? ⟨b, off + j * 3, none⟩ = some (.string (zs j).name) ∧
    w.cell? ⟨b, off + j * 3 + 1, none⟩ = some (.slice (zs j).ka (zs j).kn (zs j).kc) ∧ w.cell? ⟨b, off + j * 3 + 2, none⟩ = some (.slice (zs j).va (zs j).vn (zs j).vc))
theorem ZEsIs.later {w w' : World} {a : Option Addr} {n : Nat} {zs : Nat → ZE} (h : ZEsIs w a n zs) (hb : Below w.heap.size w w') : ZEsIs w' a n zs := by
  obtain ⟨h1, h2, h3⟩ := h
  refine ⟨h1, fun j hj => (h2 j hj).later hb, fun hn => ?_⟩
  obtain ⟨b, off, ha, hc⟩ := h3 hn
  exact ⟨b, off, ha, fun j hj => ⟨cell_keeps hb (hc j hj).1, cell_keeps hb (hc j hj).2.1, cell_keeps hb (hc j hj).2.2⟩⟩

/-! ### A ZPath, and a slice of them -/
structure ZP where
  origin : ByteArray
  a : Option Addr
  n : Nat
  c : Nat
  zs : Nat → ZE

def ZP.ok (p : ZP) (w : World) : Prop := ZEsIs w p.a p.n p.zs
theorem ZP.ok.later {p : ZP} {w w' : World} (h : p.ok w) (hb : Below w.heap.size w w') : p.ok w' := ZEsIs.later h hb

def ZPsIs (w : World) (a : Option Addr) (n : Nat) (ps : Nat → ZP) : Prop :=
  n ≤ maxLen ∧ (∀ j, j < n → (ps j).ok w) ∧
  (0 < n → ∃ b off, a = some ⟨b, off, none⟩ ∧ ∀ j, j < n → w.cell? ⟨b, off + j * 2, none⟩ = some (.string (ps j).origin) ∧
    w.cell? ⟨b, off + j * 2 + 1, none⟩ = some (.slice (ps j).a (ps j).n (ps j).c))
theorem ZPsIs.later {w w' : World} {a : Option Addr} {n : Nat} {ps : Nat → ZP} (h : ZPsIs w a n ps) (hb : Below w.heap.size w w') : ZPsIs w' a n ps := by
  obtain ⟨h1, h2, h3⟩ := h
  refine ⟨h1, fun j hj => (h2 j hj).later hb, fun hn => ?_⟩
  obtain ⟨b, off, ha, hc⟩ := h3 hn
  exact ⟨b, off, ha, fun j hj => ⟨cell_keeps hb (hc j hj).1, cell_keeps hb (hc j hj).2⟩⟩

/-! ### The map that zzMap fills -/
def ZE.num (z : ZE) : Nat := min z.kn z.vn
def keyL (s : ByteArray) : Lit := .string s.data.toList
def valD (s : ByteArray) : DataW Unit := .lit (.string s.data.toList)
/-- The map behind j pairs. -/
def ZE.map (z : ZE) : Nat → DataW Unit
  | 0 => .map []
  | j + 1 => (z.map j).put (keyL (z.ks j)) (valD (z.vs j))

theorem keyL_key (s : ByteArray) : WideAt.IsKeyLit (keyL s) := by trivial
theorem ZE.isMap (z : ZE) : ∀ j, IsMap (z.map j)
  | 0 => isMap_empty
  | j + 1 => (z.isMap j).put _ _
theorem ZE.has_key (z : ZE) (i : Nat) : ∀ j, i < j → Maps.has (z.map j) (keyL (z.ks i)) = true
  | 0, h => by omega
  | j + 1, h => by
    show Maps.has ((z.map j).put (keyL (z.ks j)) (valD (z.vs j))) _ = true
    by_cases e : keyL (z.ks i) = keyL (z.ks j)
    · rw [e]; exact has_put_same (z.isMap j) (keyL_key _) _
    · rw [has_put_other e]
      refine z.has_key i j ?_
      by_cases e2 : i = j
      · subst e2; exact absurd rfl e
      · omega

def MapIs (w : World) (r : Option Nat) (z : ZE) : Prop :=
  (z.num = 0 ∧ r = none) ∨ (0 < z.num ∧ ∃ m, r = some m ∧ w.ownsMap Try.prog 9 (plainElem Try.prog 9) m z.num (z.map z.num))

theorem ownsMap_later {w w' : World} {m n : Nat} {D : DataW Unit} (h : w.ownsMap Try.prog 9 (plainElem Try.prog 9) m n D) {B : Nat} (hb : Below B w w') (hm : m < B) : w'.ownsMap Try.prog 9 (plainElem Try.prog 9) m n D := by
  obtain ⟨es, clock, h1, h2⟩ := h
  exact ⟨es, clock, (hb.block m hm).trans h1, h2⟩
theorem MapIs.later {w w' : World} {r : Option Nat} {z : ZE} (h : MapIs w r z) (hb : Below w.heap.size w w') : MapIs w' r z := by
  rcases h with h | ⟨h0, m, hr, hm⟩
  · exact .inl h
  · exact .inr ⟨h0, m, hr, ownsMap_later hm hb hm.lt⟩

/-! ### What zzElems, zzPaths and Below make -/
def ElsIs (w : World) (a : Option Addr) (n : Nat) (zs : Nat → ZE) : Prop :=
  n ≤ maxLen ∧ (0 < n → ∃ (b off : Nat) (M : Nat → Option Nat), a = some ⟨b, off, none⟩ ∧ ∀ j, j < n → w.cell? ⟨b, off + j * 2, none⟩ = some (.string (zs j).name) ∧
    w.cell? ⟨b, off + j * 2 + 1, none⟩ = some (.map (M j)) ∧ MapIs w (M j) (zs j))
theorem ElsIs.later {w w' : World} {a : Option Addr} {n : Nat} {zs : Nat → ZE} (h : ElsIs w a n zs) (hb : Below w.heap.size w w') : ElsIs w' a n zs := by
  obtain ⟨h1, h3⟩ := h
  refine ⟨h1, fun hn => ?_⟩
  obtain ⟨b, off, M, ha, hc⟩ := h3 hn
  exact ⟨b, off, M, ha, fun j hj => ⟨cell_keeps hb (hc j hj).1, cell_keeps hb (hc j hj).2.1, (hc j hj).2.2.later hb⟩⟩

def PathsIs (w : World) (a : Option Addr) (n : Nat) (ps : Nat → ZP) : Prop :=
  n ≤ maxLen ∧ (0 < n → ∃ (b off : Nat) (A : Nat → Option Addr) (C : Nat → Nat), a = some ⟨b, off, none⟩ ∧ ∀ j, j < n → w.cell? ⟨b, off + j * 2, none⟩ = some (.string (ps j).origin) ∧
    w.cell? ⟨b, off + j * 2 + 1, none⟩ = some (.slice (A j) (ps j).n (C j)) ∧ ElsIs w (A j) (ps j).n (ps j).zs)
theorem PathsIs.later {w w' : World} {a : Option Addr} {n : Nat} {ps : Nat → ZP} (h : PathsIs w a n ps) (hb : Below w.heap.size w w') : PathsIs w' a n ps := by
  obtain ⟨h1, h3⟩ := h
  refine ⟨h1, fun hn => ?_⟩
  obtain ⟨b, off, A, C, ha, hc⟩ := h3 hn
  exact ⟨b, off, A, C, ha, fun j hj => ⟨cell_keeps hb (hc j hj).1, cell_keeps hb (hc j hj).2.1, (hc j hj).2.2.later hb⟩⟩
end Go.Proofs.Qxb6623333a
