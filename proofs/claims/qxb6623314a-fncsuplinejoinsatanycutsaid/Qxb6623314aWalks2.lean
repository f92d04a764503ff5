/- Seat b6623314a: THE WALKS of the csup line. -/
import Derived.Test.Qxb6623314aWalks
namespace Go.Proofs.Qxb6623314a
open Go.RowKit
set_option maxRecDepth 100000

theorem head_join (xs : List ByteArray) : (⟨#[99, 115, 117, 112, 58]⟩ : ByteArray) ++ ⟨(Lib.join (xs.map (·.data.toList)) [44]).toArray⟩ = Pl.csupS xs := by
  apply ByteArray.ext
  apply Array.toList_inj.1
  rw [ByteArray.data_append, Array.toList_append, Pl.csupS_data]
  rfl

theorem join_any (b off cap : Nat) (xs : List ByteArray) (w : World) (hx : Row w b off xs) (hbw : b < w.heap.size) (hcap : xs.length ≤ cap) (hS : Pl.S xs xs.length + xs.length ≤ 4194304) :
    Calls Try.prog 9 #[.slice (some ⟨b, off, none⟩) xs.length cap, .string ⟨#[44]⟩] w fun e w' => e = .returned (.string ⟨(Lib.join (xs.map (·.data.toList)) [44]).toArray⟩) ∧ Below w.heap.size w w' := by
  have hj := Pl.csupS_le xs
  refine Try.strings_Join b off cap xs ⟨#[44]⟩ w ?_ hbw (by omega) hcap (Nat.le_trans hj (by omega))
  intro j x hjx
  obtain ⟨h1, rfl⟩ := List.getElem?_eq_some_iff.1 hjx
  rw [hx j h1]
  simp [h1]

/-- Behind a contract that ends in 'Below': the old cells and marks read as before. -/
theorem bcell {B : Nat} {W w1 : World} (hb : Below B W w1) : (∀ b o, b < B → w1.cell? ⟨b, o, none⟩ = W.cell? ⟨b, o, none⟩) ∧ (∀ b o, b < B → w1.frozen? ⟨b, o, none⟩ = W.frozen? ⟨b, o, none⟩) :=
  ⟨fun b o h => hb.cell (p := ⟨b, o, none⟩) h, fun b o h => hb.frozen (p := ⟨b, o, none⟩) h⟩

theorem Row.later {B : Nat} {W w1 : World} {b off : Nat} {xs : List ByteArray} (h : Row W b off xs) (hb : Below B W w1) (hB : b < B) : Row w1 b off xs := by
  intro j hj
  rw [hb.cell (p := ⟨b, off + j, none⟩) hB]
  exact h j hj

set_option maxHeartbeats 400000 in
theorem line_any (b off cap : Nat) (xs : List ByteArray) (w : World) (hx : Row w b off xs) (hbw : b < w.heap.size) (hcap : xs.length ≤ cap) (hS : Pl.S xs xs.length + xs.length ≤ 4194304) :
    Calls Try.prog 8 #[.slice (some ⟨b, off, none⟩) xs.length cap] w fun e w' => e = .returned (.agg #[.int .u8 97, .string (Pl.csupS xs), .int .i64 0]) ∧ Below w.heap.size w w' := by
  have hj := Pl.csupS_le xs
  have hj2 : (⟨(Lib.join (xs.map (·.data.toList)) [44]).toArray⟩ : ByteArray).size ≤ 4194304 := by
    rw [Lib.size_eq]; exact Nat.le_trans (by simpa using hj) hS
  obtain ⟨J, hJ⟩ : ∃ J : ByteArray, J = ⟨(Lib.join (xs.map (·.data.toList)) [44]).toArray⟩ := ⟨_, rfl⟩
  rw [← hJ] at hj2
  have HJ : Hid (J = ⟨(Lib.join (xs.map (·.data.toList)) [44]).toArray⟩) := hJ
  clear hJ hj
  go_enter Try.func8, Try.ntmps8
  go_wp2_with fail
  refine (join_any b off cap xs _ (hx.later ((Below.refl _ _).alloc (Nat.le_refl _) _) hbw) (by simp; omega) hcap hS).mono ?_
  rintro e w1 ⟨rfl, hb1⟩
  rw [← HJ.out]
  have hz : w.heap.size < w1.heap.size := by have := hb1.size; simp at this; omega
  have hb2 : Below w.heap.size w w1 := ((Below.refl _ _).alloc (Nat.le_refl _) _).trans (hb1.mono (by simp))
  have c0 : w1.cell? ⟨w.heap.size, 0, none⟩ = some (.int .u8 0) := by rw [hb1.cell (by simp)]; simp
  have c1 : w1.cell? ⟨w.heap.size, 1, none⟩ = some (.string ⟨#[]⟩) := by rw [hb1.cell (by simp)]; simp
  have c2 : w1.cell? ⟨w.heap.size, 2, none⟩ = some (.int .i64 0) := by rw [hb1.cell (by simp)]; simp
  have f0 : w1.frozen? ⟨w.heap.size, 0, none⟩ = false := by rw [hb1.frozen (by simp)]; simp
  have f1 : w1.frozen? ⟨w.heap.size, 1, none⟩ = false := by rw [hb1.frozen (by simp)]; simp
  have f2 : w1.frozen? ⟨w.heap.size, 2, none⟩ = false := by rw [hb1.frozen (by simp)]; simp
  clear hb1 hx
  go_wp2
  refine bodyPost_ret (v := .agg #[.int .u8 97, .string ((⟨#[99, 115, 117, 112, 58]⟩ : ByteArray) ++ J), .int .i64 0]) (by simp [results, Try.results8, go_sem, c0, c1, c2]) rfl ⟨?_, ?_⟩
  · rw [HJ.out, head_join]
  · exact ((hb2.setCell (by simp) _).setCell (by simp) _).setCell (by simp) _

set_option maxHeartbeats 400000 in
theorem zz_any (b off cap : Nat) (xs : List ByteArray) (w : World) (hx : Row w b off xs) (hbw : b < w.heap.size) (hcap : xs.length ≤ cap) (hS : Pl.S xs xs.length + xs.length ≤ 4194304) :
    Calls Try.prog 6 #[.slice (some ⟨b, off, none⟩) xs.length cap] w fun e w' => e = .returned (.tuple #[.int .u8 97, .string (Pl.csupS xs), .int .i64 0]) ∧ Below w.heap.size w w' := by
  go_enter Try.func6, Try.ntmps6
  go_wp2_with fail
  refine (line_any b off cap xs _ hx hbw hcap hS).mono ?_
  rintro e w1 ⟨rfl, hb1⟩
  clear hx
  go_wp2
  go_quiet (fail)
  go_wp2
  go_ret3
  exact ⟨rfl, below_drewN (hb1.alloc hb1.size _) _⟩

theorem head_any (xs : List ByteArray) (w : World) :
    Calls Try.prog 7 #[.string (Pl.csupS xs)] w fun e w' => e = .returned (.bool true) ∧ w' = w := by
  have hs : 5 ≤ (Pl.csupS xs).size := by rw [Lib.size_eq, Pl.csupS_data, Pl.csupL, List.length_append]; show 5 ≤ 5 + _; omega
  have he : ((Pl.csupS xs).extract 0 5).toList = [99, 115, 117, 112, 58] := by
    rw [Lib.extract_toList, Pl.csupS_data]; rfl
  obtain ⟨s, hse⟩ : ∃ s, s = Pl.csupS xs := ⟨_, rfl⟩
  rw [← hse] at hs he ⊢
  clear hse
  go_enter Try.func7, Try.ntmps7
  go_wp2
  go_ret
  exact ⟨rfl, rfl⟩
end Go.Proofs.Qxb6623314a
