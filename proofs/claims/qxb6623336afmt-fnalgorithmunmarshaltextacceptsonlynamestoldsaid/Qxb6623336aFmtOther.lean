/- Seat b6623336aF: (Algorithm).String at a number that is no name's. -/
import Derived.Test.Qxb6623336aFmtText
import Derived.Lib.AppendIntMem
namespace Go.Proofs.Qxb6623336aFmt
open Go.RowKit Go.Extern.Stop Go.Stop Go.Extern

set_option maxHeartbeats 400000 in
theorem string_other (n : Int) (h0 : -9223372036854775808 ≤ n) (h1 : n ≤ 9223372036854775807) (h2 : ¬ n = 1) (h3 : ¬ n = 2) (w : World) (htab : Lib.TabIs Tryf.prog w tabName .u64 Lib.pow10Tab) :
    Calls Tryf.prog 5 #[.int .i64 n] w fun e w' => (∃ s : ByteArray, e = .returned (.string s) ∧ s.size ≤ 32 ∧ ∃ r, s.data.toList = 65 :: r) ∧ Below w.heap.size w w' := by
  have hlen := Lib.itoa_length_le n h0 h1
  obtain ⟨J, hJ⟩ : ∃ J : ByteArray, J = ⟨(Lib.itoa n).toArray⟩ := ⟨_, rfl⟩
  have hj : J.size ≤ 21 := by rw [hJ]; simpa [ByteArray.size] using hlen
  have HJ : Hid (J = ⟨(Lib.itoa n).toArray⟩) := hJ
  clear hJ hlen
  go_enter Tryf.func5, Tryf.ntmps5
  go_wp2_with fail
  refine (Tryf.strconv_Itoa n h0 h1 _ htab).mono ?_
  rintro e w1 ⟨rfl, k, os, hw1⟩
  rw [← HJ.out]
  have bel : Below w.heap.size w w1 := by rw [hw1]; exact Lib.below_grow _ _ (Nat.le_refl _) _ _
  clear hw1
  go_wp2
  go_ret
  refine ⟨⟨_, rfl, ?_, ?_⟩, bel⟩
  · simp only [ByteArray.size_append]
    show 10 + J.size + 1 ≤ 32
    omega
  · exact ⟨[108, 103, 111, 114, 105, 116, 104, 109, 40] ++ J.data.toList ++ [41], by simp [ByteArray.data_append]⟩

end Go.Proofs.Qxb6623336aFmt
