/- Seat b6623336aF: FnAlgorithmUnmarshalTextReadsString, walked. -/
import Derived.Test.Qxb6623336aFmtOther
import Derived.Lib.ConvBytes
import Derived.Laws.Strings
namespace Go.Proofs.Qxb6623336aFmt
open Go.RowKit Go.Extern.Stop Go.Stop Go.Extern

/-- A string's bytes as numbers. -/
def nums (s : ByteArray) : List Int := s.data.toList.map fun b => (b.toNat : Int)

theorem nums_back (s : ByteArray) : strOfNums (nums s) = s := by
  obtain ⟨⟨l⟩⟩ := s
  have h : ((fun n : Int => UInt8.ofNat n.toNat) ∘ fun b : UInt8 => (b.toNat : Int)) = id := funext fun b => by simp
  simp [strOfNums, nums, h]

theorem conv_bytes (s : ByteArray) (w : World) : ∃ v wx, (convert 9 23 (.string s)).run Tryf.prog w = .ok v wx ∧ Below w.heap.size w wx ∧ BytesIs wx v (nums s) := by
  have hl : (nums s).length = s.size := by simp [nums]
  refine ⟨_, _, Lib.run_convert_string_bytes w 9 23 5 s Tryf.underlying9 Tryf.underlying23 Tryf.underlying5, ⟨rfl, rfl, rfl, by rw [Lib.bytesWorld_size]; omega, fun k hk => Lib.bytesWorld_at_old w 5 s k hk⟩, Or.inr ⟨⟨w.heap.size, 0, none⟩, grownCap w s.size 0 5, by rw [hl], ?_⟩⟩
  intro j u hj
  have hjl : j < s.size := by
    have := (List.getElem?_eq_some_iff.1 hj).1
    simpa [hl] using this
  have ha : (⟨w.heap.size, 0, none⟩ : Addr).add j = ⟨w.heap.size, j, none⟩ := by simp [Addr.add]; exact fun h => h.symm
  rw [ha, Lib.bytesWorld_cell w 5 s j hjl, ← hj]
  have hjl' : j < s.data.size := hjl
  have hg : s.data[j]? = some s.data[j] := Array.getElem?_eq_getElem hjl'
  simp [nums, List.getD, hg]

set_option maxHeartbeats 400000 in
theorem reads_one (b : Int) (w : World) :
    Calls Tryf.prog 3 #[.int .i64 1, .int .i64 b] w fun e w' => e = .returned (.bool true) ∧ Below w.heap.size w w' := by
  obtain ⟨v, wx, hconv, bel, hv⟩ := conv_bytes ⟨#[82, 83, 50, 53, 54]⟩ w
  go_enter Tryf.func3, Tryf.ntmps3
  go_wp2_with fail
  refine (string_one _).mono ?_
  rintro e w1 ⟨rfl, h1⟩
  subst h1
  go_wp2_with fail
  have belX := bel.alloc bel.size (.cells #[.int .i64 b] 22)
  refine (unmarshal_rs w1.heap.size wx.heap.size (.int .i64 b) v _ _ (hv.later ((Below.refl _ wx).alloc (Nat.le_refl _) _)) bel.size (by simp) (by go_simp) (by go_simp) (by rw [nums_back, ByteArray.toList_eq]; rfl)).mono ?_
  rintro e w2 ⟨rfl, bel2, hc2⟩
  have belY := belX.trans bel2
  clear hconv bel hv belX bel2
  go_wp2
  go_ret
  exact ⟨rfl, belY⟩

set_option maxHeartbeats 400000 in
theorem reads_two (b : Int) (w : World) :
    Calls Tryf.prog 3 #[.int .i64 2, .int .i64 b] w fun e w' => e = .returned (.bool true) ∧ Below w.heap.size w w' := by
  obtain ⟨v, wx, hconv, bel, hv⟩ := conv_bytes ⟨#[69, 83, 50, 53, 54]⟩ w
  go_enter Tryf.func3, Tryf.ntmps3
  go_wp2_with fail
  refine (string_two _).mono ?_
  rintro e w1 ⟨rfl, h1⟩
  subst h1
  go_wp2_with fail
  have belX := bel.alloc bel.size (.cells #[.int .i64 b] 22)
  refine (unmarshal_es w1.heap.size wx.heap.size (.int .i64 b) v _ _ (hv.later ((Below.refl _ wx).alloc (Nat.le_refl _) _)) bel.size (by simp) (by go_simp) (by go_simp) (by rw [nums_back, ByteArray.toList_eq]; rfl) (by rw [nums_back, ByteArray.toList_eq]; rfl)).mono ?_
  rintro e w2 ⟨rfl, bel2, hc2⟩
  have belY := belX.trans bel2
  clear hconv bel hv belX bel2
  go_wp2
  go_ret
  exact ⟨rfl, belY⟩

set_option maxHeartbeats 400000 in
theorem reads_other (F : Interp) (a b : Int) (h0 : -9223372036854775808 ≤ a) (h1 : a ≤ 9223372036854775807) (h2 : ¬ a = 1) (h3 : ¬ a = 2) (w : World) (hF : F.answers w.tape) (htab : Lib.TabIs Tryf.prog w tabName .u64 Lib.pow10Tab) :
    Calls Tryf.prog 3 #[.int .i64 a, .int .i64 b] w fun e w' => e = .returned (.bool true) ∧ Below w.heap.size w w' := by
  go_enter Tryf.func3, Tryf.ntmps3
  go_wp2_with fail
  refine (string_other a h0 h1 h2 h3 _ htab).mono ?_
  rintro e w1 ⟨⟨s, rfl, _, r, hr⟩, bel1⟩
  obtain ⟨v, wx, hconv, bel, hv⟩ := conv_bytes s w1
  go_wp2_with fail
  have belW := bel1.trans (bel.mono bel1.size)
  have belX := belW.alloc belW.size (.cells #[.int .i64 b] 22)
  refine (unmarshal_bad F ⟨wx.heap.size, 0, none⟩ v _ _ (by show F.answers wx.tape; rw [belW.tape]; exact hF) (hv.later ((Below.refl _ wx).alloc (Nat.le_refl _) _)) (by rw [nums_back, ByteArray.toList_eq, hr]; rfl) (by rw [nums_back, ByteArray.toList_eq, hr]; rfl)).mono ?_
  rintro e w2 ⟨p, rfl, bel2⟩
  have hc2 : w2.cell? ⟨wx.heap.size, 0, none⟩ = some (.int .i64 b) := by rw [bel2.cell (by simp)]; go_simp
  have belY := belX.trans (bel2.mono belX.size)
  clear hconv bel hv belX bel2 belW bel1 htab
  have e2 : (a == 1) = false := by simpa using h2
  have e3 : (a == 2) = false := by simpa using h3
  clear h2 h3
  go_wp2
  go_ret
  exact ⟨rfl, belY⟩

theorem reads_any (F : Interp) (a b : Int) (h0 : -9223372036854775808 ≤ a) (h1 : a ≤ 9223372036854775807) (w : World) (hF : F.answers w.tape) (htab : Lib.TabIs Tryf.prog w tabName .u64 Lib.pow10Tab) :
    Calls Tryf.prog 3 #[.int .i64 a, .int .i64 b] w fun e w' => e = .returned (.bool true) ∧ Below w.heap.size w w' := by
  by_cases h2 : a = 1
  · subst h2; exact reads_one b w
  · by_cases h3 : a = 2
    · subst h3; exact reads_two b w
    · exact reads_other F a b h0 h1 h2 h3 w hF htab

end Go.Proofs.Qxb6623336aFmt
