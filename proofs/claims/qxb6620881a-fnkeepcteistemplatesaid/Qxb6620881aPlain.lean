/- Seat b6620881a: THE PLAIN LAW: no Go in sight. 'keepL': the text that KeepCTE makes; 'fill': what zzFill makes. -/
namespace Go.Proofs.Qxb6620881a.Pl
set_option maxRecDepth 10000

def c0 : List UInt8 := [107, 101, 112, 116, 32, 65, 83, 32, 40, 10, 9, 9, 73, 78, 83, 69, 82, 84, 32, 73, 78, 84, 79, 32, 105, 100, 101, 109, 112, 111, 116, 101, 110, 99, 121, 95, 107, 101, 121, 115, 32, 40, 107, 101, 121, 44, 32, 102, 105, 110, 103, 101, 114, 112, 114, 105, 110, 116, 44, 32, 114, 101, 113, 117, 101, 115, 116, 95, 105, 100, 44, 32, 101, 120, 112, 105, 114, 101, 115, 95, 97, 116, 44, 32]
def c1 : List UInt8 := [41, 10, 9, 9, 83, 69, 76, 69, 67, 84, 32, 107, 101, 121, 101, 100, 46, 107, 101, 121, 44, 32, 107, 101, 121, 101, 100, 46, 102, 105, 110, 103, 101, 114, 112, 114, 105, 110, 116, 44, 32, 107, 101, 121, 101, 100, 46, 114, 101, 113, 117, 101, 115, 116, 95, 105, 100, 44, 32, 110, 111, 119, 40, 41, 32, 43, 32, 109, 97, 107, 101, 95, 105, 110, 116, 101, 114, 118, 97, 108, 40, 115, 101, 99, 115, 32, 61, 62, 32, 64, 114, 101, 116, 101, 110, 116, 105, 111, 110, 41, 44, 32]
def c2 : List UInt8 := [10, 9, 9, 70, 82, 79, 77, 32, 107, 101, 121, 101, 100, 32, 74, 79, 73, 78, 32, 40]
def c3 : List UInt8 := [41, 32, 65, 83, 32, 109, 97, 100, 101, 32, 40, 110, 44, 32]
def c4 : List UInt8 := [41, 32, 79, 78, 32, 109, 97, 100, 101, 46, 110, 32, 61, 32, 107, 101, 121, 101, 100, 46, 110, 10, 9, 41]

/-- What KeepCTE makes of its two texts. -/
def keepL (c m : List UInt8) : List UInt8 := c0 ++ c ++ c1 ++ c ++ c2 ++ m ++ c3 ++ c ++ c4

/-- What zzFill puts for one byte of the template. -/
def fillB (c m : List UInt8) (b : UInt8) : List UInt8 := if b = 0 then c else if b = 1 then m else [b]
/-- What zzFill makes of a template. -/
def fill (t c m : List UInt8) : List UInt8 := t.flatMap (fillB c m)

theorem fill_nil (c m : List UInt8) : fill [] c m = [] := rfl
theorem fill_append (s t c m : List UInt8) : fill (s ++ t) c m = fill s c m ++ fill t c m := List.flatMap_append
theorem fill_one (b : UInt8) (c m : List UInt8) : fill [b] c m = fillB c m b := by simp [fill]
theorem fill_plain (l c m : List UInt8) (h : l.all (fun b => b != 0 && b != 1) = true) : fill l c m = l := by
  induction l with
  | nil => rfl
  | cons b l ih =>
    simp only [List.all_cons, Bool.and_eq_true, bne_iff_ne, ne_eq] at h
    have e : fill (b :: l) c m = fillB c m b ++ fill l c m := by simp [fill]
    rw [e, ih (by simpa using h.2)]
    simp [fillB, h.1.1, h.1.2]
theorem fill_zero (c m : List UInt8) : fill [0] c m = c := by simp [fill, fillB]
theorem fill_unit (c m : List UInt8) : fill [1] c m = m := by simp [fill, fillB]

/-- THE LAW: the template filled is the text itself. -/
theorem fill_keep (c m : List UInt8) : fill (keepL [0] [1]) c m = keepL c m := by
  unfold keepL
  simp only [fill_append, fill_zero, fill_unit]
  rw [fill_plain c0 c m (by decide), fill_plain c1 c m (by decide), fill_plain c2 c m (by decide), fill_plain c3 c m (by decide), fill_plain c4 c m (by decide)]

theorem keep_length (c m : List UInt8) : (keepL c m).length = 244 + 3 * c.length + m.length := by
  have h0 : c0.length = 84 := rfl
  have h1 : c1.length = 102 := rfl
  have h2 : c2.length = 20 := rfl
  have h3 : c3.length = 14 := rfl
  have h4 : c4.length = 24 := rfl
  simp only [keepL, List.length_append, h0, h1, h2, h3, h4]
  omega

theorem fillB_length (c m : List UInt8) (b : UInt8) (hc : c.length ≤ 65536) (hm : m.length ≤ 65536) : (fillB c m b).length ≤ 65536 := by
  unfold fillB; split
  · exact hc
  · split
    · exact hm
    · simp
theorem fill_length (t c m : List UInt8) (hc : c.length ≤ 65536) (hm : m.length ≤ 65536) : (fill t c m).length ≤ t.length * 65536 := by
  induction t with
  | nil => simp [fill]
  | cons b t ih =>
    have e : fill (b :: t) c m = fillB c m b ++ fill t c m := by simp [fill]
    have := fillB_length c m b hc hm
    rw [e]; simp only [List.length_append, List.length_cons]; omega
end Go.Proofs.Qxb6620881a.Pl
