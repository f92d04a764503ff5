/- Seat b6623336aF: FnAlgorithmUnmarshalTextAcceptsOnlyNames, walked. -/
import Derived.Test.Qxb6623336aFmtCopy
namespace Go.Proofs.Qxb6623336aFmt
open Go.RowKit Go.Extern.Stop Go.Stop Go.Extern

theorem nil_ne (w : World) : (binOp .neq 23 (.slice none 0 0) (.slice none 0 0)).run Tryf.prog w = .ok (.bool false) w := by kernel_rfl
theorem some_ne (a : Addr) (n c : Nat) (w : World) : (binOp .neq 23 (.slice (some a) n c) (.slice none 0 0)).run Tryf.prog w = .ok (.bool true) w := by kernel_rfl
attribute [local go_sem] nil_ne some_ne

/-- An append whose run is known. -/
theorem wpList_known {ops : Array Oper} {rest : List Oper} {o : Oper} {a : Act} {Q : Exit → Act → World → Prop} {w wx : World} {v p q : Value} (hgd : o.guard = none) (s x : Operand)
    (ho : o.op = .call { callee := .builtin .append, args := #[s, x], argTypes := #[23, 23] }) (hty : o.type = 23) (hs : a.eval s = p) (hx : a.eval x = q)
    (hr : (Builtin.append_ #[23, 23] 23 #[p, q]).run Tryf.prog w = .ok v wx) (h : wpList Tryf.prog ops Q rest (a.put o.dst v) wx) :
    wpList Tryf.prog ops Q (o :: rest) a w := by
  refine wpList_plain hgd fun K hK => ?_
  unfold Oper.wp execOp
  simp only [ho, resolve, invoke, builtin, Sem.run_bind, Sem.run_pure, Result.andThen_ok, List.map_toArray, List.map_cons, List.map_nil, hs, hx, hty, hr]
  exact hK _ _ h

set_option maxHeartbeats 400000 in
theorem accepts_great (p : Option Addr) (n c : Nat) (b : Int) (w : World) (h : ¬ n ≤ 1048576) :
    Calls Tryf.prog 4 #[.slice p n c, .int .i64 b] w fun e w' => e = .returned (.bool true) ∧ Below w.heap.size w w' := by
  go_enter Tryf.func4, Tryf.ntmps4
  go_wp2_with fail
  refine (zz_great p n c b _ h).mono ?_
  rintro e w1 ⟨rfl, h1⟩
  subst h1
  go_wp2
  go_ret
  exact ⟨rfl, Below.refl _ _⟩

set_option maxHeartbeats 400000 in
theorem accepts_rs (a : Addr) (cap : Nat) (xs : List Int) (b : Int) (w : World) (hc : ∀ j u, (xs.map (Value.int .u8))[j]? = some u → w.cell? (a.add j) = some u) (hn : xs.length ≤ 1048576)
    (h1 : ((strOfNums xs).toList == [82, 83, 50, 53, 54]) = true) :
    Calls Tryf.prog 4 #[.slice (some a) xs.length cap, .int .i64 b] w fun e w' => e = .returned (.bool true) ∧ Below w.heap.size w w' := by
  obtain ⟨v, wx, happ, bel, hv⟩ := copy_bytes a cap xs w hc hn
  have hn' : ¬ ((1048576 : Int) < (xs.length : Int)) := by omega
  have ht : BytesIs w (.slice (some a) xs.length cap) xs := Or.inr ⟨a, cap, rfl, hc⟩
  clear hc
  have h1' : ([82, 83, 50, 53, 54] == (strOfNums xs).toList) = true := by rw [BEq.comm]; exact h1
  go_enter Tryf.func4, Tryf.ntmps4
  go_wp2_with fail
  refine (zz_small (some a) xs.length cap b _ hn).mono ?_
  rintro e w1 ⟨rfl, hw1⟩
  subst hw1
  go_wp2_with (refine wpList_known rfl (.tmp 18) (.tmp 19) rfl rfl rfl rfl happ ?_)
  have belX := bel.alloc bel.size (.cells #[.int .i64 b] 22)
  refine (unmarshal_rs w1.heap.size wx.heap.size (.int .i64 b) v _ _ (hv.later ((Below.refl _ wx).alloc (Nat.le_refl _) _)) bel.size (by simp) (by go_simp) (by go_simp) h1).mono ?_
  rintro e w2 ⟨rfl, bel2, hc2⟩
  have belY := belX.trans bel2
  have hconv : ∀ n, (convert 23 9 (.slice (some a) xs.length cap)).run Tryf.prog (w2.drewN n) = .ok (.string (strOfNums xs)) (w2.drewN n) := fun n => (ht.later (below_drewN belY n)).conv
  clear happ bel hv belX bel2 ht
  go_wp2
  go_quiet ((go_at_call 5; refine Calls.quiet_of_same (string_one _)))
  go_wp2
  go_ret
  exact ⟨rfl, below_drewN belY _⟩

set_option maxHeartbeats 400000 in
theorem accepts_es (a : Addr) (cap : Nat) (xs : List Int) (b : Int) (w : World) (hc : ∀ j u, (xs.map (Value.int .u8))[j]? = some u → w.cell? (a.add j) = some u) (hn : xs.length ≤ 1048576)
    (h1 : ((strOfNums xs).toList == [82, 83, 50, 53, 54]) = false) (h2 : ((strOfNums xs).toList == [69, 83, 50, 53, 54]) = true) :
    Calls Tryf.prog 4 #[.slice (some a) xs.length cap, .int .i64 b] w fun e w' => e = .returned (.bool true) ∧ Below w.heap.size w w' := by
  obtain ⟨v, wx, happ, bel, hv⟩ := copy_bytes a cap xs w hc hn
  have hn' : ¬ ((1048576 : Int) < (xs.length : Int)) := by omega
  have ht : BytesIs w (.slice (some a) xs.length cap) xs := Or.inr ⟨a, cap, rfl, hc⟩
  clear hc
  have h2' : ([69, 83, 50, 53, 54] == (strOfNums xs).toList) = true := by rw [BEq.comm]; exact h2
  go_enter Tryf.func4, Tryf.ntmps4
  go_wp2_with fail
  refine (zz_small (some a) xs.length cap b _ hn).mono ?_
  rintro e w1 ⟨rfl, hw1⟩
  subst hw1
  go_wp2_with (refine wpList_known rfl (.tmp 18) (.tmp 19) rfl rfl rfl rfl happ ?_)
  have belX := bel.alloc bel.size (.cells #[.int .i64 b] 22)
  refine (unmarshal_es w1.heap.size wx.heap.size (.int .i64 b) v _ _ (hv.later ((Below.refl _ wx).alloc (Nat.le_refl _) _)) bel.size (by simp) (by go_simp) (by go_simp) h1 h2).mono ?_
  rintro e w2 ⟨rfl, bel2, hc2⟩
  have belY := belX.trans bel2
  have hconv : ∀ n, (convert 23 9 (.slice (some a) xs.length cap)).run Tryf.prog (w2.drewN n) = .ok (.string (strOfNums xs)) (w2.drewN n) := fun n => (ht.later (below_drewN belY n)).conv
  clear happ bel hv belX bel2 ht
  go_wp2
  go_quiet ((go_at_call 5; refine Calls.quiet_of_same (string_two _)))
  go_wp2
  go_ret
  exact ⟨rfl, below_drewN belY _⟩

set_option maxHeartbeats 400000 in
theorem accepts_bad_one (F : Interp) (a : Addr) (cap : Nat) (xs : List Int) (w : World) (hc : ∀ j u, (xs.map (Value.int .u8))[j]? = some u → w.cell? (a.add j) = some u) (hn : xs.length ≤ 1048576) (hF : F.answers w.tape)
    (h1 : ((strOfNums xs).toList == [82, 83, 50, 53, 54]) = false) (h2 : ((strOfNums xs).toList == [69, 83, 50, 53, 54]) = false) :
    Calls Tryf.prog 4 #[.slice (some a) xs.length cap, .int .i64 1] w fun e w' => e = .returned (.bool true) ∧ Below w.heap.size w w' := by
  obtain ⟨v, wx, happ, bel, hv⟩ := copy_bytes a cap xs w hc hn
  have hn' : ¬ ((1048576 : Int) < (xs.length : Int)) := by omega
  have ht : BytesIs w (.slice (some a) xs.length cap) xs := Or.inr ⟨a, cap, rfl, hc⟩
  clear hc
  have h1' : ([82, 83, 50, 53, 54] == (strOfNums xs).toList) = false := by rw [BEq.comm]; exact h1
  have h2' : ([69, 83, 50, 53, 54] == (strOfNums xs).toList) = false := by rw [BEq.comm]; exact h2
  go_enter Tryf.func4, Tryf.ntmps4
  go_wp2_with fail
  refine (zz_small (some a) xs.length cap 1 _ hn).mono ?_
  rintro e w1 ⟨rfl, hw1⟩
  subst hw1
  go_wp2_with (refine wpList_known rfl (.tmp 18) (.tmp 19) rfl rfl rfl rfl happ ?_)
  have belX := bel.alloc bel.size (.cells #[.int .i64 1] 22)
  refine (unmarshal_bad F ⟨wx.heap.size, 0, none⟩ v _ _ (by show F.answers wx.tape; rw [bel.tape]; exact hF) (hv.later ((Below.refl _ wx).alloc (Nat.le_refl _) _)) h1 h2).mono ?_
  rintro e w2 ⟨p, rfl, bel2⟩
  have hc2 : w2.cell? ⟨wx.heap.size, 0, none⟩ = some (.int .i64 1) := by rw [bel2.cell (by simp)]; go_simp
  have belY := belX.trans (bel2.mono belX.size)
  have hconv : ∀ n, (convert 23 9 (.slice (some a) xs.length cap)).run Tryf.prog (w2.drewN n) = .ok (.string (strOfNums xs)) (w2.drewN n) := fun n => (ht.later (below_drewN belY n)).conv
  clear happ bel hv belX bel2 ht
  go_wp2
  go_quiet ((go_at_call 5; refine Calls.quiet_of_same (string_one _)))
  go_wp2
  go_ret
  exact ⟨rfl, below_drewN belY _⟩

set_option maxHeartbeats 400000 in
theorem accepts_bad_two (F : Interp) (a : Addr) (cap : Nat) (xs : List Int) (w : World) (hc : ∀ j u, (xs.map (Value.int .u8))[j]? = some u → w.cell? (a.add j) = some u) (hn : xs.length ≤ 1048576) (hF : F.answers w.tape)
    (h1 : ((strOfNums xs).toList == [82, 83, 50, 53, 54]) = false) (h2 : ((strOfNums xs).toList == [69, 83, 50, 53, 54]) = false) :
    Calls Tryf.prog 4 #[.slice (some a) xs.length cap, .int .i64 2] w fun e w' => e = .returned (.bool true) ∧ Below w.heap.size w w' := by
  obtain ⟨v, wx, happ, bel, hv⟩ := copy_bytes a cap xs w hc hn
  have hn' : ¬ ((1048576 : Int) < (xs.length : Int)) := by omega
  have ht : BytesIs w (.slice (some a) xs.length cap) xs := Or.inr ⟨a, cap, rfl, hc⟩
  clear hc
  have h1' : ([82, 83, 50, 53, 54] == (strOfNums xs).toList) = false := by rw [BEq.comm]; exact h1
  have h2' : ([69, 83, 50, 53, 54] == (strOfNums xs).toList) = false := by rw [BEq.comm]; exact h2
  go_enter Tryf.func4, Tryf.ntmps4
  go_wp2_with fail
  refine (zz_small (some a) xs.length cap 2 _ hn).mono ?_
  rintro e w1 ⟨rfl, hw1⟩
  subst hw1
  go_wp2_with (refine wpList_known rfl (.tmp 18) (.tmp 19) rfl rfl rfl rfl happ ?_)
  have belX := bel.alloc bel.size (.cells #[.int .i64 2] 22)
  refine (unmarshal_bad F ⟨wx.heap.size, 0, none⟩ v _ _ (by show F.answers wx.tape; rw [bel.tape]; exact hF) (hv.later ((Below.refl _ wx).alloc (Nat.le_refl _) _)) h1 h2).mono ?_
  rintro e w2 ⟨p, rfl, bel2⟩
  have hc2 : w2.cell? ⟨wx.heap.size, 0, none⟩ = some (.int .i64 2) := by rw [bel2.cell (by simp)]; go_simp
  have belY := belX.trans (bel2.mono belX.size)
  have hconv : ∀ n, (convert 23 9 (.slice (some a) xs.length cap)).run Tryf.prog (w2.drewN n) = .ok (.string (strOfNums xs)) (w2.drewN n) := fun n => (ht.later (below_drewN belY n)).conv
  clear happ bel hv belX bel2 ht
  go_wp2
  go_quiet ((go_at_call 5; refine Calls.quiet_of_same (string_two _)))
  go_wp2
  go_ret
  exact ⟨rfl, below_drewN belY _⟩

set_option maxHeartbeats 400000 in
theorem accepts_bad_other (F : Interp) (a : Addr) (cap : Nat) (xs : List Int) (b : Int) (w : World) (hc : ∀ j u, (xs.map (Value.int .u8))[j]? = some u → w.cell? (a.add j) = some u) (hn : xs.length ≤ 1048576) (hF : F.answers w.tape)
    (h1 : ((strOfNums xs).toList == [82, 83, 50, 53, 54]) = false) (h2 : ((strOfNums xs).toList == [69, 83, 50, 53, 54]) = false)
    (hb1 : (b == 1) = false) (hb2 : (b == 2) = false) :
    Calls Tryf.prog 4 #[.slice (some a) xs.length cap, .int .i64 b] w fun e w' => e = .returned (.bool true) ∧ Below w.heap.size w w' := by
  obtain ⟨v, wx, happ, bel, hv⟩ := copy_bytes a cap xs w hc hn
  have hn' : ¬ ((1048576 : Int) < (xs.length : Int)) := by omega
  have ht : BytesIs w (.slice (some a) xs.length cap) xs := Or.inr ⟨a, cap, rfl, hc⟩
  clear hc
  go_enter Tryf.func4, Tryf.ntmps4
  go_wp2_with fail
  refine (zz_small (some a) xs.length cap b _ hn).mono ?_
  rintro e w1 ⟨rfl, hw1⟩
  subst hw1
  go_wp2_with (refine wpList_known rfl (.tmp 18) (.tmp 19) rfl rfl rfl rfl happ ?_)
  have belX := bel.alloc bel.size (.cells #[.int .i64 b] 22)
  refine (unmarshal_bad F ⟨wx.heap.size, 0, none⟩ v _ _ (by show F.answers wx.tape; rw [bel.tape]; exact hF) (hv.later ((Below.refl _ wx).alloc (Nat.le_refl _) _)) h1 h2).mono ?_
  rintro e w2 ⟨p, rfl, bel2⟩
  have hc2 : w2.cell? ⟨wx.heap.size, 0, none⟩ = some (.int .i64 b) := by rw [bel2.cell (by simp)]; go_simp
  have belY := belX.trans (bel2.mono belX.size)
  clear happ bel hv belX bel2 ht
  go_wp2
  go_quiet (fail)
  go_wp2
  go_ret
  exact ⟨rfl, below_drewN belY _⟩

set_option maxHeartbeats 400000 in
theorem accepts_nil_one (F : Interp) (w : World) (hF : F.answers w.tape) :
    Calls Tryf.prog 4 #[.slice none 0 0, .int .i64 1] w fun e w' => e = .returned (.bool true) ∧ Below w.heap.size w w' := by
  have ht : BytesIs w (.slice none 0 0) [] := Or.inl ⟨rfl, rfl⟩
  have h1 : ((strOfNums []).toList == [82, 83, 50, 53, 54]) = false := by rw [ByteArray.toList_eq]; rfl
  have h2 : ((strOfNums []).toList == [69, 83, 50, 53, 54]) = false := by rw [ByteArray.toList_eq]; rfl
  have h1' : ([82, 83, 50, 53, 54] == (strOfNums []).toList) = false := by rw [BEq.comm]; exact h1
  have h2' : ([69, 83, 50, 53, 54] == (strOfNums []).toList) = false := by rw [BEq.comm]; exact h2
  go_enter Tryf.func4, Tryf.ntmps4
  go_wp2_with fail
  refine (zz_small none 0 0 1 _ (by omega)).mono ?_
  rintro e w1 ⟨rfl, hw1⟩
  subst hw1
  go_wp2_with fail
  have belX := (Below.refl w1.heap.size w1).alloc (Nat.le_refl _) (.cells #[.int .i64 1] 22)
  refine (unmarshal_bad F ⟨w1.heap.size, 0, none⟩ (.slice none 0 0) [] _ (by show F.answers w1.tape; exact hF) (ht.later belX) h1 h2).mono ?_
  rintro e w2 ⟨p, rfl, bel2⟩
  have hc2 : w2.cell? ⟨w1.heap.size, 0, none⟩ = some (.int .i64 1) := by rw [bel2.cell (by simp)]; go_simp
  have belY := belX.trans (bel2.mono belX.size)
  have hconv : ∀ n, (convert 23 9 (.slice none 0 0)).run Tryf.prog (w2.drewN n) = .ok (.string (strOfNums [])) (w2.drewN n) := fun n => (ht.later (below_drewN belY n)).conv
  clear belX bel2 ht
  go_wp2
  go_quiet ((go_at_call 5; refine Calls.quiet_of_same (string_one _)))
  go_wp2
  go_ret
  exact ⟨rfl, below_drewN belY _⟩

set_option maxHeartbeats 400000 in
theorem accepts_nil_two (F : Interp) (w : World) (hF : F.answers w.tape) :
    Calls Tryf.prog 4 #[.slice none 0 0, .int .i64 2] w fun e w' => e = .returned (.bool true) ∧ Below w.heap.size w w' := by
  have ht : BytesIs w (.slice none 0 0) [] := Or.inl ⟨rfl, rfl⟩
  have h1 : ((strOfNums []).toList == [82, 83, 50, 53, 54]) = false := by rw [ByteArray.toList_eq]; rfl
  have h2 : ((strOfNums []).toList == [69, 83, 50, 53, 54]) = false := by rw [ByteArray.toList_eq]; rfl
  have h1' : ([82, 83, 50, 53, 54] == (strOfNums []).toList) = false := by rw [BEq.comm]; exact h1
  have h2' : ([69, 83, 50, 53, 54] == (strOfNums []).toList) = false := by rw [BEq.comm]; exact h2
  go_enter Tryf.func4, Tryf.ntmps4
  go_wp2_with fail
  refine (zz_small none 0 0 2 _ (by omega)).mono ?_
  rintro e w1 ⟨rfl, hw1⟩
  subst hw1
  go_wp2_with fail
  have belX := (Below.refl w1.heap.size w1).alloc (Nat.le_refl _) (.cells #[.int .i64 2] 22)
  refine (unmarshal_bad F ⟨w1.heap.size, 0, none⟩ (.slice none 0 0) [] _ (by show F.answers w1.tape; exact hF) (ht.later belX) h1 h2).mono ?_
  rintro e w2 ⟨p, rfl, bel2⟩
  have hc2 : w2.cell? ⟨w1.heap.size, 0, none⟩ = some (.int .i64 2) := by rw [bel2.cell (by simp)]; go_simp
  have belY := belX.trans (bel2.mono belX.size)
  have hconv : ∀ n, (convert 23 9 (.slice none 0 0)).run Tryf.prog (w2.drewN n) = .ok (.string (strOfNums [])) (w2.drewN n) := fun n => (ht.later (below_drewN belY n)).conv
  clear belX bel2 ht
  go_wp2
  go_quiet ((go_at_call 5; refine Calls.quiet_of_same (string_two _)))
  go_wp2
  go_ret
  exact ⟨rfl, below_drewN belY _⟩

set_option maxHeartbeats 400000 in
theorem accepts_nil_other (F : Interp) (b : Int) (hb1 : (b == 1) = false) (hb2 : (b == 2) = false) (w : World) (hF : F.answers w.tape) :
    Calls Tryf.prog 4 #[.slice none 0 0, .int .i64 b] w fun e w' => e = .returned (.bool true) ∧ Below w.heap.size w w' := by
  have ht : BytesIs w (.slice none 0 0) [] := Or.inl ⟨rfl, rfl⟩
  have h1 : ((strOfNums []).toList == [82, 83, 50, 53, 54]) = false := by rw [ByteArray.toList_eq]; rfl
  have h2 : ((strOfNums []).toList == [69, 83, 50, 53, 54]) = false := by rw [ByteArray.toList_eq]; rfl
  go_enter Tryf.func4, Tryf.ntmps4
  go_wp2_with fail
  refine (zz_small none 0 0 b _ (by omega)).mono ?_
  rintro e w1 ⟨rfl, hw1⟩
  subst hw1
  go_wp2_with fail
  have belX := (Below.refl w1.heap.size w1).alloc (Nat.le_refl _) (.cells #[.int .i64 b] 22)
  refine (unmarshal_bad F ⟨w1.heap.size, 0, none⟩ (.slice none 0 0) [] _ (by show F.answers w1.tape; exact hF) (ht.later belX) h1 h2).mono ?_
  rintro e w2 ⟨p, rfl, bel2⟩
  have hc2 : w2.cell? ⟨w1.heap.size, 0, none⟩ = some (.int .i64 b) := by rw [bel2.cell (by simp)]; go_simp
  have belY := belX.trans (bel2.mono belX.size)
  clear belX bel2 ht
  go_wp2
  go_quiet (fail)
  go_wp2
  go_ret
  exact ⟨rfl, below_drewN belY _⟩

theorem accepts_any (F : Interp) (v : Value) (xs : List Int) (b : Int) (w : World) (hF : F.answers w.tape) (hv : BytesIs w v xs) :
    Calls Tryf.prog 4 #[v, .int .i64 b] w fun e w' => e = .returned (.bool true) ∧ Below w.heap.size w w' := by
  rcases hv with ⟨rfl, rfl⟩ | ⟨a, cap, rfl, hc⟩
  · by_cases hb1 : b = 1
    · subst hb1; exact accepts_nil_one F w hF
    · by_cases hb2 : b = 2
      · subst hb2; exact accepts_nil_two F w hF
      · exact accepts_nil_other F b (by simpa using hb1) (by simpa using hb2) w hF
  · by_cases hn : xs.length ≤ 1048576
    · cases h1 : ((strOfNums xs).toList == [82, 83, 50, 53, 54]) with
      | true => exact accepts_rs a cap xs b w hc hn h1
      | false =>
        cases h2 : ((strOfNums xs).toList == [69, 83, 50, 53, 54]) with
        | true => exact accepts_es a cap xs b w hc hn h1 h2
        | false =>
          by_cases hb1 : b = 1
          · subst hb1; exact accepts_bad_one F a cap xs w hc hn hF h1 h2
          · by_cases hb2 : b = 2
            · subst hb2; exact accepts_bad_two F a cap xs w hc hn hF h1 h2
            · exact accepts_bad_other F a cap xs b w hc hn hF h1 h2 (by simpa using hb1) (by simpa using hb2)
    · exact accepts_great (some a) xs.length cap b w hn

end Go.Proofs.Qxb6623336aFmt
