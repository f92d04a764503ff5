/- Seat b6623333a: THE WALKS of zzAddString, zzAddStrings, zzAddElems, zzAddPath, zzSize: each hands back some int and writes nothing that was there. -/
import Derived.Test.Qxb6623333aDefs
namespace Go.Proofs.Qxb6623333a
open Go.RowKit Go.Maps
set_option maxRecDepth 100000

/-- The call handed back an int. -/
def IsInt (e : Ending) : Prop := ∃ r : Int, e = .returned (.int .i64 r)
theorem isInt_mk (r : Int) : IsInt (.returned (.int .i64 r)) := ⟨r, rfl⟩

theorem addStr (t : Int) (s : ByteArray) (w : World) :
    Calls Try.prog 17 #[.int .i64 t, .string s] w fun e w' => IsInt e ∧ w' = w := by
  by_cases ht : 1048576 < t
  · go_enter Try.func17, Try.ntmps17
    go_wp2
    go_ret
    exact ⟨isInt_mk _, rfl⟩
  · by_cases hs : (1048576 : Int) < (s.size : Int)
    · go_enter Try.func17, Try.ntmps17
      go_wp2
      go_ret
      exact ⟨isInt_mk _, rfl⟩
    · go_enter Try.func17, Try.ntmps17
      go_wp2
      go_ret
      exact ⟨isInt_mk _, rfl⟩

set_option maxHeartbeats 400000 in
theorem addStrs_zero (t : Int) (a : Option Addr) (c : Nat) (w : World) :
    Calls Try.prog 18 #[.int .i64 t, .slice a 0 c] w fun e w' => IsInt e ∧ w' = w := by
  by_cases ht : 1048576 < t
  · go_enter Try.func18, Try.ntmps18
    go_wp2
    go_ret
    exact ⟨isInt_mk _, rfl⟩
  · go_enter Try.func18, Try.ntmps18
    go_wp2
    refine wp_loop_rounds 1 ?_
    rw [rounds_succ]
    go_wp2
    go_ret
    exact ⟨isInt_mk _, rfl⟩

set_option maxHeartbeats 400000 in
theorem addStrs_pos (t : Int) (b off n c : Nat) (xs : Nat → ByteArray) (w : World) (h : ∀ j, j < n → w.cell? ⟨b, off + j, none⟩ = some (.string (xs j))) (h0 : 0 < n) (hn : n ≤ maxLen) :
    Calls Try.prog 18 #[.int .i64 t, .slice (some ⟨b, off, none⟩) n c] w fun e w' => IsInt e ∧ w' = w := by
  unfold maxLen at hn
  by_cases ht : 1048576 < t
  · go_enter Try.func18, Try.ntmps18
    go_wp2
    go_ret
    exact ⟨isInt_mk _, rfl⟩
  · by_cases hs : (65536 : Int) < (n : Int)
    · go_enter Try.func18, Try.ntmps18
      go_wp2
      go_ret
      exact ⟨isInt_mk _, rfl⟩
    · go_enter Try.func18, Try.ntmps18
      go_wp2
      go_loop [0, 5] (fun z i => ∃ (j : Nat) (q : Int), j ≤ n ∧ i = .int .i64 j ∧ z = .int .i64 q) (fun _ i => n - (intOf i).toNat)
      case atStart => exact ⟨0, _, Nat.zero_le _, rfl, rfl⟩
      case round =>
        obtain ⟨j, q, hj, rfl, rfl⟩ := hrel
        by_cases hlt : j < n
        · have hc := h j hlt
          have hjn : (j : Int) < (n : Int) := by omega
          by_cases hq : q ≤ 1048576
          · go_wp2_with (go_at_call 17; refine (addStr _ _ _).mono ?_; rintro e w1 ⟨hr, hw⟩; obtain ⟨r, hr⟩ := hr; subst hr; obtain rfl := hw.symm; clear hw)
            go_round
            case rel => exact ⟨j + 1, _, by omega, by go_num, rfl⟩
            case measure => simp [intOf]; omega
          · have hq2 : 1048576 < q := by omega
            go_wp2
            go_ret
            exact ⟨isInt_mk _, rfl⟩
        · go_wp2
          go_ret
          exact ⟨isInt_mk _, rfl⟩

theorem addStrs (t : Int) (a : Option Addr) (n c : Nat) (xs : Nat → ByteArray) (w : World) (h : StrsIs w a n xs) :
    Calls Try.prog 18 #[.int .i64 t, .slice a n c] w fun e w' => IsInt e ∧ w' = w := by
  by_cases h0 : n = 0
  · subst h0
    exact addStrs_zero t a c w
  · obtain ⟨b, off, rfl, hc⟩ := h.2.2 (by omega)
    exact addStrs_pos t b off n c xs w hc (by omega) h.1

set_option maxHeartbeats 400000 in
theorem addElems_zero (t : Int) (a : Option Addr) (c : Nat) (w : World) :
    Calls Try.prog 14 #[.int .i64 t, .slice a 0 c] w fun e w' => IsInt e ∧ w' = w := by
  by_cases ht : 1048576 < t
  · go_enter Try.func14, Try.ntmps14
    go_wp2
    go_ret
    exact ⟨isInt_mk _, rfl⟩
  · go_enter Try.func14, Try.ntmps14
    go_wp2
    refine wp_loop_rounds 1 ?_
    rw [rounds_succ]
    go_wp2
    go_ret
    exact ⟨isInt_mk _, rfl⟩

set_option maxHeartbeats 800000 in
theorem addElems_pos (t : Int) (b off n c : Nat) (zs : Nat → ZE) (w : World) (h : ZEsIs w (some ⟨b, off, none⟩) n zs) (h0 : 0 < n) :
    Calls Try.prog 14 #[.int .i64 t, .slice (some ⟨b, off, none⟩) n c] w fun e w' => IsInt e ∧ w' = w := by
  obtain ⟨hn, h2, h3⟩ := h
  obtain ⟨b', off', hx, hc⟩ := h3 h0
  simp only [Option.some.injEq, Addr.mk.injEq, and_true] at hx
  obtain ⟨rfl, rfl⟩ := hx
  clear h3
  unfold maxLen at hn
  by_cases ht : 1048576 < t
  · go_enter Try.func14, Try.ntmps14
    go_wp2
    go_ret
    exact ⟨isInt_mk _, rfl⟩
  · by_cases hs : (65536 : Int) < (n : Int)
    · go_enter Try.func14, Try.ntmps14
      go_wp2
      go_ret
      exact ⟨isInt_mk _, rfl⟩
    · go_enter Try.func14, Try.ntmps14
      go_wp2
      go_loop [0, 5] (fun z i => ∃ (j : Nat) (q : Int), j ≤ n ∧ i = .int .i64 j ∧ z = .int .i64 q) (fun _ i => n - (intOf i).toNat)
      case atStart => exact ⟨0, _, Nat.zero_le _, rfl, rfl⟩
      case round =>
        obtain ⟨j, q, hj, rfl, rfl⟩ := hrel
        by_cases hlt : j < n
        · obtain ⟨c0, c1, c2⟩ := hc j hlt
          have HK : Hid ((zs j).ok w) := h2 j hlt
          have hjn : (j : Int) < (n : Int) := by omega
          by_cases hq : q ≤ 1048576
          · clear hc h2
            go_wp2_with fail
            refine (addStr _ _ _).mono ?_
            rintro e w1 ⟨hr, hw⟩; obtain ⟨r, hr⟩ := hr; subst hr; obtain rfl := hw.symm; clear hw
            go_wp2_with fail
            refine (addStrs _ _ _ _ (zs j).ks _ HK.out.1).mono ?_
            rintro e w1 ⟨hr, hw⟩; obtain ⟨r2, hr⟩ := hr; subst hr; obtain rfl := hw.symm; clear hw
            go_wp2_with fail
            refine (addStrs _ _ _ _ (zs j).vs _ HK.out.2).mono ?_
            rintro e w1 ⟨hr, hw⟩; obtain ⟨r3, hr⟩ := hr; subst hr; obtain rfl := hw.symm; clear hw
            go_wp2
            go_round
            case rel => exact ⟨j + 1, _, by omega, by go_num, rfl⟩
            case measure => simp [intOf]; omega
          · have hq2 : 1048576 < q := by omega
            go_wp2
            go_ret
            exact ⟨isInt_mk _, rfl⟩
        · go_wp2
          go_ret
          exact ⟨isInt_mk _, rfl⟩

theorem addElems (t : Int) (a : Option Addr) (n c : Nat) (zs : Nat → ZE) (w : World) (h : ZEsIs w a n zs) :
    Calls Try.prog 14 #[.int .i64 t, .slice a n c] w fun e w' => IsInt e ∧ w' = w := by
  by_cases h0 : n = 0
  · subst h0
    exact addElems_zero t a c w
  · obtain ⟨b, off, rfl, hc⟩ := h.2.2 (by omega)
    exact addElems_pos t b off n c zs w h (by omega)

theorem addPath (t : Int) (p : ZP) (w : World) (h : p.ok w) :
    Calls Try.prog 13 #[.int .i64 t, .agg #[.string p.origin, .slice p.a p.n p.c]] w fun e w' => IsInt e ∧ Below w.heap.size w w' := by
  have HK : ∀ o, Hid (p.ok (w.alloc o)) := fun o => h.later ((Below.refl _ _).alloc (Nat.le_refl _) _)
  clear h
  go_enter Try.func13, Try.ntmps13
  go_wp2_with fail
  refine (addStr _ _ _).mono ?_
  rintro e w1 ⟨hr, hw⟩; obtain ⟨r, hr⟩ := hr; subst hr; obtain rfl := hw.symm; clear hw
  go_wp2_with fail
  refine (addElems _ _ _ _ p.zs _ (by exact (HK _).out)).mono ?_
  rintro e w1 ⟨hr, hw⟩; obtain ⟨r2, hr⟩ := hr; subst hr; obtain rfl := hw.symm; clear hw
  go_wp2
  go_ret
  exact ⟨isInt_mk _, (Below.refl _ _).alloc (Nat.le_refl _) _⟩
end Go.Proofs.Qxb6623333a
