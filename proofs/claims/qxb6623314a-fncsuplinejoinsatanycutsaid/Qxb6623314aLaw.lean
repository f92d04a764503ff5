/- Seat b6623314a: THE LAW's OWN WALK, out of its callees' contracts. -/
import Derived.Test.Qxb6623314aWalks2
namespace Go.Proofs.Qxb6623314a
open Go.RowKit
set_option maxRecDepth 100000

theorem zz_len (b off n cap : Nat) (xs : List ByteArray) (w : World) (hn : n = xs.length) (hx : Row w b off xs) (hbw : b < w.heap.size) (hcap : n ≤ cap) (hS : Pl.S xs xs.length + xs.length ≤ 4194304) :
    Calls Try.prog 6 #[.slice (some ⟨b, off, none⟩) n cap] w fun e w' => e = .returned (.tuple #[.int .u8 97, .string (Pl.csupS xs), .int .i64 0]) ∧ Below w.heap.size w w' := by
  subst hn
  exact zz_any b off cap xs w hx hbw hcap hS

theorem Row.take {w : World} {b off : Nat} {xs : List ByteArray} (h : Row w b off xs) (k : Nat) : Row w b off (xs.take k) := by
  intro j hj
  rw [List.length_take] at hj
  rw [h j (by omega)]
  simp [show j < k by omega]
theorem Row.drop {w : World} {b off : Nat} {xs : List ByteArray} (h : Row w b off xs) (k : Nat) : Row w b (off + k) (xs.drop k) := by
  intro j hj
  rw [List.length_drop] at hj
  rw [Nat.add_assoc, h (k + j) (by omega)]
  simp [List.getElem?_drop]

theorem csup_lo (xs : List ByteArray) : 5 ≤ (Pl.csupS xs).size := by
  rw [Lib.size_eq, Pl.csupS_data, Pl.csupL, List.length_append]; show 5 ≤ 5 + _; omega
theorem csup_hi (xs : List ByteArray) : (Pl.csupS xs).size ≤ 5 + (Pl.S xs xs.length + xs.length) := by
  have h := Pl.csupS_le xs
  rw [Lib.size_eq, Pl.csupS_data, Pl.csupL, List.length_append]
  show 5 + _ ≤ _
  exact Nat.add_le_add_left h 5

theorem law_zero (a : Option Addr) (c : Nat) (k : Int) (w : World) :
    Calls Try.prog 3 #[.slice a 0 c, .int .i64 k] w fun e w' => e = .returned (.bool true) ∧ Below w.heap.size w w' := by
  by_cases hk : k < 1
  all_goals
    go_enter Try.func3, Try.ntmps3
    go_wp2_with fail
    refine (bytes_zero a c k w).mono ?_
    rintro e w1 ⟨hr, hw⟩
    obtain ⟨r, rfl, hr⟩ := hr
    obtain rfl := hw.symm
    clear hw
    cases r
    · go_wp2
      go_ret
      exact ⟨rfl, Below.refl _ _⟩
    · go_wp2
      refine wp_loop_rounds 1 ?_
      rw [rounds_succ]
      go_wp2
      go_ret
      exact ⟨rfl, Below.refl _ _⟩

set_option maxHeartbeats 1000000 in
theorem law_some (b off cap : Nat) (k : Int) (xs : List ByteArray) (w : World) (hx : Row w b off xs) (hl : ∀ j, j < xs.length → (xs.getD j ByteArray.empty).size ≤ maxLen) (hn : xs.length ≤ maxLen) (hbw : 0 < xs.length → b < w.heap.size) :
    Calls Try.prog 3 #[.slice (some ⟨b, off, none⟩) xs.length cap, .int .i64 k] w fun e w' => e = .returned (.bool true) ∧ Below w.heap.size w w' := by
  have hB := bytes_any b off cap k xs w hx hl hn
  unfold maxLen at hl hn
  have HB := hB
  clear hB
  go_enter Try.func3, Try.ntmps3
  go_wp2_with fail
  refine HB.mono ?_
  clear HB
  rintro e w1 ⟨hr, hw⟩
  obtain ⟨r, rfl, hr⟩ := hr
  obtain rfl := hw.symm
  clear hw
  cases r
  · go_wp2
    go_ret
    exact ⟨rfl, Below.refl _ _⟩
  · have hsh := hr rfl
    clear hl hr
    by_cases hbig : xs.length ≤ 1048576
    · go_wp2
      go_loop [5, 6] (fun z i => ∃ j : Nat, j ≤ xs.length ∧ i = .int .i64 j ∧ z = .int .i64 ((16 * j + Pl.S xs j : Nat) : Int) ∧ 16 * j + Pl.S xs j ≤ 1048576) (fun _ i => xs.length - (intOf i).toNat)
      case atStart => exact ⟨0, Nat.zero_le _, rfl, by rw [Pl.S_zero]; rfl, by rw [Pl.S_zero]; omega⟩
      case round =>
        obtain ⟨j, hj, rfl, rfl, hq⟩ := hrel
        by_cases hlt : j < xs.length
        · have hc := hx j hlt
          have hs := hsh j hlt
          have HS : Hid (Pl.S xs (j + 1) = Pl.S xs j + (xs.getD j ByteArray.empty).size) := Pl.S_succ xs j hlt
          obtain ⟨s, hse⟩ : ∃ s, s = xs.getD j ByteArray.empty := ⟨_, rfl⟩
          rw [← hse] at hc hs HS
          clear hse hx
          go_wp2
          all_goals first
            | (go_ret; exact ⟨rfl, Below.refl _ _⟩)
            | (have h2 := HS.out
               go_round
               case rel => exact ⟨j + 1, by omega, by go_num, by rw [h2]; go_num, by rw [h2]; omega⟩
               case measure => simp [intOf]; omega)
        · obtain rfl : j = xs.length := by omega
          by_cases hk1 : k < 1
          · go_wp2
            go_ret
            exact ⟨rfl, Below.refl _ _⟩
          · by_cases hk2 : k < xs.length
            · obtain ⟨n, rfl⟩ := Int.eq_ofNat_of_zero_le (show 0 ≤ k by omega)
              have hb := hbw (by omega)
              have h1n : 1 ≤ n := by omega
              have hnl : n < xs.length := by omega
              have hS0 : Pl.S xs xs.length + xs.length ≤ 4194304 := by omega
              have hS1 := Nat.le_trans (Nat.add_le_add (Pl.S_take xs n) (show (xs.take n).length ≤ xs.length by rw [List.length_take]; omega)) hS0
              have hS2 := Nat.le_trans (Nat.add_le_add (Pl.S_drop xs n) (show (xs.drop n).length ≤ xs.length by rw [List.length_drop]; omega)) hS0
              go_wp2_with fail
              refine (copy_any b off cap xs _ hx hbig hb).mono ?_
              rintro e w1 ⟨rfl, hr1, hb1, hlt1⟩
              clear hx hbw hsh
              go_wp2_with fail
              refine (zz_len w.heap.size 0 xs.length xs.length xs w1 rfl hr1 hlt1 (Nat.le_refl _) hS0).mono ?_
              rintro e w2 ⟨rfl, hb2⟩
              have hr2 := hr1.later hb2 hlt1
              have hlt2 : w.heap.size < w2.heap.size := Nat.lt_of_lt_of_le hlt1 hb2.size
              go_wp2_with fail
              refine (zz_len w.heap.size 0 n xs.length (xs.take n) w2 (by rw [List.length_take]; omega) (hr2.take n) hlt2 (by omega) hS1).mono ?_
              rintro e w3 ⟨rfl, hb3⟩
              have hr3 := hr2.later hb3 hlt2
              have hlt3 : w.heap.size < w3.heap.size := Nat.lt_of_lt_of_le hlt2 hb3.size
              go_wp2_with fail
              rw [show xs.length - n = (xs.drop n).length by rw [List.length_drop]]
              refine (zz_len w.heap.size n (xs.drop n).length (xs.drop n).length (xs.drop n) w3 rfl (by simpa using hr3.drop n) hlt3 (Nat.le_refl _) hS2).mono ?_
              rintro e w4 ⟨rfl, hb4⟩
              have hr4 := hr3.later hb4 hlt3
              have hfin : Below w.heap.size w w4 := ((hb1.trans (hb2.mono (Nat.le_of_lt hlt1))).trans (hb3.mono (Nat.le_of_lt hlt2))).trans (hb4.mono (Nat.le_of_lt hlt3))
              clear hr1 hr2 hr3 hb1 hb2 hb3 hb4 hlt1 hlt2 hlt3 hb
              have hcut := Pl.csupS_cut xs n (by omega) hnl
              have hlo := csup_lo (xs.drop n)
              have hhi := csup_hi (xs.drop n)
              have hhi2 := csup_hi (xs.take n)
              have HW : Hid ((Pl.csupS xs).size + 1 = 5 + Pl.S xs xs.length + xs.length) := Pl.csupS_size xs (by omega)
              go_wp2_with (go_at_call 7; refine (head_any _ _).mono ?_; rintro e w5 ⟨rfl, hw⟩; obtain rfl := hw.symm; clear hw)
              go_loop [17, 18] (fun z i => ∃ j : Nat, j ≤ xs.length ∧ i = .int .i64 j ∧ z = .int .i64 ((Pl.S xs j : Nat) : Int) ∧ Pl.S xs j ≤ 1048576) (fun _ i => xs.length - (intOf i).toNat)
              case atStart => exact ⟨0, Nat.zero_le _, rfl, by rw [Pl.S_zero]; rfl, by rw [Pl.S_zero]; omega⟩
              case round =>
                obtain ⟨j, hj, rfl, rfl, hq2⟩ := hrel
                by_cases hlt : j < xs.length
                · have hc := hr4 j hlt
                  rw [Nat.zero_add] at hc
                  have hle := Nat.le_trans (Pl.S_mono xs (j + 1) xs.length hlt) (show Pl.S xs xs.length ≤ 1048576 by omega)
                  rw [Pl.S_succ xs j hlt] at hle
                  have HS : Hid (Pl.S xs (j + 1) = Pl.S xs j + (xs.getD j ByteArray.empty).size) := Pl.S_succ xs j hlt
                  obtain ⟨s, hse⟩ : ∃ s, s = xs.getD j ByteArray.empty := ⟨_, rfl⟩
                  rw [← hse] at hc HS hle
                  clear hse hr4 hcut
                  go_wp2
                  have h2 := HS.out
                  go_round
                  case rel => exact ⟨j + 1, by omega, by go_num, by rw [h2]; go_num, by rw [h2]; omega⟩
                  case measure => simp [intOf]; omega
                · obtain rfl : j = xs.length := by omega
                  have hw := HW.out
                  clear hcut
                  go_wp2
                  go_loop [19, 20] (fun z i => ∃ j p : Nat, j ≤ xs.length ∧ i = .int .i64 j ∧ z = .int .i64 p ∧ Hid ((j < xs.length ∧ p = 5 + Pl.S xs j + j) ∨ (j = xs.length ∧ p = (Pl.csupS xs).size))) (fun _ i => xs.length - (intOf i).toNat)
                  case atStart => exact ⟨0, 5, Nat.zero_le _, rfl, rfl, .inl ⟨by omega, by rw [Pl.S_zero]⟩⟩
                  case round =>
                    obtain ⟨j, p, hj, rfl, rfl, HP⟩ := hrel
                    by_cases hlt : j < xs.length
                    · have hp : p = 5 + Pl.S xs j + j := by
                        rcases HP.out with h | h
                        · exact h.2
                        · omega
                      have hc := hr4 j hlt
                      rw [Nat.zero_add] at hc
                      have hword := Pl.csupS_word xs j hlt
                      have hmono := Pl.S_mono xs (j + 1) xs.length hlt
                      have HS : Hid (Pl.S xs (j + 1) = Pl.S xs j + (xs.getD j ByteArray.empty).size) := Pl.S_succ xs j hlt
                      have HC : Hid (j + 1 < xs.length → ∃ hp : 5 + Pl.S xs j + j + (xs.getD j ByteArray.empty).size < (Pl.csupS xs).size, (Pl.csupS xs)[5 + Pl.S xs j + j + (xs.getD j ByteArray.empty).size]'hp = 44) := Pl.csupS_comma xs j
                      rw [← hp] at hword HC
                      obtain ⟨s, hse⟩ : ∃ s, s = xs.getD j ByteArray.empty := ⟨_, rfl⟩
                      rw [← hse] at hc HS hword HC
                      have hend : p + s.size ≤ (Pl.csupS xs).size := by have := HS.out; omega
                      have hend2 : j + 1 = xs.length → p + s.size = (Pl.csupS xs).size := by
                        intro e
                        have := HS.out
                        rw [e] at this
                        omega
                      have hnext : p + s.size + 1 = 5 + Pl.S xs (j + 1) + (j + 1) := by have := HS.out; omega
                      have HE : Hid (j + 1 = xs.length → p + s.size = (Pl.csupS xs).size) := hend2
                      have HN : Hid (p + s.size + 1 = 5 + Pl.S xs (j + 1) + (j + 1)) := hnext
                      have hpw : p ≤ 9000000 := by omega
                      have hsw : s.size ≤ 9000000 := by omega
                      clear hse hr4 hp HP HS hend2 hnext hmono
                      by_cases hl2 : j + 1 < xs.length
                      · obtain ⟨hpp, hcm⟩ := HC.out hl2
                        clear HC
                        go_wp2
                        go_round
                        case rel => exact ⟨j + 1, p + s.size + 1, by omega, by go_num, by go_num, .inl ⟨hl2, HN.out⟩⟩
                        case measure => simp [intOf]; omega
                      · go_wp2
                        go_round
                        case rel => exact ⟨j + 1, p + s.size, by omega, by go_num, by go_num, .inr ⟨by omega, HE.out (by omega)⟩⟩
                        case measure => simp [intOf]; omega
                    · obtain rfl : j = xs.length := by omega
                      obtain rfl : p = (Pl.csupS xs).size := by
                        rcases HP.out with h | h
                        · omega
                        · exact h.2
                      go_wp2
                      go_ret
                      exact ⟨rfl, hfin⟩
            · have hk3 : (xs.length : Int) ≤ k := by omega
              go_wp2
              go_ret
              exact ⟨rfl, Below.refl _ _⟩
    · go_wp2
      go_ret
      exact ⟨rfl, Below.refl _ _⟩
end Go.Proofs.Qxb6623314a
