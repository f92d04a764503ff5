/- Seat b6623333a: THE LAW's OWN WALK. -/
import Derived.Test.Qxb6623333aPathN
import Derived.Test.Qxb6623333aSize
import Derived.Test.Qxb6623333aMore
import Derived.Test.Qxb6623333aBool
import Derived.Deep.CutRange
namespace Go.Proofs.Qxb6623333a
open Go.RowKit Go.Maps
set_option maxRecDepth 100000

theorem Try.info38 : (Try.prog.info? 38).map (fun i => (i.zero, i.size, i.bytes)) = some (some (.agg #[.string ⟨#[]⟩, .slice none 0 0]), 2, 40) := by kernel_rfl

set_option maxHeartbeats 1600000 in
theorem law_head (a : Option Addr) (m ca : Nat) (b : Option Addr) (n cb : Nat) (qs : Nat → ZE) (ps : Nat → ZP) (x : ZP) (i j : Int) (w : World) (ha : ZEsIs w a m qs) (hb : ZPsIs w b n ps) (hx : x.ok w) (hcb : n ≤ cb)
    (HBY : ∀ w', Below w.heap.size w w' → Calls Try.prog 12 #[.slice a m ca, .slice b n cb, .agg #[.string x.origin, .slice x.a x.n x.c], .int .i64 i, .int .i64 j] w' fun e w'' => IsBool (m ≤ 1048576 ∧ n ≤ 1048576 ∧ (∀ p, p < n → (ps p).n ≤ 1048576) ∧ x.n ≤ 1048576) e ∧ Below w'.heap.size w' w'') :
    Calls Try.prog 4 #[.slice a m ca, .slice b n cb, .agg #[.string x.origin, .slice x.a x.n x.c], .int .i64 i, .int .i64 j] w fun e w' => e = .returned (.bool true) ∧ Below w.heap.size w w' := by
  have LA : Hid (∀ W, Below w.heap.size w W → ZEsIs W a m qs) := fun W hW => ha.later hW
  have LB : Hid (∀ W, Below w.heap.size w W → ZPsIs W b n ps) := fun W hW => hb.later hW
  have LX : Hid (∀ W, Below w.heap.size w W → x.ok W) := fun W hW => hx.later hW
  have LY := HBY
  have hn1 := hb.1
  unfold maxLen at hn1
  clear ha hb hx HBY
  have HW0 : Hid (Below w.heap.size w (w.alloc (.cells #[.string x.origin, .slice x.a x.n x.c] 38))) := (Below.refl _ _).alloc (Nat.le_refl _) _
  go_enter Try.func4, Try.ntmps4
  go_wp2_with fail
  refine (LY _ HW0.out).mono ?_
  rintro e w1 ⟨hr, hb1⟩
  obtain ⟨r, rfl, hr⟩ := hr
  clear LY
  have HW1 : Hid (Below w.heap.size w w1) := show Below w.heap.size w w1 from HW0.out.trans (hb1.mono (by simp))
  cases r
  · go_wp2
    go_ret
    exact ⟨rfl, HW1.out⟩
  · obtain ⟨hm2, hn2, hp2, hx2⟩ := hr rfl
    have HP : Hid (∀ p, p < n → (ps p).n ≤ 1048576) := hp2
    have x0 : w1.cell? ⟨w.heap.size, 0, none⟩ = some (.string x.origin) := by rw [hb1.cell (by simp)]; simp
    have x1 : w1.cell? ⟨w.heap.size, 1, none⟩ = some (.slice x.a x.n x.c) := by rw [hb1.cell (by simp)]; simp
    clear hp2 hr hb1 HW0
    go_wp2
    go_region_held3 (fun W => W.cell? ⟨w.heap.size, 0, none⟩ = some (.string x.origin) ∧ W.cell? ⟨w.heap.size, 1, none⟩ = some (.slice x.a x.n x.c)) (go_keep) (first | (go_at_call 6; refine (size_any a m ca b n cb qs ps _ (by exact LA.out _ HW1.out.drew) (by exact LB.out _ HW1.out.drew)).mono ?_; rintro e w2 ⟨hr, hb2⟩; obtain ⟨r, hr⟩ := hr; subst hr; have HW2 : Hid (Below w.heap.size w w2) := HW1.out.trans (((Below.refl _ _).drew.trans hb2).mono HW1.out.size); have y0 := cell_keeps hb2 x0; have y1 := cell_keeps hb2 x1) | (go_at_call 13; refine (addPath _ x _ (by exact LX.out _ HW2.out)).mono ?_; rintro e w3 ⟨hr, hb3⟩; obtain ⟨r3, hr⟩ := hr; subst hr; have HW3 : Hid (Below w.heap.size w w3) := HW2.out.trans (hb3.mono HW2.out.size); have z0 := cell_keeps hb3 y0; have z1 := cell_keeps hb3 y1))
    by_cases hr3 : (1048576 : Int) < r3
    · go_wp2
      go_ret
      exact ⟨rfl, HW3.out⟩
    · by_cases hi0 : i < 0
      · go_wp2
        go_ret
        exact ⟨rfl, HW3.out⟩
      · by_cases hin : (n : Int) ≤ i
        · go_wp2
          go_ret
          exact ⟨rfl, HW3.out⟩
        · by_cases hj0 : j < 0
          · go_wp2
            go_ret
            exact ⟨rfl, HW3.out⟩
          · by_cases hjn : (n : Int) < j
            · go_wp2
              go_ret
              exact ⟨rfl, HW3.out⟩
            · obtain ⟨i, rfl⟩ := Int.eq_ofNat_of_zero_le (show 0 ≤ i by omega)
              obtain ⟨j, rfl⟩ := Int.eq_ofNat_of_zero_le (show 0 ≤ j by omega)
              have hin' : i < n := by omega
              have hjn' : j ≤ n := by omega
              clear hi0 hj0 hin hjn
              obtain ⟨bb, bo, hbb, hbc⟩ := (LB.out w3 HW3.out).2.2 (by omega)
              have hpsok := (LB.out w3 HW3.out).2.1
              subst hbb
              have LC : Hid (∀ W, Below w3.heap.size w3 W → ∀ k, k < n → W.cell? ⟨bb, bo + k * 2, none⟩ = some (.string (ps k).origin) ∧ W.cell? ⟨bb, bo + k * 2 + 1, none⟩ = some (.slice (ps k).a (ps k).n (ps k).c)) :=
                fun W hW k hk => ⟨cell_keeps hW (hbc k hk).1, cell_keeps hW (hbc k hk).2⟩
              have LO : Hid (∀ k, k < n → (ps k).ok w3) := hpsok
              clear hbc hpsok
              obtain ⟨i0, hi, hz0, hz1, hz2⟩ := info_parts Try.info38
              go_wp2_with (at_make; refine wpList_make_own _ rfl _ _ 23 rfl w3.heap.size 38 i0 (.agg #[.string ⟨#[]⟩, .slice none 0 0]) 2 Try.underlying23 hi hz0 hz1 _ _ _ (n + 1) rfl rfl (by go_num) ?b2 ?b3 (Nat.le_refl _) ?_)
              case b2 => first | omega | (rw [hz2]; omega)
              case b3 => unfold maxLen; omega
              intro w4 hown4 hgrow4
              have hb4 : Below w3.heap.size w3 w4 := (Below.refl _ _).grown hgrow4 (Nat.le_refl _) (fun k h => by cases h)
              have hjc : (j : Int) ≤ (cb : Int) := by omega
              go_wp2_with (at_builtin; refine wpList_append_fits_any _ rfl (.tmp 50) (.tmp 53) 23 rfl w3.heap.size 38 i0 2 Try.underlying23 hi hz1 w3.heap.size 0 (n + 1) _ rfl hown4 (some ⟨bb, bo, none⟩) j _ (pCells j ps) rfl (pCells_length j ps) (fun h => by cases h) ?c1 (pCells_one j ps) (by omega) ?_)
              case c1 => intro ad h; cases h; exact pCells_lie fun k hk => LC.out w4 hb4 k (by omega)
              intro w5 hown5 hgrow5
              have hb5 : Below w3.heap.size w3 w5 := hb4.grown hgrow5 hb4.size (fun k hk => by cases hk; exact Nat.le_refl _)
              have v0 := cell_keeps hb5 z0
              have v1 := cell_keeps hb5 z1
              have hn5 : w3.heap.size < w5.heap.size := by
                rcases hown5.2 with ⟨h', _⟩ | ⟨g', _, cur, h', _, hg, _⟩
                · simp at h'
                · simp only [Value.slice.injEq, Option.some.injEq, Addr.mk.injEq, and_true, true_and] at h'
                  obtain ⟨rfl, _⟩ := h'
                  exact (Array.getElem?_eq_some_iff.1 hg).1
              go_wp2_with (at_builtin; refine wpList_append_fits _ rfl (.tmp 55) (.tmp 57) 23 rfl w3.heap.size 38 i0 2 Try.underlying23 hi hz1 w3.heap.size j (n + 1) _ rfl (hown5.alloc _) ⟨w5.heap.size, 0, none⟩ 1 1 [.string x.origin, .slice x.a x.n x.c] rfl rfl ?c2 ?c3 (by omega) ?_)
              case c2 => exact cell_two_new _ _ _ _
              case c3 => intro u hu; simp at hu; rcases hu with rfl | rfl <;> rfl
              intro w6 hown6 hgrow6
              have hb6 : Below w3.heap.size w3 w6 := (hb5.alloc hb5.size _).grown hgrow6 (by have := hb5.size; simp; omega) (fun k hk => by cases hk; exact Nat.le_refl _)
              have e7 : j + 1 + (n - j) = n + 1 := by omega
              have HC4 : Hid (∀ ao : Option Addr, (¬ cb = j → ao = some ⟨bb, bo + j * 2, none⟩) → ∀ ad, ao = some ad → ∀ t u, (pCells (n - j) (fun k => ps (j + k)))[t]? = some u → w6.cell? (ad.add t) = some u) := by
                intro ao hao ad had t u hu
                have ht : t < (n - j) * 2 := by
                  have := (List.getElem?_eq_some_iff.1 hu).1
                  rwa [pCells_length] at this
                rw [hao (by omega)] at had
                cases had
                refine pCells_lie (fun k hk => ?_) t u hu
                have h := LC.out w6 hb6 (j + k) (by omega)
                rw [show bo + j * 2 + k * 2 = bo + (j + k) * 2 by omega]
                exact h
              have HOK : Hid (∀ W, Below w3.heap.size w3 W → ∀ k, k < n + 1 → (ins j ps x k).ok W) := by
                intro W hW k hk
                have hWw : Below w.heap.size w W := HW3.out.trans (hW.mono HW3.out.size)
                unfold ins
                split
                · exact (LO.out k (by omega)).later hW
                · split
                  · exact LX.out W hWw
                  · exact (LO.out (k - 1) (by omega)).later hW
              have HPI : Hid (∀ k, k < n + 1 → (ins j ps x k).n ≤ 1048576) := by
                intro k hk
                unfold ins
                split
                · exact HP.out k (by omega)
                · split
                  · exact hx2
                  · exact HP.out (k - 1) (by omega)
              go_upto_region 12 with fail
              go_cut [11] from 13 (fun v wc => v = .slice (some ⟨w3.heap.size, 0, none⟩) (n + 1) (n + 1) ∧ ZPsIs wc (some ⟨w3.heap.size, 0, none⟩) (n + 1) (ins j ps x) ∧ Below w3.heap.size w3 wc)
              case first =>
                go_wp2_with (at_builtin; refine wpList_append_fits_any _ rfl (.tmp 59) (.tmp 62) 23 rfl w3.heap.size 38 i0 2 Try.underlying23 hi hz1 w3.heap.size (j + 1) (n + 1) _ rfl hown6 _ (n - j) _ (pCells (n - j) (fun k => ps (j + k))) rfl (pCells_length _ _) (by intro h; first | cases h | (split at h <;> cases h)) (HC4.out _ (by intro h; first | rfl | simp [h])) (pCells_one _ _) (by omega) ?_; intro w7 hown7 hgrow7)
                all_goals
                  first | (have hcj : cb = j := by assumption
                           subst hcj) | skip
                  go_meet
                  have hb7 : Below w3.heap.size w3 w7 := hb6.grown hgrow7 hb6.size (fun k hk => by cases hk; exact Nat.le_refl _)
                  refine ⟨rfl, ZPsIs.ofRow (by unfold maxLen; omega) (HOK.out w7 hb7) (fun k hk => ?_), hb7⟩
                  rw [← pCells_ins _ n ps x hjn']
                  rw [e7] at hown7
                  exact hown7.cellAt k hk
              case rest =>
                obtain ⟨hv7, hmore, hb7⟩ := hcut
                subst hv7
                clear hown6 hgrow6 hown5 hgrow5 hown4 hgrow4 HC4 hb6 hb5 hb4 e7 v0 v1 hn5
                go_upto_if 67 with fail
                have HI1 : Hid (j ≤ i → ins j ps x (i + 1) = ps i) := fun h => by have := ins_shift j i ps x; rwa [if_pos h] at this
                have HI2 : Hid (¬ j ≤ i → ins j ps x i = ps i) := fun h => by have := ins_shift j i ps x; rwa [if_neg h] at this
                go_cut [12] from 13 (fun v wd => wd = wc ∧ ∃ ii : Nat, v = .int .i64 ii ∧ Hid (ins j ps x ii = ps i) ∧ ii < n + 1)
                case first =>
                  go_wp2
                  · go_meet
                    exact ⟨rfl, i + 1, by go_num, HI1.out (by omega), by omega⟩
                  · go_meet
                    exact ⟨rfl, i, rfl, HI2.out (by omega), by omega⟩
                case rest =>
                  obtain ⟨hwd, ii, hv8, HII, hii⟩ := hcut
                  subst hwd
                  subst hv8
                  clear HI1 HI2
                  have HW7 : Hid (Below w.heap.size w wc) := HW3.out.trans (hb7.mono HW3.out.size)
                  have HD7 : Hid (Below w3.heap.size w3 wc) := hb7
                  clear hb7
                  go_wp2_with fail
                  refine (els_any a m ca qs _ (LA.out _ HW7.out) hm2).mono ?_
                  rintro e w8 ⟨r1, c1, rfl, hc1, he1, hb8⟩
                  have HW8 : Hid (Below w.heap.size w w8) := HW7.out.trans (hb8.mono HW7.out.size)
                  have HD8 : Hid (Below w3.heap.size w3 w8) := HD7.out.trans (hb8.mono HD7.out.size)
                  have hmore8 := hmore.later hb8
                  go_wp2_with fail
                  refine (paths_any (some ⟨bb, bo, none⟩) n cb ps _ (LB.out _ HW8.out) (by omega) HP.out).mono ?_
                  rintro e w9 ⟨r2, c2, rfl, hp9, hb9⟩
                  have HW9 : Hid (Below w.heap.size w w9) := HW8.out.trans (hb9.mono HW8.out.size)
                  have HD9 : Hid (Below w3.heap.size w3 w9) := HD8.out.trans (hb9.mono HD8.out.size)
                  have hmore9 := hmore8.later hb9
                  go_wp2_with fail
                  refine (at_any r1 m c1 qs r2 n c2 ps i _ (he1.is.later hb9) hp9 hin' (HP.out i hin') hm2 hc1).mono ?_
                  rintro e w10 ⟨R1, d1, rfl, hR1, hb10⟩
                  have HW10 : Hid (Below w.heap.size w w10) := HW9.out.trans (hb10.mono HW9.out.size)
                  have HD10 : Hid (Below w3.heap.size w3 w10) := HD9.out.trans (hb10.mono HD9.out.size)
                  have hmore10 := hmore9.later hb10
                  clear hmore hmore8 hmore9 he1 hp9 hb8 hb9 hb10 hc1
                  have HA10 : ∀ o, Hid (Below w10.heap.size w10 (w10.alloc o)) := fun o => (Below.refl _ _).alloc (Nat.le_refl _) _
                  go_wp2_with fail
                  refine (els_any a m ca qs _ (LA.out _ (HW10.out.trans ((HA10 _).out.mono HW10.out.size))) hm2).mono ?_
                  rintro e w11 ⟨r3, c3, rfl, hc3, he3, hb11⟩
                  have g0 : w11.cell? ⟨w10.heap.size, 0, none⟩ = some (.string (ps i).origin) := by rw [hb11.cell (by simp)]; simp
                  have g1 : w11.cell? ⟨w10.heap.size, 1, none⟩ = some (.slice R1 (m + (ps i).n) d1) := by rw [hb11.cell (by simp)]; simp
                  have hb11' : Below w10.heap.size w10 w11 := (HA10 _).out.trans (hb11.mono (by simp))
                  have HW11 : Hid (Below w.heap.size w w11) := HW10.out.trans (hb11'.mono HW10.out.size)
                  have HD11 : Hid (Below w3.heap.size w3 w11) := HD10.out.trans (hb11'.mono HD10.out.size)
                  have hmore11 := hmore10.later hb11'
                  have hR1' := hR1.later hb11'
                  clear hb11 hb11' hmore10 hR1 HA10
                  go_wp2_with fail
                  refine (paths_any (some ⟨w3.heap.size, 0, none⟩) (n + 1) (n + 1) (ins j ps x) _ hmore11 (by omega) HPI.out).mono ?_
                  rintro e w12 ⟨r4, c4, rfl, hp12, hb12⟩
                  have g0' := cell_keeps hb12 g0
                  have g1' := cell_keeps hb12 g1
                  have HW12 : Hid (Below w.heap.size w w12) := HW11.out.trans (hb12.mono HW11.out.size)
                  have HD12 : Hid (Below w3.heap.size w3 w12) := HD11.out.trans (hb12.mono HD11.out.size)
                  have he12 := he3.is.later hb12
                  have hR12 := hR1'.later hb12
                  clear g0 g1 hb12 hmore11 he3 hR1'
                  go_wp2_with fail
                  have HA12 : ∀ o, Hid (Below w12.heap.size w12 (w12.alloc o)) := fun o => (Below.refl _ _).alloc (Nat.le_refl _) _
                  have hn12 : (ins j ps x ii).n ≤ 1048576 := HPI.out ii hii
                  refine (at_any r3 m c3 qs r4 (n + 1) c4 (ins j ps x) ii _ (he12.later (HA12 _).out) (hp12.later (HA12 _).out) hii hn12 hm2 hc3).mono ?_
                  rintro e w13 ⟨R2, d2, rfl, hR2, hb13⟩
                  rw [HII.out] at hR2 ⊢
                  clear hn12
                  have q0 : w13.cell? ⟨w12.heap.size, 0, none⟩ = some (.slice r3 m c3) := by rw [hb13.cell (by simp)]; simp
                  have q1 : w13.cell? ⟨w12.heap.size, 1, none⟩ = some (.slice r4 (n + 1) c4) := by rw [hb13.cell (by simp)]; simp
                  have hb13' : Below w12.heap.size w12 w13 := (HA12 _).out.trans (hb13.mono (by simp))
                  have g02 := cell_keeps hb13' g0'
                  have g12 := cell_keeps hb13' g1'
                  have HW13 : Hid (Below w.heap.size w w13) := HW12.out.trans (hb13'.mono HW12.out.size)
                  have HD13 : Hid (Below w3.heap.size w3 w13) := HD12.out.trans (hb13'.mono HD12.out.size)
                  have he13 := he12.later hb13'
                  have hp13 := hp12.later hb13'
                  have hR13 := hR12.later hb13'
                  clear g0' g1' hb13 hb13' he12 hp12 hR12 HA12
                  have HA13 : ∀ o, Hid (Below w13.heap.size w13 (w13.alloc o)) := fun o => (Below.refl _ _).alloc (Nat.le_refl _) _
                  have hq13 : w12.heap.size < w13.heap.size := World.block_lt_of_cell? _ _ q0
                  go_wp2_with fail
                  refine (at_any r3 m c3 qs r4 (n + 1) c4 (ins j ps x) j _ (he13.later (HA13 _).out) (hp13.later (HA13 _).out) (by omega) (HPI.out j (by omega)) hm2 hc3).mono ?_
                  rintro e w14 ⟨R3, d3, rfl, hR3, hb14⟩
                  rw [ins_at] at hR3 ⊢
                  have k0 : w14.cell? ⟨w13.heap.size, 0, none⟩ = some (.string (ps i).origin) := by rw [hb14.cell (by simp)]; simp
                  have k1 : w14.cell? ⟨w13.heap.size, 1, none⟩ = some (.slice R2 (m + (ps i).n) d2) := by rw [hb14.cell (by simp)]; simp
                  have hb14' : Below w13.heap.size w13 w14 := (HA13 _).out.trans (hb14.mono (by simp))
                  have g03 := cell_keeps hb14' g02
                  have g13 := cell_keeps hb14' g12
                  have HW14 : Hid (Below w.heap.size w w14) := HW13.out.trans (hb14'.mono HW13.out.size)
                  have HD14 : Hid (Below w3.heap.size w3 w14) := HD13.out.trans (hb14'.mono HD13.out.size)
                  have hR14 := hR13.later hb14'
                  have hR24 := hR2.later hb14'
                  clear g02 g12 hb14 hb14' he13 hp13 hR13 hR2 HA13 q0 q1 hc3
                  go_upto_region 20 with fail
                  have HA14 : Below w14.heap.size w14 (w14.alloc (.cells #[.string x.origin, .slice R3 (m + x.n) d3] 28)) := (Below.refl _ _).alloc (Nat.le_refl _) _
                  have l0 : (w14.alloc (.cells #[.string x.origin, .slice R3 (m + x.n) d3] 28)).cell? ⟨w14.heap.size, 0, none⟩ = some (.string x.origin) := by simp
                  have l1 : (w14.alloc (.cells #[.string x.origin, .slice R3 (m + x.n) d3] 28)).cell? ⟨w14.heap.size, 1, none⟩ = some (.slice R3 (m + x.n) d3) := by simp
                  obtain ⟨V, hV⟩ : ∃ V, V = w14.alloc (.cells #[.string x.origin, .slice R3 (m + x.n) d3] 28) := ⟨_, rfl⟩
                  rw [← hV] at HA14 l0 l1 ⊢
                  clear hV
                  have hVw : Below w.heap.size w V := HW14.out.trans (HA14.mono HW14.out.size)
                  have hVx : Below w3.heap.size w3 V := HD14.out.trans (HA14.mono HD14.out.size)
                  have HS : Hid (∀ W, Below V.heap.size V W → W.cell? ⟨w10.heap.size, 0, none⟩ = some (.string (ps i).origin) ∧ W.cell? ⟨w10.heap.size, 1, none⟩ = some (.slice R1 (m + (ps i).n) d1) ∧ W.cell? ⟨w13.heap.size, 0, none⟩ = some (.string (ps i).origin) ∧ W.cell? ⟨w13.heap.size, 1, none⟩ = some (.slice R2 (m + (ps i).n) d2) ∧ W.cell? ⟨w14.heap.size, 0, none⟩ = some (.string x.origin) ∧ W.cell? ⟨w14.heap.size, 1, none⟩ = some (.slice R3 (m + x.n) d3) ∧ W.cell? ⟨w.heap.size, 0, none⟩ = some (.string x.origin) ∧ W.cell? ⟨w.heap.size, 1, none⟩ = some (.slice x.a x.n x.c) ∧ W.cell? ⟨bb, bo + i * 2, none⟩ = some (.string (ps i).origin) ∧ W.cell? ⟨bb, bo + i * 2 + 1, none⟩ = some (.slice (ps i).a (ps i).n (ps i).c)) := by
                    intro W hW
                    have hVW : Below w3.heap.size w3 W := hVx.trans (hW.mono hVx.size)
                    have hL := LC.out W hVW i hin'
                    exact ⟨cell_keeps hW (cell_keeps HA14 g03), cell_keeps hW (cell_keeps HA14 g13), cell_keeps hW (cell_keeps HA14 k0), cell_keeps hW (cell_keeps HA14 k1), cell_keeps hW l0, cell_keeps hW l1, cell_keeps hVW z0, cell_keeps hVW z1, hL.1, hL.2⟩
                  have P1 : Hid (∀ W, Below V.heap.size V W → Calls Try.prog 11 #[.agg #[.string (ps i).origin, .slice R1 (m + (ps i).n) d1], .string (ps i).origin, .slice a m ca, .slice (ps i).a (ps i).n (ps i).c] W fun e w' => e = .returned (.bool true) ∧ Below W.heap.size W w') := fun W hW =>
                    path_any _ R1 m (ps i).n d1 a ca (ps i).a (ps i).c qs (ps i).zs W ((hR14.later HA14).later hW) ((LA.out V hVw).later hW) (((LB.out V hVw).2.1 i hin').later hW) hm2 (HP.out i hin')
                  have P2 : Hid (∀ W, Below V.heap.size V W → Calls Try.prog 11 #[.agg #[.string (ps i).origin, .slice R2 (m + (ps i).n) d2], .string (ps i).origin, .slice a m ca, .slice (ps i).a (ps i).n (ps i).c] W fun e w' => e = .returned (.bool true) ∧ Below W.heap.size W w') := fun W hW =>
                    path_any _ R2 m (ps i).n d2 a ca (ps i).a (ps i).c qs (ps i).zs W ((hR24.later HA14).later hW) ((LA.out V hVw).later hW) (((LB.out V hVw).2.1 i hin').later hW) hm2 (HP.out i hin')
                  have P3 : Hid (∀ W, Below V.heap.size V W → Calls Try.prog 11 #[.agg #[.string x.origin, .slice R3 (m + x.n) d3], .string x.origin, .slice a m ca, .slice x.a x.n x.c] W fun e w' => e = .returned (.bool true) ∧ Below W.heap.size W w') := fun W hW =>
                    path_any _ R3 m x.n d3 a ca x.a x.c qs x.zs W ((hR3.later HA14).later hW) ((LA.out V hVw).later hW) ((LX.out V hVw).later hW) hm2 hx2
                  have hS0 := HS.out V (Below.refl _ _)
                  have HVW : Hid (Below w.heap.size w V) := hVw
                  have hin'' : (i : Int) < (n : Int) := by omega
                  clear HA14 l0 l1 hVw hVx g03 g13 k0 k1 z0 z1 hR14 hR24 hR3 y0 y1 x0 x1
                  go_region_held3 (fun W => W.cell? ⟨w10.heap.size, 0, none⟩ = some (.string (ps i).origin) ∧ W.cell? ⟨w10.heap.size, 1, none⟩ = some (.slice R1 (m + (ps i).n) d1) ∧ W.cell? ⟨w13.heap.size, 0, none⟩ = some (.string (ps i).origin) ∧ W.cell? ⟨w13.heap.size, 1, none⟩ = some (.slice R2 (m + (ps i).n) d2) ∧ W.cell? ⟨w14.heap.size, 0, none⟩ = some (.string x.origin) ∧ W.cell? ⟨w14.heap.size, 1, none⟩ = some (.slice R3 (m + x.n) d3) ∧ W.cell? ⟨w.heap.size, 0, none⟩ = some (.string x.origin) ∧ W.cell? ⟨w.heap.size, 1, none⟩ = some (.slice x.a x.n x.c) ∧ W.cell? ⟨bb, bo + i * 2, none⟩ = some (.string (ps i).origin) ∧ W.cell? ⟨bb, bo + i * 2 + 1, none⟩ = some (.slice (ps i).a (ps i).n (ps i).c)) (go_keep) (first | (go_at_call_of 11 (Value.slice R1 (m + (ps i).n) d1); refine (P1.out _ (by exact (Below.refl _ _).drew)).mono ?_; rintro e w15 ⟨rfl, hb15⟩; have HB15 : Hid (Below V.heap.size V w15) := (Below.refl V.heap.size V).drew.trans hb15; have hS15 := HS.out w15 HB15.out) | (go_at_call_of 11 (Value.slice R2 (m + (ps i).n) d2); refine (P2.out _ HB15.out).mono ?_; rintro e w16 ⟨rfl, hb16⟩; have HB16 : Hid (Below V.heap.size V w16) := HB15.out.trans (hb16.mono HB15.out.size); have hS16 := HS.out w16 HB16.out) | (go_at_call_of 11 (Value.slice R3 (m + x.n) d3); refine (P3.out _ HB16.out).mono ?_; rintro e w17 ⟨rfl, hb17⟩; have HB17 : Hid (Below V.heap.size V w17) := HB16.out.trans (hb17.mono HB16.out.size); have hS17 := HS.out w17 HB17.out))
                  go_wp2
                  go_ret
                  exact ⟨rfl, HVW.out.trans (HB17.out.mono HVW.out.size)⟩
end Go.Proofs.Qxb6623333a
