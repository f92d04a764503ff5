/- Seat b6623333a: THE WALK of zzBytes_FnAtOtherPathsIgnored: it hands back a bool and writes nothing; where it is true the lengths are bounded. (Made by a small program: three lists of elements, one walk.) -/
import Derived.Test.Qxb6623333aBool
namespace Go.Proofs.Qxb6623333a
open Go.RowKit Go.Maps
set_option maxRecDepth 100000

set_option maxHeartbeats 16000000 in
theorem bytes_any (a : Option Addr) (m ca : Nat) (b : Option Addr) (n cb : Nat) (qs : Nat → ZE) (ps : Nat → ZP) (xo : ByteArray) (xa : Option Addr) (xn xc : Nat) (xs : Nat → ZE) (i k : Int) (w : World) (ha : ZEsIs w a m qs) (hb : ZPsIs w b n ps) (hx : ZEsIs w xa xn xs) :
    Calls Try.prog 12 #[.slice a m ca, .slice b n cb, .agg #[.string xo, .slice xa xn xc], .int .i64 i, .int .i64 k] w fun e w' => IsBool (m ≤ 1048576 ∧ n ≤ 1048576 ∧ (∀ p, p < n → (ps p).n ≤ 1048576) ∧ xn ≤ 1048576) e ∧ Below w.heap.size w w' := by
  have hbw : Below w.heap.size w (w.alloc (.cells #[.string xo, .slice xa xn xc] 38)) := (Below.refl _ _).alloc (Nat.le_refl _) _
  have HA : Hid (ZEsIs (w.alloc (.cells #[.string xo, .slice xa xn xc] 38)) a m qs) := ha.later hbw
  have HBB : Hid (ZPsIs (w.alloc (.cells #[.string xo, .slice xa xn xc] 38)) b n ps) := hb.later hbw
  have HX : Hid (ZEsIs (w.alloc (.cells #[.string xo, .slice xa xn xc] 38)) xa xn xs) := hx.later hbw
  have HBW : Hid (Below w.heap.size w (w.alloc (.cells #[.string xo, .slice xa xn xc] 38))) := hbw
  have hm1 := ha.1
  have hn1 := hb.1
  have hx1 := hx.1
  unfold maxLen at hm1 hn1 hx1
  clear ha hb hx hbw
  by_cases hbig : (1048576 : Int) < (m : Int)
  · go_enter Try.func12, Try.ntmps12
    go_wp2
    go_ret
    exact ⟨isBool_no _, HBW.out⟩
  · go_enter Try.func12, Try.ntmps12
    go_wp2
    go_loop [11, 12] (fun z i => ∃ (j : Nat) (q : Nat), j ≤ m ∧ i = .int .i64 j ∧ z = .int .i64 q ∧ q ≤ 1048576) (fun _ i => m - (intOf i).toNat)
    case atStart => exact ⟨0, _, Nat.zero_le _, rfl, by go_num, by omega⟩
    case round =>
      obtain ⟨ea, qa, hea, rfl, rfl, hqa⟩ := hrel
      by_cases hlta : ea < m
      · as_aux_lemma =>
        obtain ⟨aba, aoa, haba, hmca⟩ := HA.out.2.2 (by omega)
        obtain ⟨c0a, c1a, c2a⟩ := hmca ea hlta
        obtain ⟨⟨hk1a, _, hk3a⟩, hv1a, _, hv3a⟩ := HA.out.2.1 ea hlta
        obtain ⟨za, hza⟩ : ∃ z, z = qs ea := ⟨_, rfl⟩
        rw [← hza] at c0a c1a c2a hk1a hk3a hv1a hv3a
        obtain ⟨nma, kaa, kna, kca, ksa, vaa, vna, vca, vsa⟩ := za
        clear hza hmca
        simp only at c0a c1a c2a hk1a hk3a hv1a hv3a
        have HKa : Hid (0 < kna → ∃ b off, kaa = some ⟨b, off, none⟩ ∧ ∀ j, j < kna → (w.alloc (.cells #[.string xo, .slice xa xn xc] 38)).cell? ⟨b, off + j, none⟩ = some (.string (ksa j))) := hk3a
        have HVa : Hid (0 < vna → ∃ b off, vaa = some ⟨b, off, none⟩ ∧ ∀ j, j < vna → (w.alloc (.cells #[.string xo, .slice xa xn xc] 38)).cell? ⟨b, off + j, none⟩ = some (.string (vsa j))) := hv3a
        unfold maxLen at hk1a hv1a
        clear hk3a hv3a
        have hjma : (ea : Int) < (m : Int) := by omega
        subst haba
        clear HA
        go_wp2
        all_goals first | (go_ret; exact ⟨isBool_no _, HBW.out⟩) | skip
        go_loop [11, 13] (fun z i => ∃ (j : Nat) (q : Nat), j ≤ kna ∧ i = .int .i64 j ∧ z = .int .i64 q ∧ q ≤ 1048576) (fun _ i => kna - (intOf i).toNat)
        case atStart => exact ⟨0, _, Nat.zero_le _, rfl, by go_num, by omega⟩
        case round =>
          obtain ⟨iak, qak, hiak, rfl, rfl, hqak⟩ := hrel
          by_cases hlak : iak < kna
          · as_aux_lemma =>
            obtain ⟨sb, so, hK, hcs⟩ := HKa.out (by omega)
            have cs := hcs iak hlak
            have hiak : (iak : Int) < (kna : Int) := by omega
            obtain ⟨s, hs⟩ : ∃ s, s = ksa iak := ⟨_, rfl⟩
            rw [← hs] at cs
            subst hK
            clear hcs hs HKa
            go_wp2
            all_goals first
              | (go_ret; exact ⟨isBool_no _, HBW.out⟩)
              | (go_round
                 case rel => exact ⟨iak + 1, qak + s.size, by omega, by go_num, by go_num, by omega⟩
                 case measure => simp [intOf]; omega)
          · as_aux_lemma =>
            go_wp2
            all_goals first | (go_ret; exact ⟨isBool_no _, HBW.out⟩) | skip
            go_loop [11, 14] (fun z i => ∃ (j : Nat) (q : Nat), j ≤ vna ∧ i = .int .i64 j ∧ z = .int .i64 q ∧ q ≤ 1048576) (fun _ i => vna - (intOf i).toNat)
            case atStart => exact ⟨0, _, Nat.zero_le _, rfl, by go_num, by omega⟩
            case round =>
              obtain ⟨iav, qav, hiav, rfl, rfl, hqav⟩ := hrel
              by_cases hlav : iav < vna
              · as_aux_lemma =>
                obtain ⟨sb, so, hK, hcs⟩ := HVa.out (by omega)
                have cs := hcs iav hlav
                have hiav : (iav : Int) < (vna : Int) := by omega
                obtain ⟨s, hs⟩ : ∃ s, s = vsa iav := ⟨_, rfl⟩
                rw [← hs] at cs
                subst hK
                clear hcs hs HVa
                go_wp2
                all_goals first
                  | (go_ret; exact ⟨isBool_no _, HBW.out⟩)
                  | (go_round
                     case rel => exact ⟨iav + 1, qav + s.size, by omega, by go_num, by go_num, by omega⟩
                     case measure => simp [intOf]; omega)
              · as_aux_lemma =>
                go_wp2
                go_round
                case rel => exact ⟨ea + 1, _, by omega, by go_num, rfl, by omega⟩
                case measure => simp [intOf]; omega
      · as_aux_lemma =>
        go_wp2
        all_goals first | (go_ret; exact ⟨isBool_no _, HBW.out⟩) | skip
        go_loop [11, 15] (fun z i => ∃ (j : Nat) (q : Nat), j ≤ n ∧ i = .int .i64 j ∧ z = .int .i64 q ∧ q ≤ 1048576 ∧ Hid (∀ p, p < j → (ps p).n ≤ 1048576)) (fun _ i => n - (intOf i).toNat)
        case atStart => exact ⟨0, _, Nat.zero_le _, rfl, by go_num, by omega, fun p hp => by omega⟩
        case round =>
          obtain ⟨eb, qb, heb, rfl, rfl, hqb, HPb⟩ := hrel
          by_cases hltb : eb < n
          · as_aux_lemma =>
            obtain ⟨bb, bo, habb, hmcb⟩ := HBB.out.2.2 (by omega)
            obtain ⟨c0b, c1b⟩ := hmcb eb hltb
            have hpok := HBB.out.2.1 eb hltb
            obtain ⟨zb, hzb⟩ : ∃ z, z = ps eb := ⟨_, rfl⟩
            have HPN : Hid (zb.n = (ps eb).n) := show zb.n = (ps eb).n by rw [hzb]
            rw [← hzb] at c0b c1b hpok
            obtain ⟨po, pa, pn, pc, zs⟩ := zb
            clear hzb hmcb
            simp only at c0b c1b
            have HP : Hid (ZEsIs (w.alloc (.cells #[.string xo, .slice xa xn xc] 38)) pa pn zs) := hpok
            have hpn1 := HP.out.1
            unfold maxLen at hpn1
            clear hpok
            have hjmb : (eb : Int) < (n : Int) := by omega
            subst habb
            clear HBB HX
            go_wp2
            all_goals first | (go_ret; exact ⟨isBool_no _, HBW.out⟩) | skip
            go_loop [11, 16] (fun z i => ∃ (j : Nat) (q : Nat), j ≤ pn ∧ i = .int .i64 j ∧ z = .int .i64 q ∧ q ≤ 1048576) (fun _ i => pn - (intOf i).toNat)
            case atStart => exact ⟨0, _, Nat.zero_le _, rfl, by go_num, by omega⟩
            case round =>
              obtain ⟨ec, qc, hec, rfl, rfl, hqc⟩ := hrel
              by_cases hltc : ec < pn
              · as_aux_lemma =>
                obtain ⟨abc, aoc, habc, hmcc⟩ := HP.out.2.2 (by omega)
                obtain ⟨c0c, c1c, c2c⟩ := hmcc ec hltc
                obtain ⟨⟨hk1c, _, hk3c⟩, hv1c, _, hv3c⟩ := HP.out.2.1 ec hltc
                obtain ⟨zc, hzc⟩ : ∃ z, z = zs ec := ⟨_, rfl⟩
                rw [← hzc] at c0c c1c c2c hk1c hk3c hv1c hv3c
                obtain ⟨nmc, kac, knc, kcc, ksc, vac, vnc, vcc, vsc⟩ := zc
                clear hzc hmcc
                simp only at c0c c1c c2c hk1c hk3c hv1c hv3c
                have HKc : Hid (0 < knc → ∃ b off, kac = some ⟨b, off, none⟩ ∧ ∀ j, j < knc → (w.alloc (.cells #[.string xo, .slice xa xn xc] 38)).cell? ⟨b, off + j, none⟩ = some (.string (ksc j))) := hk3c
                have HVc : Hid (0 < vnc → ∃ b off, vac = some ⟨b, off, none⟩ ∧ ∀ j, j < vnc → (w.alloc (.cells #[.string xo, .slice xa xn xc] 38)).cell? ⟨b, off + j, none⟩ = some (.string (vsc j))) := hv3c
                unfold maxLen at hk1c hv1c
                clear hk3c hv3c
                have hjmc : (ec : Int) < (pn : Int) := by omega
                subst habc
                clear HP
                go_wp2
                all_goals first | (go_ret; exact ⟨isBool_no _, HBW.out⟩) | skip
                go_loop [11, 17] (fun z i => ∃ (j : Nat) (q : Nat), j ≤ knc ∧ i = .int .i64 j ∧ z = .int .i64 q ∧ q ≤ 1048576) (fun _ i => knc - (intOf i).toNat)
                case atStart => exact ⟨0, _, Nat.zero_le _, rfl, by go_num, by omega⟩
                case round =>
                  obtain ⟨ick, qck, hick, rfl, rfl, hqck⟩ := hrel
                  by_cases hlck : ick < knc
                  · as_aux_lemma =>
                    obtain ⟨sb, so, hK, hcs⟩ := HKc.out (by omega)
                    have cs := hcs ick hlck
                    have hick : (ick : Int) < (knc : Int) := by omega
                    obtain ⟨s, hs⟩ : ∃ s, s = ksc ick := ⟨_, rfl⟩
                    rw [← hs] at cs
                    subst hK
                    clear hcs hs HKc
                    go_wp2
                    all_goals first
                      | (go_ret; exact ⟨isBool_no _, HBW.out⟩)
                      | (go_round
                         case rel => exact ⟨ick + 1, qck + s.size, by omega, by go_num, by go_num, by omega⟩
                         case measure => simp [intOf]; omega)
                  · as_aux_lemma =>
                    go_wp2
                    all_goals first | (go_ret; exact ⟨isBool_no _, HBW.out⟩) | skip
                    go_loop [11, 18] (fun z i => ∃ (j : Nat) (q : Nat), j ≤ vnc ∧ i = .int .i64 j ∧ z = .int .i64 q ∧ q ≤ 1048576) (fun _ i => vnc - (intOf i).toNat)
                    case atStart => exact ⟨0, _, Nat.zero_le _, rfl, by go_num, by omega⟩
                    case round =>
                      obtain ⟨icv, qcv, hicv, rfl, rfl, hqcv⟩ := hrel
                      by_cases hlcv : icv < vnc
                      · as_aux_lemma =>
                        obtain ⟨sb, so, hK, hcs⟩ := HVc.out (by omega)
                        have cs := hcs icv hlcv
                        have hicv : (icv : Int) < (vnc : Int) := by omega
                        obtain ⟨s, hs⟩ : ∃ s, s = vsc icv := ⟨_, rfl⟩
                        rw [← hs] at cs
                        subst hK
                        clear hcs hs HVc
                        go_wp2
                        all_goals first
                          | (go_ret; exact ⟨isBool_no _, HBW.out⟩)
                          | (go_round
                             case rel => exact ⟨icv + 1, qcv + s.size, by omega, by go_num, by go_num, by omega⟩
                             case measure => simp [intOf]; omega)
                      · as_aux_lemma =>
                        go_wp2
                        go_round
                        case rel => exact ⟨ec + 1, _, by omega, by go_num, rfl, by omega⟩
                        case measure => simp [intOf]; omega
              · as_aux_lemma =>
                go_wp2
                go_round
                case rel =>
                  refine ⟨eb + 1, _, by omega, by go_num, rfl, by omega, fun p hp => ?_⟩
                  by_cases e : p = eb
                  · subst e; rw [← HPN.out]; omega
                  · exact HPb.out p (by omega)
                case measure => simp [intOf]; omega
          · as_aux_lemma =>
            obtain rfl : eb = n := by omega
            have HPS : Hid (∀ p, p < eb → (ps p).n ≤ 1048576) := HPb
            clear HPb HBB
            go_wp2
            all_goals first | (go_ret; exact ⟨isBool_no _, HBW.out⟩) | skip
            go_loop [11, 19] (fun z i => ∃ (j : Nat) (q : Nat), j ≤ xn ∧ i = .int .i64 j ∧ z = .int .i64 q ∧ q ≤ 1048576) (fun _ i => xn - (intOf i).toNat)
            case atStart => exact ⟨0, _, Nat.zero_le _, rfl, by go_num, by omega⟩
            case round =>
              obtain ⟨ed, qd, hed, rfl, rfl, hqd⟩ := hrel
              by_cases hltd : ed < xn
              · as_aux_lemma =>
                obtain ⟨abd, aod, habd, hmcd⟩ := HX.out.2.2 (by omega)
                obtain ⟨c0d, c1d, c2d⟩ := hmcd ed hltd
                obtain ⟨⟨hk1d, _, hk3d⟩, hv1d, _, hv3d⟩ := HX.out.2.1 ed hltd
                obtain ⟨zd, hzd⟩ : ∃ z, z = xs ed := ⟨_, rfl⟩
                rw [← hzd] at c0d c1d c2d hk1d hk3d hv1d hv3d
                obtain ⟨nmd, kad, knd, kcd, ksd, vad, vnd, vcd, vsd⟩ := zd
                clear hzd hmcd
                simp only at c0d c1d c2d hk1d hk3d hv1d hv3d
                have HKd : Hid (0 < knd → ∃ b off, kad = some ⟨b, off, none⟩ ∧ ∀ j, j < knd → (w.alloc (.cells #[.string xo, .slice xa xn xc] 38)).cell? ⟨b, off + j, none⟩ = some (.string (ksd j))) := hk3d
                have HVd : Hid (0 < vnd → ∃ b off, vad = some ⟨b, off, none⟩ ∧ ∀ j, j < vnd → (w.alloc (.cells #[.string xo, .slice xa xn xc] 38)).cell? ⟨b, off + j, none⟩ = some (.string (vsd j))) := hv3d
                unfold maxLen at hk1d hv1d
                clear hk3d hv3d
                have hjmd : (ed : Int) < (xn : Int) := by omega
                subst habd
                clear HX
                go_wp2
                all_goals first | (go_ret; exact ⟨isBool_no _, HBW.out⟩) | skip
                go_loop [11, 20] (fun z i => ∃ (j : Nat) (q : Nat), j ≤ knd ∧ i = .int .i64 j ∧ z = .int .i64 q ∧ q ≤ 1048576) (fun _ i => knd - (intOf i).toNat)
                case atStart => exact ⟨0, _, Nat.zero_le _, rfl, by go_num, by omega⟩
                case round =>
                  obtain ⟨idk, qdk, hidk, rfl, rfl, hqdk⟩ := hrel
                  by_cases hldk : idk < knd
                  · as_aux_lemma =>
                    obtain ⟨sb, so, hK, hcs⟩ := HKd.out (by omega)
                    have cs := hcs idk hldk
                    have hidk : (idk : Int) < (knd : Int) := by omega
                    obtain ⟨s, hs⟩ : ∃ s, s = ksd idk := ⟨_, rfl⟩
                    rw [← hs] at cs
                    subst hK
                    clear hcs hs HKd
                    go_wp2
                    all_goals first
                      | (go_ret; exact ⟨isBool_no _, HBW.out⟩)
                      | (go_round
                         case rel => exact ⟨idk + 1, qdk + s.size, by omega, by go_num, by go_num, by omega⟩
                         case measure => simp [intOf]; omega)
                  · as_aux_lemma =>
                    go_wp2
                    all_goals first | (go_ret; exact ⟨isBool_no _, HBW.out⟩) | skip
                    go_loop [11, 21] (fun z i => ∃ (j : Nat) (q : Nat), j ≤ vnd ∧ i = .int .i64 j ∧ z = .int .i64 q ∧ q ≤ 1048576) (fun _ i => vnd - (intOf i).toNat)
                    case atStart => exact ⟨0, _, Nat.zero_le _, rfl, by go_num, by omega⟩
                    case round =>
                      obtain ⟨idv, qdv, hidv, rfl, rfl, hqdv⟩ := hrel
                      by_cases hldv : idv < vnd
                      · as_aux_lemma =>
                        obtain ⟨sb, so, hK, hcs⟩ := HVd.out (by omega)
                        have cs := hcs idv hldv
                        have hidv : (idv : Int) < (vnd : Int) := by omega
                        obtain ⟨s, hs⟩ : ∃ s, s = vsd idv := ⟨_, rfl⟩
                        rw [← hs] at cs
                        subst hK
                        clear hcs hs HVd
                        go_wp2
                        all_goals first
                          | (go_ret; exact ⟨isBool_no _, HBW.out⟩)
                          | (go_round
                             case rel => exact ⟨idv + 1, qdv + s.size, by omega, by go_num, by go_num, by omega⟩
                             case measure => simp [intOf]; omega)
                      · as_aux_lemma =>
                        go_wp2
                        go_round
                        case rel => exact ⟨ed + 1, _, by omega, by go_num, rfl, by omega⟩
                        case measure => simp [intOf]; omega
              · as_aux_lemma =>
                go_wp2
                go_ret
                exact ⟨isBool_yes ⟨by omega, by omega, HPS.out, by omega⟩, HBW.out⟩
end Go.Proofs.Qxb6623333a
