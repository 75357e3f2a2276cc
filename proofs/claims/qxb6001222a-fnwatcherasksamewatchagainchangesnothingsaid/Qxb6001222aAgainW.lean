/-
  Seat b6001222a: FnWatcherAskSameWatchAgainChangesNothing (10): the walk.
-/
import Derived.Test.Qxb6001222aMain
namespace Go.Proofs.Qxb6001222a
open Go.RowKit Go.WideShapes

set_option maxRecDepth 1000000 in
set_option maxHeartbeats 1000000 in
theorem again_big (ka va sa ga : Option Addr) (nk kc nv vc ns sc ng gc : Nat) (w : World) (hk : nk ≤ maxLen) (hv : nv ≤ maxLen) (hs : ns ≤ maxLen) (hg : ng ≤ maxLen)
    (H : Hid (Calls Try.prog 43 #[.slice ka nk kc, .slice va nv vc, .slice sa ns sc, .slice ga ng gc] w fun e w' => (e = .returned (.bool true) ∨ e = .returned (.bool false)) ∧ w' = w))
    (hbig : ¬ (nk ≤ 256 ∧ nv ≤ 65536 ∧ ns ≤ 65536 ∧ ng ≤ 65536)) :
    Calls Try.prog 10 #[.slice ka nk kc, .slice va nv vc, .slice sa ns sc, .slice ga ng gc] w fun e w' => e = .returned (.bool true) ∧ w' = w := by
  unfold maxLen at hk hv hs hg
  by_cases h1 : nk ≤ 256
  · by_cases h2 : nv ≤ 65536
    · by_cases h3 : ns ≤ 65536
      · have h4 : 65536 < ng := by omega
        clear hbig
        go_enter Try.func10, Try.ntmps10
        go_wp2_with fail
        refine H.out.mono ?_
        rintro e w' ⟨rfl | rfl, rfl⟩
        all_goals
          go_wp2_with fail
          go_ret
          exact ⟨rfl, rfl⟩
      · have h4 : 65536 < ns := by omega
        clear hbig
        go_enter Try.func10, Try.ntmps10
        go_wp2_with fail
        refine H.out.mono ?_
        rintro e w' ⟨rfl | rfl, rfl⟩
        all_goals
          go_wp2_with fail
          go_ret
          exact ⟨rfl, rfl⟩
    · have h4 : 65536 < nv := by omega
      clear hbig
      go_enter Try.func10, Try.ntmps10
      go_wp2_with fail
      refine H.out.mono ?_
      rintro e w' ⟨rfl | rfl, rfl⟩
      all_goals
        go_wp2_with fail
        go_ret
        exact ⟨rfl, rfl⟩
  · have h4 : 256 < nk := by omega
    clear hbig
    go_enter Try.func10, Try.ntmps10
    go_wp2_with fail
    refine H.out.mono ?_
    rintro e w' ⟨rfl | rfl, rfl⟩
    all_goals
      go_wp2_with fail
      go_ret
      exact ⟨rfl, rfl⟩

set_option maxRecDepth 1000000 in
set_option maxHeartbeats 1000000 in
theorem again_walk (ka va sa ga : Option Addr) (nk kc nv vc ns sc ng gc : Nat) (ks : List ByteArray) (vs gs : List Int) (ss : List Bool) (w : World)
    (hK : InRow Value.string ByteArray.empty w ka nk kc ks) (hV : InRow (Value.int .u64) 0 w va nv vc vs) (hS : InRow Value.bool false w sa ns sc ss) (hG : InRow (Value.int .u64) 0 w ga ng gc gs)
    (hk : nk ≤ 256) (hv : nv ≤ 65536) (hs : ns ≤ 65536) (hg : ng ≤ 65536) (hks : ∀ s ∈ ks, s.size ≤ maxLen) :
    Calls Try.prog 10 #[.slice ka nk kc, .slice va nv vc, .slice sa ns sc, .slice ga ng gc] w fun e w' => e = .returned (.bool true) ∧ Below w.heap.size w w' := by
  have H := hid (zzBytes43 ka va sa ga nk kc nv vc ns sc ng gc ks w hK (by unfold maxLen; omega) (by unfold maxLen; omega) (by unfold maxLen; omega) (by unfold maxLen; omega) hks)
  have HKS := hid hks
  obtain rfl := hK.1
  obtain rfl := hV.1
  obtain rfl := hS.1
  obtain rfl := hG.1
  have HK := hid hK
  have HV := hid hV
  have HSS := hid hS
  have HG := hid hG
  clear hK hV hS hG hks
  go_enter Try.func10, Try.ntmps10
  go_wp2_with fail
  refine H.out.mono ?_
  rintro e w' ⟨rfl | rfl, rfl⟩
  · clear H
    go_wp2
    go_loop [9, 10] (fun t i => ∃ (k : Nat) (y : Int), k ≤ ks.length ∧ i = .int .i64 k ∧ t = .int .i64 y ∧ 0 ≤ y ∧ y ≤ 2000000 + k * 1048576) (fun _ i => ks.length - (intOf i).toNat)
    case atStart => exact ⟨0, _, Nat.zero_le _, rfl, rfl, by omega, by omega⟩
    case round =>
      obtain ⟨k, y, hkk, rfl, rfl, hy0, hy1⟩ := hrel
      by_cases hlt : k < ks.length
      · obtain ⟨b, off, rfl, hc⟩ := HK.out.at k hlt
        obtain ⟨s, hse⟩ : ∃ s, ks.getD k ByteArray.empty = s := ⟨_, rfl⟩
        rw [hse] at hc
        clear hse
        by_cases hsz : s.size ≤ 1048576
        · go_wp2
          go_round
          case rel => exact ⟨k + 1, y + s.size, by omega, by go_num, rfl, by omega, by omega⟩
          case measure => simp [intOf]; omega
        · go_wp2
          go_ret
          exact ⟨rfl, Below.refl _ _⟩
      · by_cases hbig : 1048576 < y
        · go_wp2_with fail
          go_ret
          exact ⟨rfl, Below.refl _ _⟩
        · by_cases hz : ks.length = 0
          · have hzI : ((ks.length : Int) == 0) = true := by simp [hz]
            have HZ := hid hz
            clear hz
            go_wp2_with fail
            go_ret
            exact ⟨rfl, Below.refl _ _⟩
          · have hzI : ((ks.length : Int) == 0) = false := by simp [hz]
            go_wp2_with fail
            refine (cloneStrs_any ka ks.length kc ks _ rfl (by omega) HK.out.2).mono ?_
            rintro e w1 ⟨ka1, kc1, rfl, hown1, hb1⟩
            have O1 := hid hown1
            have B1 := hid hb1
            have HV1 := hid (HV.out.below hb1)
            have HS1 := hid (HSS.out.below hb1)
            have HG1 := hid (HG.out.below hb1)
            clear hown1 hb1 HK HV HSS HG
            go_wp2_with fail
            refine (cloneU64_any va vs.length vc vs _ rfl (by omega) HV1.out.2).mono ?_
            rintro e w2 ⟨va1, vc1, rfl, hown2, hb2⟩
            have O2 := hid hown2
            have B2 := hid hb2
            have HS2 := hid (HS1.out.below hb2)
            have HG2 := hid (HG1.out.below hb2)
            clear hown2 hb2 HV1 HS1 HG1
            go_wp2_with fail
            refine (cloneBools_any sa ss.length sc ss _ rfl (by omega) HS2.out.2).mono ?_
            rintro e w3 ⟨sa1, sc1, rfl, hown3, hb3⟩
            have O3 := hid hown3
            have B3 := hid hb3
            have HG3 := hid (HG2.out.below hb3)
            clear hown3 hb3 HS2 HG2
            go_wp2_with fail
            refine (cloneU64_any ga gs.length gc gs _ rfl (by omega) HG3.out.2).mono ?_
            rintro e w4 ⟨ga1, gc1, rfl, hown4, hb4⟩
            have O4 := hid hown4
            have B4 := hid hb4
            clear hown4 hb4 HG3
            go_wp2_with fail
            refine (newWatcher _).mono ?_
            rintro e w5 ⟨rfl, hI5, hb5⟩
            have HSc := hid (sc_start O1.out B1.out O2.out B2.out O3.out B3.out O4.out B4.out hI5 hb5)
            obtain ⟨wb, hwb⟩ : ∃ wb, w4.heap.size = wb := ⟨_, rfl⟩
            rw [hwb] at HSc ⊢
            clear hI5 hb5 O1 O2 O3 O4 B1 B2 B3 B4 hwb hy0 hy1 hbig
            go_wp2
            go_loopw [12, 13, 14, 15] (fun a b c d wr => ∃ (k : Nat) (key p : ByteArray) (rev fr at' gn : Int) (st : Bool) (ra : Option Addr) (rc : Nat) (la : Option Addr) (lc : Nat) (rs : List Run) (live : List Nat), k ≤ ks.length ∧ d = .int .i64 k ∧ a = .string key ∧ b = .int .u64 rev ∧ c = .bool st ∧
                Sc w' wr wb k p fr at' gn ra rc la lc rs live ka1 kc1 ks va1 vc1 vs sa1 sc1 ss ga1 gc1 gs ∧ Hid (0 < k → p = key ∧ fr = loF st rev ∧ gn = 0 ∧ Und key (rs, live) ∧ hasKey (rs, live) key = true)) (fun _ _ _ d _ => ks.length - (intOf d).toNat)
            case atStart => exact ⟨0, _, ByteArray.empty, 0, 0, 0, 0, false, none, 0, none, 0, [], [], Nat.zero_le _, rfl, rfl, rfl, rfl, HSc.out, fun h => absurd h (by omega)⟩
            case round =>
              clear HSc
              obtain ⟨k, key, p, rev, fr, at', gn, st, ra, rc, la, lc, rs, live, hkk, rfl, rfl, rfl, rfl, hSc, hlast⟩ := hrel
              have hlr := hSc.lr
              have hll := hSc.ll
              have HSc := hid hSc
              clear hSc
              by_cases hlt : k < ks.length
              · obtain ⟨key1, hkey1⟩ : ∃ x, ks.getD k ByteArray.empty = x := ⟨_, rfl⟩
                obtain ⟨rev1, hrev1⟩ : ∃ x, vs.getD k 0 = x := ⟨_, rfl⟩
                obtain ⟨st1, hst1⟩ : ∃ x, ss.getD k false = x := ⟨_, rfl⟩
                obtain ⟨g1, hg1⟩ : ∃ x, gs.getD k 0 = x := ⟨_, rfl⟩
                obtain ⟨lo1, hlo1⟩ : ∃ x, loF st1 rev1 = x := ⟨_, rfl⟩
                obtain ⟨A, hA⟩ : ∃ x, askF rs live key1 k lo1 g1 = x := ⟨_, rfl⟩
                have HA := hid hA
                have HLO := hid hlo1
                have HC := hid (askStep_any w'.heap.size wb k p key1 fr at' gn rev1 lo1 g1 st1 ra rc la lc rs live ka1 va1 sa1 ga1 kc1 vc1 sc1 gc1 ks vs gs ss wr HSc.out.inv (by omega) (by omega) HSc.out.scr hlt hkey1 hrev1 hst1 hg1 hlo1)
                clear hkey1 hrev1 hst1 hg1 hlo1 hA hlast
                go_wp2_with fail
                refine HC.out.mono ?_
                rintro e w6 ⟨rfl, ra2, rc2, la2, lc2, hI, hS, hF, -, -⟩
                rw [HA.out] at hI
                have HN := hid (HSc.out.next (by omega) HA.out hI hS hF)
                clear hI hS hF HC
                go_wp2_with fail
                go_roundw
                case rel => exact ⟨k + 1, key1, key1, rev1, lo1, k, 0, st1, ra2, rc2, la2, lc2, A.1, A.2, by omega, by go_num, rfl, rfl, rfl, HN.out.1, fun _ => ⟨rfl, HLO.out.symm, rfl, HN.out.2.1, HN.out.2.2⟩⟩
                case measure => simp [intOf]; omega
              · have hkl : k = ks.length := by omega
                subst hkl
                obtain ⟨rfl, hfr, rfl, hU, hHK⟩ := hlast.out (by omega)
                have HFR := hid hfr.symm
                have HAG := hid (askF_again (i := ks.length) (lo := fr) hU hHK)
                have HW0 := hid HSc.out.inv
                have HBW := hid HSc.out.bel
                clear hfr hU hHK hlast HSc hkk hlt
                go_wp2_with fail
                refine (getRunsLen HW0.out).mono ?_
                rintro e w6 ⟨rfl, rfl⟩
                go_wp2_with fail
                refine (getLiveLen HW0.out).mono ?_
                rintro e w6 ⟨rfl, rfl⟩
                obtain ⟨i3, hi3, hz0, hz1, hz2⟩ := info_parts Try.info3
                go_wp2_with (at_make; go_must (refine wpList_make_full _ rfl _ _ 22 rfl w6.heap.size 3 i3 (.int .i64 0) 1 Try.underlying22 hi3 hz0 hz1 _ _ _ _ live.length rfl rfl rfl rfl (by rw [hz2]; omega) (by unfold maxLen; omega) (Nat.le_refl _) ?_))
                intro w7 hown0 hgr
                have hb7 : Below w6.heap.size w6 w7 := (Below.refl _ _).grown hgr (Nat.le_refl _) (by intro k h; cases h)
                have hown7 : w7.ownsRow w6.heap.size 3 1 (.slice (some ⟨w6.heap.size, 0, none⟩) live.length live.length) live.length (half (fun n : Nat => Value.int .i64 (n : Int)) (.int .i64 0) live 0) := by
                  rw [half_zero, ← toList_madeCells_one]; exact hown0
                have HO7 := hid hown7
                have HB7 := hid hb7
                clear hown0 hgr hi3 hz0 hz1 hz2 hown7 hb7
                go_wp2
                go_loopw [18] (fun c wr => ∃ j : Nat, j ≤ live.length ∧ c = .int .i64 j ∧ wr.ownsRow w6.heap.size 3 1 (.slice (some ⟨w6.heap.size, 0, none⟩) live.length live.length) live.length (half (fun n : Nat => Value.int .i64 (n : Int)) (.int .i64 0) live j) ∧ Below w6.heap.size w6 wr) (fun c _ => live.length - (intOf c).toNat)
                case atStart => exact ⟨0, Nat.zero_le _, rfl, HO7.out, HB7.out⟩
                case round =>
                  clear HO7 HB7
                  obtain ⟨j, hj, rfl, hownr, hbr⟩ := hrel
                  have HW := hid (HW0.out.below hbr)
                  by_cases hjt : j < live.length
                  · obtain ⟨n, hn⟩ : ∃ n, live.getD j 0 = n := ⟨_, rfl⟩
                    have hcg : wr.cell? ⟨w6.heap.size, j, none⟩ = some (.int .i64 0) := by rw [hownr.cellAt j (by omega)]; exact half_at _ _ _ _ hjt
                    have hfg : wr.frozen? ⟨w6.heap.size, j, none⟩ = false := hownr.frozenAt j
                    have HST := hid (hownr.stored j (.int .i64 n))
                    have HB := hid hbr
                    have HL := hid (half_step (fun n : Nat => Value.int .i64 (n : Int)) (.int .i64 0) live j hjt)
                    have e : live[j] = n := by rw [← hn]; simp [hjt]
                    rw [e] at HL
                    have HN := hid hn
                    clear hownr hbr hn e
                    go_wp2_with fail
                    refine (getLiveAt HW.out j n hjt HN.out).mono ?_
                    rintro e w8 ⟨rfl, rfl⟩
                    go_wp2_with fail
                    go_roundw
                    case rel => exact ⟨j + 1, by omega, by go_num, by rw [← HL.out]; exact HST.out.1, HB.out.setCell (Nat.le_refl _) _⟩
                    case measure => simp [intOf]; omega
                  · have hjl : j = live.length := by omega
                    subst hjl
                    rw [half_full] at hownr
                    have HO := hid hownr
                    have HB := hid hbr
                    clear hownr hbr hj hjt
                    go_wp2_with fail
                    refine (getFrom HW.out).mono ?_
                    rintro e w8 ⟨rfl, rfl⟩
                    have HOC := hid (op_cell w8 p rev st)
                    have HOB := hid (op_block w8 p rev st)
                    go_wp2_with fail
                    refine (zzAsk_any w8.heap.size p rev ks.length fr st (HW.out.alloc _) (by omega) (by omega) (by exact HOC.out.1) (by exact HOC.out.2.1) (by exact HOC.out.2.2) ⟨_, _, by exact HOB.out⟩ HFR.out).mono ?_
                    rintro e w9 ⟨rfl, ra2, rc2, la2, lc2, hI, hF, -, -⟩
                    rw [HAG.out] at hI
                    have HI := hid hI
                    have HR := hid (own_live (row_fr (HW.out.alloc _) (HO.out.alloc _) (fun k hk => (HW0.out.la_lt k hk).2) hF))
                    have HBE := hid ((HBW.out.trans (HB.out.mono HBW.out.size)).trans (below_ask HW.out hF))
                    clear hI hF HOC HOB HO HB HAG HW HW0 HBW
                    go_wp2_with fail
                    refine (getRunsLen HI.out).mono ?_
                    rintro e w10 ⟨rfl, rfl⟩
                    go_wp2_with fail
                    refine (getLiveLen HI.out).mono ?_
                    rintro e w10 ⟨rfl, rfl⟩
                    go_wp2_with fail
                    go_loopw [21] (fun c wr => ∃ j : Nat, j ≤ live.length ∧ c = .int .i64 j ∧ WInv wr w'.heap.size wb p fr ks.length 0 ra2 rc2 la2 lc2 rs live ∧ Hid (∀ j, j < live.length → wr.cell? ⟨w6.heap.size, j, none⟩ = some (.int .i64 (live.getD j 0 : Nat))) ∧ Below w'.heap.size w' wr) (fun c _ => live.length - (intOf c).toNat)
                    case atStart => exact ⟨0, Nat.zero_le _, rfl, HI.out, HR.out, HBE.out⟩
                    case round =>
                      clear HI HR HBE
                      obtain ⟨j, hj, rfl, hI, hR, hBE⟩ := hrel
                      have HI := hid hI
                      have HBE := hid hBE
                      clear hI hBE
                      by_cases hjt : j < live.length
                      · obtain ⟨n, hn⟩ : ∃ n, live.getD j 0 = n := ⟨_, rfl⟩
                        have hcj := hR.out j hjt
                        rw [hn] at hcj
                        have HN := hid hn
                        have hj0 : (0 : Int) ≤ (j : Int) := by omega
                        have hj1 : (j : Int) < (live.length : Int) := by omega
                        clear hn
                        go_wp2_with fail
                        go_quiet ((go_at_call 36; exact Calls.quiet_of_same (getLiveAt (HI.out.drewN _) j n hjt HN.out)))
                        go_wp2
                        go_roundw
                        case rel => exact ⟨j + 1, by omega, by go_num, HI.out.drewN _, hR.out, belowDrewN HBE.out _⟩
                        case measure => simp [intOf]; omega
                      · go_wp2_with fail
                        refine (getFrom HI.out).mono ?_
                        rintro e w11 ⟨rfl, rfl⟩
                        go_wp2_with fail
                        refine (getPrefix HI.out).mono ?_
                        rintro e w11 ⟨rfl, rfl⟩
                        go_wp2_with fail
                        go_ret
                        exact ⟨ret_bool (by simp), HBE.out⟩
  · go_wp2_with fail
    go_ret
    exact ⟨rfl, Below.refl _ _⟩

end Go.Proofs.Qxb6001222a
