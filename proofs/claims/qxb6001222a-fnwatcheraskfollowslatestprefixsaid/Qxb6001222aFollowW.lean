/-
  Seat b6001222a: FnWatcherAskFollowsLatestPrefix (8): the walk.
-/
import Derived.Test.Qxb6001222aMain
namespace Go.Proofs.Qxb6001222a
open Go.RowKit Go.WideShapes

theorem key_size {ks : List ByteArray} (h : ∀ s ∈ ks, s.size ≤ maxLen) {k : Nat} (hk : k < ks.length) {key : ByteArray} (he : ks.getD k ByteArray.empty = key) : key.size ≤ maxLen := by
  have e : ks.getD k ByteArray.empty = ks[k] := by simp [hk]
  rw [← he, e]; exact h _ (List.getElem_mem _)

theorem Sc.drewN {w wr : World} {wb k : Nat} {p : ByteArray} {fr at' gn : Int} {ra la : Option Addr} {rc lc : Nat} {rs : List Run} {live : List Nat} {ka va sa ga : Option Addr} {kc vc sc gc : Nat} {ks : List ByteArray} {vs gs : List Int} {ss : List Bool}
    (h : Sc w wr wb k p fr at' gn ra rc la lc rs live ka kc ks va vc vs sa sc ss ga gc gs) (n : Nat) : Sc w (wr.drewN n) wb k p fr at' gn ra rc la lc rs live ka kc ks va vc vs sa sc ss ga gc gs :=
  ⟨h.inv.drewN n, h.scr.drewN n, belowDrewN h.bel n, h.lr, h.ll⟩

set_option maxRecDepth 1000000 in
set_option maxHeartbeats 400000 in
/-- zzHasPrefix at a string that has it. -/
theorem zzHasPrefix_has (s p : ByteArray) (w : World) (h : pfx s p = true) (hp : p.size ≤ maxLen) :
    Calls Try.prog 37 #[.string s, .string p] w fun e w' => e = .returned (.bool true) ∧ ∃ nq, w' = w.drewN nq := by
  unfold maxLen at hp
  have hle : p.size ≤ s.size := by have := (pfx_iff.1 h).length_le; simpa using this
  have H := hid h
  clear h
  go_enter Try.func37, Try.ntmps37
  go_wp2
  go_loopw [5] (fun i wr => ∃ k : Nat, k ≤ p.size ∧ i = .int .i64 k ∧ ∃ nq, wr = w.drewN nq) (fun i _ => p.size - (intOf i).toNat)
  case atStart => exact ⟨0, Nat.zero_le _, rfl, 0, rfl⟩
  case round =>
    obtain ⟨k, hk, rfl, nq, rfl⟩ := hrel
    by_cases hlt : k < p.size
    · have hs : k < s.size := by omega
      have hk0 : (0 : Int) ≤ (k : Int) := by omega
      have hk1 : (k : Int) < (p.size : Int) := by omega
      have hk2 : (k : Int) < (s.size : Int) := by omega
      have hb : s[k] = p[k] := pfx_byte H.out k hlt hs
      go_wp2
      go_quiet (fail)
      go_wp2
      go_roundw
      case rel => exact ⟨k + 1, by omega, by go_num, _, rfl⟩
      case measure => simp [intOf]; omega
    · go_wp2
      go_ret
      exact ⟨rfl, _, rfl⟩

set_option maxRecDepth 1000000 in
set_option maxHeartbeats 1000000 in
theorem follow_big (ka va sa ga : Option Addr) (nk kc nv vc ns sc ng gc : Nat) (w : World) (hk : nk ≤ maxLen) (hv : nv ≤ maxLen) (hs : ns ≤ maxLen) (hg : ng ≤ maxLen)
    (H : Hid (Calls Try.prog 23 #[.slice ka nk kc, .slice va nv vc, .slice sa ns sc, .slice ga ng gc] w fun e w' => (e = .returned (.bool true) ∨ e = .returned (.bool false)) ∧ w' = w))
    (hbig : ¬ (nk ≤ 256 ∧ nv ≤ 65536 ∧ ns ≤ 65536 ∧ ng ≤ 65536)) :
    Calls Try.prog 8 #[.slice ka nk kc, .slice va nv vc, .slice sa ns sc, .slice ga ng gc] w fun e w' => e = .returned (.bool true) ∧ w' = w := by
  unfold maxLen at hk hv hs hg
  by_cases h1 : nk ≤ 256
  · by_cases h2 : nv ≤ 65536
    · by_cases h3 : ns ≤ 65536
      · have h4 : 65536 < ng := by omega
        clear hbig
        go_enter Try.func8, Try.ntmps8
        go_wp2_with fail
        refine H.out.mono ?_
        rintro e w' ⟨rfl | rfl, rfl⟩
        all_goals
          go_wp2_with fail
          go_ret
          exact ⟨rfl, rfl⟩
      · have h4 : 65536 < ns := by omega
        clear hbig
        go_enter Try.func8, Try.ntmps8
        go_wp2_with fail
        refine H.out.mono ?_
        rintro e w' ⟨rfl | rfl, rfl⟩
        all_goals
          go_wp2_with fail
          go_ret
          exact ⟨rfl, rfl⟩
    · have h4 : 65536 < nv := by omega
      clear hbig
      go_enter Try.func8, Try.ntmps8
      go_wp2_with fail
      refine H.out.mono ?_
      rintro e w' ⟨rfl | rfl, rfl⟩
      all_goals
        go_wp2_with fail
        go_ret
        exact ⟨rfl, rfl⟩
  · have h4 : 256 < nk := by omega
    clear hbig
    go_enter Try.func8, Try.ntmps8
    go_wp2_with fail
    refine H.out.mono ?_
    rintro e w' ⟨rfl | rfl, rfl⟩
    all_goals
      go_wp2_with fail
      go_ret
      exact ⟨rfl, rfl⟩

set_option maxRecDepth 1000000 in
set_option maxHeartbeats 1000000 in
theorem follow_walk (ka va sa ga : Option Addr) (nk kc nv vc ns sc ng gc : Nat) (ks : List ByteArray) (vs gs : List Int) (ss : List Bool) (w : World)
    (hK : InRow Value.string ByteArray.empty w ka nk kc ks) (hV : InRow (Value.int .u64) 0 w va nv vc vs) (hS : InRow Value.bool false w sa ns sc ss) (hG : InRow (Value.int .u64) 0 w ga ng gc gs)
    (hk : nk ≤ 256) (hv : nv ≤ 65536) (hs : ns ≤ 65536) (hg : ng ≤ 65536) (hks : ∀ s ∈ ks, s.size ≤ maxLen) :
    Calls Try.prog 8 #[.slice ka nk kc, .slice va nv vc, .slice sa ns sc, .slice ga ng gc] w fun e w' => e = .returned (.bool true) ∧ Below w.heap.size w w' := by
  have H := hid (zzBytes23 ka va sa ga nk kc nv vc ns sc ng gc ks w hK (by unfold maxLen; omega) (by unfold maxLen; omega) (by unfold maxLen; omega) (by unfold maxLen; omega) hks)
  have HKS := hid hks
  obtain rfl := hK.1
  obtain rfl := hV.1
  obtain rfl := hS.1
  obtain rfl := hG.1
  have HK := hid hK
  have HV := hid hV
  have HSS := hid hS
  have HG := hid hG
  clear hK hV hS hG hks
  go_enter Try.func8, Try.ntmps8
  go_wp2_with fail
  refine H.out.mono ?_
  rintro e w' ⟨rfl | rfl, rfl⟩
  · clear H
    go_wp2
    go_loop [9, 10] (fun t i => ∃ (k : Nat) (y : Int), k ≤ ks.length ∧ i = .int .i64 k ∧ t = .int .i64 y ∧ 0 ≤ y ∧ y ≤ 2000000 + k * 1048576) (fun _ i => ks.length - (intOf i).toNat)
    case atStart => exact ⟨0, _, Nat.zero_le _, rfl, rfl, by omega, by omega⟩
    case round =>
      obtain ⟨k, y, hkk, rfl, rfl, hy0, hy1⟩ := hrel
      by_cases hlt : k < ks.length
      · obtain ⟨b, off, rfl, hc⟩ := HK.out.at k hlt
        obtain ⟨s, hse⟩ : ∃ s, ks.getD k ByteArray.empty = s := ⟨_, rfl⟩
        rw [hse] at hc
        clear hse
        by_cases hsz : s.size ≤ 1048576
        · go_wp2
          go_round
          case rel => exact ⟨k + 1, y + s.size, by omega, by go_num, rfl, by omega, by omega⟩
          case measure => simp [intOf]; omega
        · go_wp2
          go_ret
          exact ⟨rfl, Below.refl _ _⟩
      · by_cases hbig : 1048576 < y
        · go_wp2_with fail
          go_ret
          exact ⟨rfl, Below.refl _ _⟩
        · go_wp2_with fail
          refine (cloneStrs_any ka ks.length kc ks _ rfl (by omega) HK.out.2).mono ?_
          rintro e w1 ⟨ka1, kc1, rfl, hown1, hb1⟩
          have O1 := hid hown1
          have B1 := hid hb1
          have HV1 := hid (HV.out.below hb1)
          have HS1 := hid (HSS.out.below hb1)
          have HG1 := hid (HG.out.below hb1)
          clear hown1 hb1 HK HV HSS HG
          go_wp2_with fail
          refine (cloneU64_any va vs.length vc vs _ rfl (by omega) HV1.out.2).mono ?_
          rintro e w2 ⟨va1, vc1, rfl, hown2, hb2⟩
          have O2 := hid hown2
          have B2 := hid hb2
          have HS2 := hid (HS1.out.below hb2)
          have HG2 := hid (HG1.out.below hb2)
          clear hown2 hb2 HV1 HS1 HG1
          go_wp2_with fail
          refine (cloneBools_any sa ss.length sc ss _ rfl (by omega) HS2.out.2).mono ?_
          rintro e w3 ⟨sa1, sc1, rfl, hown3, hb3⟩
          have O3 := hid hown3
          have B3 := hid hb3
          have HG3 := hid (HG2.out.below hb3)
          clear hown3 hb3 HS2 HG2
          go_wp2_with fail
          refine (cloneU64_any ga gs.length gc gs _ rfl (by omega) HG3.out.2).mono ?_
          rintro e w4 ⟨ga1, gc1, rfl, hown4, hb4⟩
          have O4 := hid hown4
          have B4 := hid hb4
          clear hown4 hb4 HG3
          go_wp2_with fail
          refine (newWatcher _).mono ?_
          rintro e w5 ⟨rfl, hI5, hb5⟩
          have HSc := hid (sc_start O1.out B1.out O2.out B2.out O3.out B3.out O4.out B4.out hI5 hb5)
          obtain ⟨wb, hwb⟩ : ∃ wb, w4.heap.size = wb := ⟨_, rfl⟩
          rw [hwb] at HSc ⊢
          clear hI5 hb5 O1 O2 O3 O4 B1 B2 B3 B4 hwb hy0 hy1 hbig
          go_wp2
          go_loopw [12] (fun d wr => ∃ (k : Nat) (p : ByteArray) (fr at' gn : Int) (ra : Option Addr) (rc : Nat) (la : Option Addr) (lc : Nat) (rs : List Run) (live : List Nat), k ≤ ks.length ∧ d = .int .i64 k ∧
              Sc w' wr wb k p fr at' gn ra rc la lc rs live ka1 kc1 ks va1 vc1 vs sa1 sc1 ss ga1 gc1 gs) (fun d _ => ks.length - (intOf d).toNat)
          case atStart => exact ⟨0, ByteArray.empty, 0, 0, 0, none, 0, none, 0, [], [], Nat.zero_le _, rfl, HSc.out⟩
          case round =>
            clear HSc
            obtain ⟨k, p, fr, at', gn, ra, rc, la, lc, rs, live, hkk, rfl, hSc⟩ := hrel
            have hlr := hSc.lr
            have hll := hSc.ll
            have HSc := hid hSc
            clear hSc
            by_cases hlt : k < ks.length
            · obtain ⟨key1, hkey1⟩ : ∃ x, ks.getD k ByteArray.empty = x := ⟨_, rfl⟩
              obtain ⟨rev1, hrev1⟩ : ∃ x, vs.getD k 0 = x := ⟨_, rfl⟩
              obtain ⟨st1, hst1⟩ : ∃ x, ss.getD k false = x := ⟨_, rfl⟩
              obtain ⟨g1, hg1⟩ : ∃ x, gs.getD k 0 = x := ⟨_, rfl⟩
              obtain ⟨lo1, hlo1⟩ : ∃ x, loF st1 rev1 = x := ⟨_, rfl⟩
              obtain ⟨A, hA⟩ : ∃ x, askF rs live key1 k lo1 g1 = x := ⟨_, rfl⟩
              have HKZ := hid (key_size HKS.out hlt hkey1)
              have HA := hid hA
              have HLO := hid hlo1
              have HC := hid (askStep_any w'.heap.size wb k p key1 fr at' gn rev1 lo1 g1 st1 ra rc la lc rs live ka1 va1 sa1 ga1 kc1 vc1 sc1 gc1 ks vs gs ss wr HSc.out.inv (by omega) (by omega) HSc.out.scr hlt hkey1 hrev1 hst1 hg1 hlo1)
              clear hkey1 hrev1 hst1 hg1 hlo1 hA
              go_wp2_with fail
              refine HC.out.mono ?_
              rintro e w6 ⟨rfl, ra2, rc2, la2, lc2, hI, hS, hF, -, -⟩
              rw [HA.out] at hI
              have HN := hid (HSc.out.next (by omega) HA.out hI hS hF)
              clear hI hS hF HC HSc hlr hll
              go_wp2_with fail
              refine (getPrefix HN.out.1.inv).mono ?_
              rintro e w7 ⟨rfl, rfl⟩
              go_wp2_with fail
              refine (getGone HN.out.1.inv).mono ?_
              rintro e w8 ⟨rfl, rfl⟩
              go_wp2_with fail
              refine (getAsked HN.out.1.inv).mono ?_
              rintro e w9 ⟨rfl, rfl⟩
              go_wp2_with fail
              refine (getFrom HN.out.1.inv).mono ?_
              rintro e w10 ⟨rfl, rfl⟩
              go_wp2_with fail
              refine (fromOf rev1 st1 _).mono ?_
              rintro e w11 ⟨rfl, rfl⟩
              have hLO := HLO.out
              go_wp2_with fail
              go_loopw [16, 17, 18] (fun ex c _ wr => ∃ (j : Nat) (b : Bool), j ≤ A.2.length ∧ c = .int .i64 j ∧ ex = .bool b ∧ Hid (∀ m, m < j → seq (A.1.getD (A.2.getD m 0) run0).p key1 = true → b = true) ∧
                  Sc w' wr wb (k + 1) key1 lo1 k 0 ra2 rc2 la2 lc2 A.1 A.2 ka1 kc1 ks va1 vc1 vs sa1 sc1 ss ga1 gc1 gs) (fun _ c _ _ => A.2.length - (intOf c).toNat)
              case atStart => exact ⟨0, false, Nat.zero_le _, rfl, rfl, fun m hm => absurd hm (by omega), HN.out.1⟩
              case round =>
                obtain ⟨j, b, hj, rfl, rfl, hex, hSc⟩ := hrel
                have HSc := hid hSc
                have HU := hid HN.out.2
                have hAl := hSc.ll
                clear hSc HN
                by_cases hjt : j < A.2.length
                · obtain ⟨n, hn⟩ : ∃ n, A.2.getD j 0 = n := ⟨_, rfl⟩
                  obtain ⟨q, hq⟩ : ∃ q, A.1.getD n run0 = q := ⟨_, rfl⟩
                  have hu := HU.out.1.at hjt
                  rw [hn, hq] at hu
                  have HNN := hid hn
                  have HQ := hid hq
                  have HUU := hid hu
                  clear hn hq hu
                  go_wp2_with fail
                  refine (getLiveLen HSc.out.inv).mono ?_
                  rintro e w12 ⟨rfl, rfl⟩
                  go_wp2_with fail
                  refine (getLiveAt HSc.out.inv j n hjt HNN.out).mono ?_
                  rintro e w13 ⟨rfl, rfl⟩
                  go_wp2_with fail
                  refine (getRunPrefix HSc.out.inv n q HUU.out.1 HQ.out).mono ?_
                  rintro e w14 ⟨rfl, rfl⟩
                  go_wp2_with fail
                  refine (zzHasPrefix_has q.p key1 _ HUU.out.2 HKZ.out).mono ?_
                  rintro e w15 ⟨rfl, nq, rfl⟩
                  cases hs : (q.p.toList == key1.toList) with
                  | true =>
                    go_wp2_with fail
                    go_roundw
                    case rel => exact ⟨j + 1, true, by omega, by go_num, rfl, fun _ _ _ => rfl, HSc.out.drewN _⟩
                    case measure => simp [intOf]; omega
                  | false =>
                    have HS := hid (seq_of hs)
                    go_wp2_with fail
                    go_roundw
                    case rel => exact ⟨j + 1, b, by omega, by go_num, rfl, upto_succ hex.out (by rw [HNN.out, HQ.out, HS.out]; intro h; cases h), HSc.out.drewN _⟩
                    case measure => simp [intOf]; omega
                · have hb : b = true := by
                    obtain ⟨m, hm, hs⟩ := hasKey_at HU.out.2
                    exact hex.out m (by omega) hs
                  subst hb
                  go_wp2_with fail
                  refine (getLiveLen HSc.out.inv).mono ?_
                  rintro e w12 ⟨rfl, rfl⟩
                  go_wp2_with fail
                  go_roundw
                  case rel => exact ⟨k + 1, key1, lo1, k, 0, ra2, rc2, la2, lc2, A.1, A.2, by omega, by go_num, HSc.out⟩
                  case measure => simp [intOf]; omega
            · go_wp2_with fail
              go_ret
              exact ⟨rfl, HSc.out.bel⟩
  · go_wp2_with fail
    go_ret
    exact ⟨rfl, Below.refl _ _⟩

end Go.Proofs.Qxb6001222a
