/-
  Seat b6001222a: (*watcher).ask (49).
-/
import Derived.Test.Qxb6001222aAskSteps
import Derived.Test.Qxb6001222aPlainB
namespace Go.Proofs.Qxb6001222a
open Go.RowKit Go.WideShapes

set_option maxRecDepth 1000000 in
set_option maxHeartbeats 1000000 in
theorem ask_any (B wb ob : Nat) (p key : ByteArray) (fr at' gn rev i lo : Int) (st : Bool) (ra : Option Addr) (rc : Nat) (la : Option Addr) (lc : Nat) (rs : List Run) (live : List Nat) (w : World)
    (h : WInv w B wb p fr at' gn ra rc la lc rs live) (hr : rs.length ≤ 400000) (hl : live.length ≤ 400000)
    (o2 : w.cell? ⟨ob, 2, none⟩ = some (.string key)) (o11 : w.cell? ⟨ob, 11, none⟩ = some (.int .u64 rev)) (o12 : w.cell? ⟨ob, 12, none⟩ = some (.bool st))
    (hoT : ∃ cs f, w.heap[ob]? = some (.cells cs 46 f)) (hlo : Hid (loF st rev = lo)) :
    Calls Try.prog 49 #[.pointer (some ⟨wb, 0, none⟩), .pointer (some ⟨ob, 0, none⟩), .int .i64 i] w fun e w' => e = .returned (.tuple #[]) ∧
      ∃ ra' rc' la' lc', WInv w' B wb key lo i 0 ra' rc' la' lc' (askF rs live key i lo gn).1 (askF rs live key i lo gn).2 ∧ Fr wb ra la w w' ∧ New w.heap.size ra ra' ∧ New w.heap.size la la' := by
  have hob : wb ≠ ob := by
    intro e
    obtain ⟨cs, f, hc⟩ := hoT
    obtain ⟨c0, r, hb⟩ := h.blk
    rw [e, hc] at hb
    simp at hb
  have hora : some ob ≠ blkOf ra := by
    obtain ⟨cs, f, hc⟩ := hoT
    rw [← ownBlock_slice]; exact ownsRow_ne h.runs hc (by decide)
  have HORA := hid hora
  clear hora hoT
  have c1 : w.cell? ⟨wb, 1, none⟩ = some (.string p) := h.blk.cell 0 _ rfl
  have c2 : w.cell? ⟨wb, 2, none⟩ = some (.int .u64 fr) := h.blk.cell 1 _ rfl
  have c3 : w.cell? ⟨wb, 3, none⟩ = some (.int .i64 at') := h.blk.cell 2 _ rfl
  have c4 : w.cell? ⟨wb, 4, none⟩ = some (.int .u64 gn) := h.blk.cell 3 _ rfl
  have c5 : w.cell? ⟨wb, 5, none⟩ = some (.slice ra rs.length rc) := h.blk.cell 4 _ rfl
  have c6 : w.cell? ⟨wb, 6, none⟩ = some (.slice la live.length lc) := h.blk.cell 5 _ rfl
  have f1 : w.frozen? ⟨wb, 1, none⟩ = false := h.blk.free 1
  have f2 : w.frozen? ⟨wb, 2, none⟩ = false := h.blk.free 2
  have f3 : w.frozen? ⟨wb, 3, none⟩ = false := h.blk.free 3
  have f4 : w.frozen? ⟨wb, 4, none⟩ = false := h.blk.free 4
  have f6 : w.frozen? ⟨wb, 6, none⟩ = false := h.blk.free 6
  have H := hid h
  clear h
  go_enter Try.func49, Try.ntmps49
  go_upto_region 0 with fail
  go_cut [6] from 20 to 24 (fun s wx => s = .int .u64 (max rev 1) ∧ wx = w)
  case first =>
    by_cases h1 : rev < 1
    · have hm := hid (show (1 : Int) = max rev 1 by omega)
      go_wp2_with fail
      go_meet
      exact ⟨by rw [← hm.out], rfl⟩
    · have hm := hid (show rev = max rev 1 by omega)
      go_wp2_with fail
      go_meet
      exact ⟨by rw [← hm.out], rfl⟩
  case rest =>
    obtain ⟨rfl, rfl⟩ := hcut
    go_upto_if 28 with fail
    go_cut [6] from 25 to 33 (fun s wx => s = .int .u64 lo ∧ wx = wc)
    case first =>
      cases st with
      | true =>
        go_wp2_with fail
        go_meet
        exact ⟨congrArg (Value.int .u64) hlo.out, rfl⟩
      | false =>
        go_wp2_with fail
        go_meet
        exact ⟨congrArg (Value.int .u64) hlo.out, rfl⟩
    case rest =>
      obtain ⟨rfl, rfl⟩ := hcut
      clear o11 o12
      have HL := hid (L1.start (key := key) (lo := lo) (i := i) H.out)
      go_wp2
      clear c1 c2 c3 c4 c5 c6 f1 f2 f3 f4 f6
      go_loopw [9, 65] (fun bv c wr => ∃ (k : Nat) (acc : List Nat × List Run), k ≤ live.length ∧ c = .int .i64 k ∧ Hid ((live.take k).foldl (stepF rs key i lo gn) ([], []) = acc) ∧ ∃ la1 lc1 ba bc, bv = .slice ba acc.2.length bc ∧
          L1 wc wr wb key lo i ra rc rs la1 lc1 acc.1 ba bc acc.2) (fun _ c _ => live.length - (intOf c).toNat)
      case atStart => exact ⟨0, ([], []), Nat.zero_le _, rfl, rfl, none, 0, none, 0, rfl, HL.out⟩
      case round =>
        clear HL
        obtain ⟨k, acc, hk, rfl, hacc, la1, lc1, ba, bc, rfl, hL⟩ := hrel
        by_cases hlt : k < live.length
        · obtain ⟨gl, rfl, cn0, hn⟩ := H.out.liveAt k hlt
          obtain ⟨n, hnE⟩ : ∃ n, live.getD k 0 = n := ⟨_, rfl⟩
          rw [hnE] at cn0 hn
          obtain ⟨gr, rfl, cr0⟩ := H.out.runAt n hn
          obtain ⟨q, hq⟩ : ∃ q, rs.getD n run0 = q := ⟨_, rfl⟩
          rw [hq] at cr0
          have hgl : gl ≠ wb := fun e => H.out.wb_ne_la (by rw [e]; rfl)
          have hgr : gr ≠ wb := fun e => H.out.wb_ne_ra (by rw [e]; rfl)
          have cn := hL.old cn0 hgl
          have p2 : wr.cell? ⟨ob, 2, none⟩ = some (.string key) := hL.old o2 (Ne.symm hob)
          have r0 : wr.cell? ⟨gr, n * 8, none⟩ = some (.string q.p) := hL.old (cr0 0 (by omega)) hgr
          have r1 : wr.cell? ⟨gr, n * 8 + 1, none⟩ = some (.int .i64 q.a) := hL.old (cr0 1 (by omega)) hgr
          have r2 : wr.cell? ⟨gr, n * 8 + 2, none⟩ = some (.int .u64 q.lo) := hL.old (cr0 2 (by omega)) hgr
          have r3 : wr.cell? ⟨gr, n * 8 + 3, none⟩ = some (.int .u64 q.wh) := hL.old (cr0 3 (by omega)) hgr
          have r4 : wr.cell? ⟨gr, n * 8 + 4, none⟩ = some (.int .u64 0) := hL.old (cr0 4 (by omega)) hgr
          have r5 : wr.cell? ⟨gr, n * 8 + 5, none⟩ = some (.string ByteArray.empty) := hL.old (cr0 5 (by omega)) hgr
          have r6 : wr.cell? ⟨gr, n * 8 + 6, none⟩ = some (.int .i64 0) := hL.old (cr0 6 (by omega)) hgr
          have r7 : wr.cell? ⟨gr, n * 8 + 7, none⟩ = some (.slice none 0 0) := hL.old (cr0 7 (by omega)) hgr
          have c5 : wr.cell? ⟨wb, 5, none⟩ = some (.slice (some ⟨gr, 0, none⟩) rs.length rc) := hL.blk.cell 4 _ rfl
          have c6 : wr.cell? ⟨wb, 6, none⟩ = some (.slice la1 acc.1.length lc1) := hL.blk.cell 5 _ rfl
          have f6 : wr.frozen? ⟨wb, 6, none⟩ = false := hL.blk.free 6
          have hn0 : (0 : Int) ≤ (n : Int) := by omega
          have hn1 : (n : Int) < (rs.length : Int) := by omega
          have hobs : ob < wr.heap.size := World.block_lt_of_cell? _ _ p2
          have hwbs : wb < wr.heap.size := hL.blk.lt
          have hb2 : acc.2.length ≤ 900000 := by have := acc_len hacc.out; omega
          have hb1 : acc.1.length ≤ 900000 := by have := acc_len hacc.out; omega
          have HE := hid hnE
          have HQ := hid hq
          have HL := hid hL
          clear hnE hq hL cr0 cn0 hn o2
          obtain ⟨mn, hmn⟩ : ∃ mn, (if gn < lo then gn else lo) = mn := ⟨_, rfl⟩
          obtain ⟨wq, hwq⟩ : ∃ wq, IntKind.u64.wrap (q.wh + 1) = wq := ⟨_, rfl⟩
          have HM := hid (show mnF lo gn = mn from hmn)
          have HW := hid (show wu (q.wh + 1) = wq from hwq)
          have HT := hid (fold_take (stepF rs key i lo gn) ([], []) live k 0 hlt)
          obtain ⟨i79, hi79, hz0, hz1, hz2⟩ := info_parts Try.info79
          cases hS : ubS q.p key with
          | false =>
            clear hmn hwq hi79 hz0 hz1 hz2
            go_upto_region 12 with fail
            go_quiet ((go_at_call 51; exact Calls.quiet_of_same (underBoth_any _ _ _)))
            go_wp2
            go_roundw
            case rel => exact ⟨k + 1, acc, by omega, by go_num, by rw [HT.out, hacc.out, HE.out]; exact stepF_A HQ.out hS, la1, lc1, ba, bc, rfl, (HL.out.alloc _).drewN _⟩
            case measure => simp [intOf]; omega
          | true =>
            go_upto_region 12 with fail
            go_quiet ((go_at_call 51; exact Calls.quiet_of_same (underBoth_any _ _ _)))
            go_upto_region 15 with fail
            by_cases hB : (gn != 0) = true ∧ wq < mn
            · obtain ⟨hg, hw⟩ := hB
              go_wp2_with (at_builtin; go_must (refine wpList_append_lies _ rfl _ _ 71 rfl wc.heap.size 79 i79 (.agg (runCells run0).toArray) 8 96 Try.underlying71 hi79 hz0 hz1 hz2 rfl (by omega) (.slice ba acc.2.length bc) acc.2.length (flat acc.2) rfl (by exact ((HL.out.beg.alloc _).alloc _)) ⟨wr.heap.size + 1, 0, none⟩ 1 1 (runCells ⟨ubP q.p key, i, mn, wu (mn - 1)⟩) rfl rfl (by exact news2 wr _ (runCells ⟨ubP q.p key, i, mn, wu (mn - 1)⟩).toArray 79 _) (run_oneCell _) (by omega) (by unfold maxLen; omega) (by omega) (by have := HL.out.fr.size; simp; omega) (wr.heap.size + 2) (by simp) ?_))
              intro gg cap w1 hown1 hgrow hat hlt1
              go_wp2
              go_roundw
              case rel => exact ⟨k + 1, _, by omega, by go_num, by rw [HT.out, hacc.out, HE.out]; exact stepF_B HQ.out hS HM.out HW.out hg hw, la1, lc1, some ⟨gg, 0, none⟩, cap, by simp, (HL.out.alloc _).more hown1 hgrow⟩
              case measure => simp [intOf]; omega
            · obtain ⟨i3, hi3, hy0, hy1, hy2⟩ := info_parts Try.info3
              have HNE := hid (L1_ne HL.out)
              cases hg : (gn != 0) with
              | false =>
                have HC := hid (Or.inl hg : (gn != 0) = false ∨ mn ≤ wq)
                clear hB
                cases hs : ((ubP q.p key).toList == q.p.toList) with
                | true =>
                  go_wp2_with (at_builtin; go_must (refine wpList_append_lies _ rfl _ _ 22 rfl wc.heap.size 3 i3 (.int .i64 0) 1 8 Try.underlying22 hi3 hy0 hy1 hy2 rfl (by omega) (.slice la1 acc.1.length lc1) acc.1.length _ rfl (by exact ((HL.out.liv.alloc _).alloc _)) ⟨wr.heap.size + 1, 0, none⟩ 1 1 [.int .i64 n] rfl rfl (by exact news2 wr _ #[.int .i64 n] 3 _) (by simp [Value.oneCell']) (by omega) (by unfold maxLen; omega) (by omega) (by have := HL.out.fr.size; simp; omega) (wr.heap.size + 2) (by simp) ?_))
                  intro gg cap w1 hown1 hgrow hat hlt1
                  have f1 : w1.frozen? ⟨wb, 6, none⟩ = false := (far_free (wr := wr.alloc _) (n := nq) hgrow (by simp; omega) HNE.out 6).trans ((World.frozen?_alloc_past (w := wr) _ wb 6 hwbs).trans f6)
                  have g1 : w1.cell? ⟨wb, 6, none⟩ = some (.slice la1 acc.1.length lc1) := (far_cell (wr := wr.alloc _) (n := nq) hgrow (by simp; omega) HNE.out 6).trans ((World.cell?_alloc_past (w := wr) _ wb 6 hwbs).trans c6)
                  go_wp2
                  go_roundw
                  case rel => exact ⟨k + 1, (acc.1 ++ [n], acc.2), by omega, by go_num, by rw [HT.out, hacc.out, HE.out]; exact stepF_C' HQ.out hS HM.out HW.out HC.out hs, some ⟨gg, 0, none⟩, cap, ba, bc, rfl, (HL.out.alloc _).lives (n := nq) hown1 hgrow⟩
                  case measure => simp [intOf]; omega
                | false =>
                  go_wp2_with (at_builtin; go_must (refine wpList_append_lies _ rfl _ _ 71 rfl wc.heap.size 79 i79 (.agg (runCells run0).toArray) 8 96 Try.underlying71 hi79 hz0 hz1 hz2 rfl (by omega) (.slice ba acc.2.length bc) acc.2.length (flat acc.2) rfl (by exact ((HL.out.box _ nq 0 (.string (ubP q.p key))).beg.alloc _)) ⟨wr.heap.size + 1, 0, none⟩ 1 1 (runCells ⟨ubP q.p key, q.a, q.lo, q.wh⟩) rfl rfl (by exact news3 _ (runCells ⟨ubP q.p key, q.a, q.lo, q.wh⟩).toArray 79 _ (by simp)) (run_oneCell _) (by omega) (by unfold maxLen; omega) (by omega) (by have := HL.out.fr.size; simp; omega) (wr.heap.size + 2) (by simp) ?_))
                  intro gg cap w1 hown1 hgrow hat hlt1
                  go_wp2
                  go_roundw
                  case rel => exact ⟨k + 1, (acc.1, acc.2 ++ [⟨ubP q.p key, q.a, q.lo, q.wh⟩]), by omega, by go_num, by rw [HT.out, hacc.out, HE.out]; exact stepF_D' HQ.out hS HM.out HW.out HC.out hs, la1, lc1, some ⟨gg, 0, none⟩, cap, by simp, (HL.out.box _ nq 0 (.string (ubP q.p key))).more (n := 0) hown1 hgrow⟩
                  case measure => simp [intOf]; omega
              | true =>
                have hw : mn ≤ wq := by
                  have : ¬ wq < mn := fun e => hB ⟨hg, e⟩
                  omega
                have HC := hid (Or.inr hw : (gn != 0) = false ∨ mn ≤ wq)
                clear hB
                cases hs : ((ubP q.p key).toList == q.p.toList) with
                | true =>
                  go_wp2_with (at_builtin; go_must (refine wpList_append_lies _ rfl _ _ 22 rfl wc.heap.size 3 i3 (.int .i64 0) 1 8 Try.underlying22 hi3 hy0 hy1 hy2 rfl (by omega) (.slice la1 acc.1.length lc1) acc.1.length _ rfl (by exact ((HL.out.liv.alloc _).alloc _)) ⟨wr.heap.size + 1, 0, none⟩ 1 1 [.int .i64 n] rfl rfl (by exact news2 wr _ #[.int .i64 n] 3 _) (by simp [Value.oneCell']) (by omega) (by unfold maxLen; omega) (by omega) (by have := HL.out.fr.size; simp; omega) (wr.heap.size + 2) (by simp) ?_))
                  intro gg cap w1 hown1 hgrow hat hlt1
                  have f1 : w1.frozen? ⟨wb, 6, none⟩ = false := (far_free (wr := wr.alloc _) (n := nq) hgrow (by simp; omega) HNE.out 6).trans ((World.frozen?_alloc_past (w := wr) _ wb 6 hwbs).trans f6)
                  have g1 : w1.cell? ⟨wb, 6, none⟩ = some (.slice la1 acc.1.length lc1) := (far_cell (wr := wr.alloc _) (n := nq) hgrow (by simp; omega) HNE.out 6).trans ((World.cell?_alloc_past (w := wr) _ wb 6 hwbs).trans c6)
                  go_wp2
                  go_roundw
                  case rel => exact ⟨k + 1, (acc.1 ++ [n], acc.2), by omega, by go_num, by rw [HT.out, hacc.out, HE.out]; exact stepF_C' HQ.out hS HM.out HW.out HC.out hs, some ⟨gg, 0, none⟩, cap, ba, bc, rfl, (HL.out.alloc _).lives (n := nq) hown1 hgrow⟩
                  case measure => simp [intOf]; omega
                | false =>
                  go_wp2_with (at_builtin; go_must (refine wpList_append_lies _ rfl _ _ 71 rfl wc.heap.size 79 i79 (.agg (runCells run0).toArray) 8 96 Try.underlying71 hi79 hz0 hz1 hz2 rfl (by omega) (.slice ba acc.2.length bc) acc.2.length (flat acc.2) rfl (by exact ((HL.out.box _ nq 0 (.string (ubP q.p key))).beg.alloc _)) ⟨wr.heap.size + 1, 0, none⟩ 1 1 (runCells ⟨ubP q.p key, q.a, q.lo, q.wh⟩) rfl rfl (by exact news3 _ (runCells ⟨ubP q.p key, q.a, q.lo, q.wh⟩).toArray 79 _ (by simp)) (run_oneCell _) (by omega) (by unfold maxLen; omega) (by omega) (by have := HL.out.fr.size; simp; omega) (wr.heap.size + 2) (by simp) ?_))
                  intro gg cap w1 hown1 hgrow hat hlt1
                  go_wp2
                  go_roundw
                  case rel => exact ⟨k + 1, (acc.1, acc.2 ++ [⟨ubP q.p key, q.a, q.lo, q.wh⟩]), by omega, by go_num, by rw [HT.out, hacc.out, HE.out]; exact stepF_D' HQ.out hS HM.out HW.out HC.out hs, la1, lc1, some ⟨gg, 0, none⟩, cap, by simp, (HL.out.box _ nq 0 (.string (ubP q.p key))).more (n := 0) hown1 hgrow⟩
                  case measure => simp [intOf]; omega
        · have hkl : k = live.length := by omega
          subst hkl
          have hb := acc_len hacc.out
          have HL2 := hid (L2.start H.out hL (by rw [← hacc.out]; exact fold_mem rs key i lo gn _ _ _ (by simp) (fun x hx => H.out.ok x (List.mem_of_mem_take hx))))
          clear hL
          go_wp2
          go_loopw [132] (fun c wr2 => ∃ (m : Nat) (s2 : List Run × List Nat), m ≤ acc.2.length ∧ c = .int .i64 m ∧ Hid ((acc.2.take m).foldl beginF (rs, acc.1) = s2) ∧ ∃ ra' rc' la' lc', L2 wc wr2 B wb key lo i ra ra' rc' la' lc' s2 ba bc acc.2) (fun c _ => acc.2.length - (intOf c).toNat)
          case atStart => exact ⟨0, (rs, acc.1), Nat.zero_le _, rfl, rfl, ra, rc, la1, lc1, HL2.out⟩
          case round =>
            clear HL2
            obtain ⟨m, s2, hm, rfl, hs2, ra', rc', la', lc', hL2⟩ := hrel
            have hb2 := foldBegin_take hs2.out
            simp only at hb2
            by_cases hmt : m < acc.2.length
            · obtain ⟨gb, rfl, cb0⟩ := hL2.begAt m hmt
              obtain ⟨q, hq⟩ : ∃ q, acc.2.getD m run0 = q := ⟨_, rfl⟩
              rw [hq] at cb0
              have r0 : wr.cell? ⟨gb, m * 8, none⟩ = some (.string q.p) := cb0 0 (by omega)
              have r1 : wr.cell? ⟨gb, m * 8 + 1, none⟩ = some (.int .i64 q.a) := cb0 1 (by omega)
              have r2 : wr.cell? ⟨gb, m * 8 + 2, none⟩ = some (.int .u64 q.lo) := cb0 2 (by omega)
              have r3 : wr.cell? ⟨gb, m * 8 + 3, none⟩ = some (.int .u64 q.wh) := cb0 3 (by omega)
              have r4 : wr.cell? ⟨gb, m * 8 + 4, none⟩ = some (.int .u64 0) := cb0 4 (by omega)
              have r5 : wr.cell? ⟨gb, m * 8 + 5, none⟩ = some (.string ByteArray.empty) := cb0 5 (by omega)
              have r6 : wr.cell? ⟨gb, m * 8 + 6, none⟩ = some (.int .i64 0) := cb0 6 (by omega)
              have r7 : wr.cell? ⟨gb, m * 8 + 7, none⟩ = some (.slice none 0 0) := cb0 7 (by omega)
              have HQ := hid hq
              have HL2 := hid hL2
              have HT := hid (fold_take beginF (rs, acc.1) acc.2 m run0 hmt)
              clear hq hL2 cb0
              go_wp2_with fail
              refine (begin_any B wb key lo i 0 ra' rc' la' lc' s2.1 s2.2 q _ (HL2.out.inv.alloc _) (by omega) (by omega)).mono ?_
              rintro e w2 ⟨rfl, ra2, rc2, la2, lc2, hI2, hF2, hn1, hn2⟩
              have HI2 := hid (HL2.out.step hI2 hF2 hn1 hn2)
              clear hI2 hF2 hn1 hn2 r0 r1 r2 r3 r4 r5 r6 r7
              go_wp2_with fail
              go_roundw
              case rel => exact ⟨m + 1, _, by omega, by go_num, by rw [HT.out, hs2.out, HQ.out]; exact rfl, ra2, rc2, la2, lc2, HI2.out⟩
              case measure => simp [intOf]; omega
            · have hml : m = acc.2.length := by omega
              subst hml
              have c6 : wr.cell? ⟨wb, 6, none⟩ = some (.slice la' s2.2.length lc') := hL2.inv.blk.cell 5 _ rfl
              have HL2 := hid hL2
              clear hL2 hm hmt
              go_wp2
              clear c6
              go_loopw [145] (fun c wr3 => ∃ m : Nat, m ≤ s2.2.length ∧ c = .int .i64 m ∧ Hid (∀ j, j < m → seq (s2.1.getD (s2.2.getD j 0) run0).p key = false) ∧ L2 wc wr3 B wb key lo i ra ra' rc' la' lc' s2 ba bc acc.2) (fun c _ => s2.2.length - (intOf c).toNat)
              case atStart => exact ⟨0, Nat.zero_le _, rfl, fun j hj => by omega, HL2.out⟩
              case round =>
                clear HL2
                obtain ⟨m, hm, rfl, hno, hL3⟩ := hrel
                have p2 : wr.cell? ⟨ob, 2, none⟩ = some (.string key) := by
                  rw [← o2]
                  exact World.cell?_of_block (hL3.fr.block ob (World.block_lt_of_cell? _ _ o2) (Ne.symm hob) HORA.out (by simp [blkOf]))
                by_cases hmt : m < s2.2.length
                · obtain ⟨gl, rfl, cn, hn⟩ := hL3.inv.liveAt m hmt
                  obtain ⟨n, hnE⟩ : ∃ n, s2.2.getD m 0 = n := ⟨_, rfl⟩
                  rw [hnE] at cn hn
                  obtain ⟨gr, rfl, cr⟩ := hL3.inv.runAt n hn
                  obtain ⟨q, hq⟩ : ∃ q, s2.1.getD n run0 = q := ⟨_, rfl⟩
                  rw [hq] at cr
                  have c5 : wr.cell? ⟨wb, 5, none⟩ = some (.slice (some ⟨gr, 0, none⟩) s2.1.length rc') := hL3.inv.blk.cell 4 _ rfl
                  have r0 : wr.cell? ⟨gr, n * 8, none⟩ = some (.string q.p) := cr 0 (by omega)
                  have hn0 : (0 : Int) ≤ (n : Int) := by omega
                  have hn1 : (n : Int) < (s2.1.length : Int) := by omega
                  have HE := hid hnE
                  have HQ := hid hq
                  have HL3 := hid hL3
                  clear hnE hq hL3 cr hn o2
                  cases hs : (q.p.toList == key.toList) with
                  | false =>
                    have HS := hid (seq_of hs)
                    go_wp2
                    go_quiet (fail)
                    go_wp2
                    go_roundw
                    case rel => exact ⟨m + 1, by omega, by go_num, upto_succ hno.out (by rw [HE.out, HQ.out]; exact HS.out), HL3.out.drewN _⟩
                    case measure => simp [intOf]; omega
                  | true =>
                    have HS := hid (seq_of hs)
                    go_wp2
                    go_quiet (fail)
                    go_wp2
                    refine bodyPost_ret (results_none rfl _ _ _) rfl ?_
                    refine ⟨rfl, some ⟨gr, 0, none⟩, rc', some ⟨gl, 0, none⟩, lc', ?_⟩
                    rw [askF_hit hacc.out hs2.out hmt (by rw [HE.out, HQ.out]; exact HS.out)]
                    exact ⟨HL3.out.inv.drewN _, (HL3.out.fr.drewN _).wide, HL3.out.nr, HL3.out.nl.wide⟩
                · have hml : m = s2.2.length := by omega
                  subst hml
                  have HL3 := hid hL3
                  have HA := hid (askF_miss hacc.out hs2.out hno.out)
                  clear hL3 hm hmt
                  go_wp2_with fail
                  refine (begin_any B wb key lo i 0 ra' rc' la' lc' s2.1 s2.2 ⟨key, i, lo, wu (lo - 1)⟩ _ HL3.out.inv (by omega) (by omega)).mono ?_
                  rintro e w2 ⟨rfl, ra2, rc2, la2, lc2, hI2, hF2, hn1, hn2⟩
                  have HI2 := hid hI2
                  have HF2 := hid (ask_end (la := la) HL3.out.fr HL3.out.nr HL3.out.nl hF2 hn1 hn2)
                  clear hI2 hF2 hn1 hn2
                  go_wp2_with fail
                  go_end0
                  refine ⟨rfl, ra2, rc2, la2, lc2, ?_⟩
                  rw [HA.out]
                  exact ⟨HI2.out, HF2.out⟩

end Go.Proofs.Qxb6001222a
