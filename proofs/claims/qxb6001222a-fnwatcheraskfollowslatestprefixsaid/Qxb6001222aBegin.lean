/-
  Seat b6001222a: (*watcher).begin (52).
-/
import Derived.Test.Qxb6001222aSteps
import Derived.Deep.RegionLaw
import Derived.Deep.CutRange
import Derived.Deep.DeepCutAuto
import Derived.Deep.DrawnRows
import Derived.Laws.Pointers
namespace Go.Proofs.Qxb6001222a
open Go.RowKit Go.WideShapes

theorem Try.info79 : (Try.prog.info? 79).map (fun i => (i.zero, i.size, i.bytes)) = some (some (.agg (runCells run0).toArray), 8, 96) := by kernel_rfl

/-- Behind begin's first append: the live places have grown, the runs not yet. -/
structure Mid (w w2 : World) (B wb : Nat) (p : ByteArray) (fr at' gn : Int) (ra : Option Addr) (rc : Nat) (la la' : Option Addr) (lc' : Nat) (rs : List Run) (live : List Nat) (r : Run) : Prop where
  blk : WBlk w2 wb [.string p, .int .u64 fr, .int .i64 at', .int .u64 gn, .slice ra rs.length rc, .slice la' (live.length + 1) lc']
  runs : w2.ownsRow B 79 8 (.slice ra rs.length rc) rs.length (flat rs)
  liv : w2.ownsRow B 3 1 (.slice la' (live.length + 1) lc') (live.length + 1) ((live ++ [rs.length]).map fun n : Nat => Value.int .i64 (n : Int))
  fr' : Fr wb ra la w w2
  new : New w.heap.size la la'
  box : w2.heap[w.heap.size]? = some (.cells #[.string r.p, .int .i64 r.a, .int .u64 r.lo, .int .u64 r.wh, .int .u64 0, .string ByteArray.empty, .int .i64 0, .slice none 0 0] 79)

theorem mid_of {w wr w1 : World} {B wb : Nat} {p : ByteArray} {fr at' gn : Int} {ra la : Option Addr} {rc lc : Nat} {rs : List Run} {live : List Nat} {r : Run} {o : Obj} {gg cap : Nat}
    (h0 : WInv w B wb p fr at' gn ra rc la lc rs live) (hI : WInv wr B wb p fr at' gn ra rc la lc rs live) (hF : Fr wb ra la w wr)
    (hX : wr.heap[w.heap.size]? = some (.cells #[.string r.p, .int .i64 r.a, .int .u64 r.lo, .int .u64 r.wh, .int .u64 0, .string ByteArray.empty, .int .i64 0, .slice none 0 0] 79))
    (hown : w1.ownsRow B 3 1 (.slice (some ⟨gg, 0, none⟩) (live.length + 1) cap) (live.length + 1) ((live.map fun n : Nat => Value.int .i64 (n : Int)) ++ [.int .i64 rs.length]))
    (hg : (wr.alloc o).drew.grownBy w1 (Value.slice la live.length lc).ownBlock) (hat : (Value.slice la live.length lc).ownBlock = some gg ∨ gg = wr.heap.size + 1) :
    Mid w (w1.setCell ⟨wb, 6, none⟩ (.slice (some ⟨gg, 0, none⟩) (live.length + 1) cap)) B wb p fr at' gn ra rc la (some ⟨gg, 0, none⟩) cap rs live r := by
  have hp := pushed (n := 1) (j := 5) hI.blk (by simp) hI.liv (by decide) hg hown
  have hs := hF.size
  refine ⟨hp.blk, ownsRow_same hI.runs ?_, ?_, hp.fr hF ?_, new_of_lies hat (by omega), ?_⟩
  · intro g hg'
    rw [ownBlock_slice] at hg'
    refine hp.rest g (hI.ra_lt g hg').2 (fun e => ?_) (fun e => ?_)
    · subst e; exact hI.wb_ne_ra hg'.symm
    · rw [ownBlock_slice] at e; exact hI.ra_ne_la g hg' e.symm
  · have := hp.own
    simpa using this
  · intro k hk
    rw [ownBlock_slice] at hk
    exact .inr (.inl hk.symm)
  · rw [hp.rest w.heap.size (lt_of_block hX) (fun e => ?_) (fun e => ?_)]
    · exact hX
    · have := h0.blk.lt; omega
    · rw [ownBlock_slice] at e
      have := (h0.la_lt _ e.symm).2
      omega

theorem mid_ne {w w2 : World} {B wb : Nat} {p : ByteArray} {fr at' gn : Int} {ra la la' : Option Addr} {rc lc' : Nat} {rs : List Run} {live : List Nat} {r : Run} (h : Mid w w2 B wb p fr at' gn ra rc la la' lc' rs live r) : some wb ≠ blkOf ra := by
  obtain ⟨c0, rr, hb⟩ := h.blk
  rw [← ownBlock_slice]; exact ownsRow_ne h.runs hb (by decide)

theorem run_oneCell (r : Run) : ∀ u ∈ runCells r, u.oneCell' = true := by simp [runCells, Value.oneCell']

theorem fin_of {w wc w1 : World} {B wb : Nat} {p : ByteArray} {fr at' gn : Int} {ra la la' : Option Addr} {rc lc lc' : Nat} {rs : List Run} {live : List Nat} {r : Run} {o : Obj} {gg cap : Nat}
    (h0 : WInv w B wb p fr at' gn ra rc la lc rs live) (hM : Mid w wc B wb p fr at' gn ra rc la la' lc' rs live r)
    (hown : w1.ownsRow B 79 8 (.slice (some ⟨gg, 0, none⟩) (rs.length + 1) cap) (rs.length + 1) (flat rs ++ runCells r))
    (hg : (wc.alloc o).drew.grownBy w1 (Value.slice ra rs.length rc).ownBlock) (hat : (Value.slice ra rs.length rc).ownBlock = some gg ∨ gg = wc.heap.size + 1) :
    WInv (w1.setCell ⟨wb, 5, none⟩ (.slice (some ⟨gg, 0, none⟩) (rs.length + 1) cap)) B wb p fr at' gn (some ⟨gg, 0, none⟩) cap la' lc' (rs ++ [r]) (live ++ [rs.length]) ∧
      Fr wb ra la w (w1.setCell ⟨wb, 5, none⟩ (.slice (some ⟨gg, 0, none⟩) (rs.length + 1) cap)) ∧ New w.heap.size ra (some ⟨gg, 0, none⟩) ∧ New w.heap.size la la' := by
  have hp := pushed (n := 1) (j := 4) hM.blk (by simp) hM.runs (by decide) hg hown
  have hs := hM.fr'.size
  refine ⟨⟨h0.base, ?_, ?_, ?_, ?_⟩, hp.fr hM.fr' ?_, new_of_lies hat (by omega), hM.new⟩
  · have := hp.blk
    simpa using this
  · have := hp.own
    rw [flat_snoc]
    simpa using this
  · have hk : (w1.setCell ⟨wb, 5, none⟩ (.slice (some ⟨gg, 0, none⟩) (rs.length + 1) cap)).ownsRow B 3 1 (.slice la' (live.length + 1) lc') (live.length + 1) ((live ++ [rs.length]).map fun n : Nat => Value.int .i64 (n : Int)) := by
      refine ownsRow_same hM.liv ?_
      intro g hg'
      refine hp.rest g (hM.liv.lt g hg').2 (fun e => ?_) (fun e => ?_)
      · subst e
        obtain ⟨c0, rr, hb⟩ := hM.blk
        exact ownsRow_ne hM.liv hb (by decide) hg'.symm
      · obtain ⟨c, hc⟩ := ownsRow_kind hM.liv g hg'
        exact ownsRow_ne hM.runs hc (by decide) e
    simpa using hk
  · intro n hn
    rw [List.mem_append] at hn
    rw [List.length_append]
    rcases hn with hn | hn
    · have := h0.ok n hn; simp; omega
    · simp at hn; subst hn; simp
  · intro k hk
    rw [ownBlock_slice] at hk
    exact .inl hk.symm

set_option maxRecDepth 1000000 in
set_option maxHeartbeats 1000000 in
theorem begin_any (B wb : Nat) (p : ByteArray) (fr at' gn : Int) (ra : Option Addr) (rc : Nat) (la : Option Addr) (lc : Nat) (rs : List Run) (live : List Nat) (r : Run) (w : World)
    (h : WInv w B wb p fr at' gn ra rc la lc rs live) (hr : rs.length ≤ 1000000) (hl : live.length ≤ 1000000) :
    Calls Try.prog 52 #[.pointer (some ⟨wb, 0, none⟩), .agg #[.string r.p, .int .i64 r.a, .int .u64 r.lo, .int .u64 r.wh, .int .u64 0, .string ByteArray.empty, .int .i64 0, .slice none 0 0]] w fun e w' => e = .returned (.tuple #[]) ∧
      ∃ ra' rc' la' lc', WInv w' B wb p fr at' gn ra' rc' la' lc' (beginF (rs, live) r).1 (beginF (rs, live) r).2 ∧ Fr wb ra la w w' ∧ New w.heap.size ra ra' ∧ New w.heap.size la la' := by
  have hI := h.alloc (.cells #[.string r.p, .int .i64 r.a, .int .u64 r.lo, .int .u64 r.wh, .int .u64 0, .string ByteArray.empty, .int .i64 0, .slice none 0 0] 79)
  have hF := (Fr.refl wb ra la w).alloc (.cells #[.string r.p, .int .i64 r.a, .int .u64 r.lo, .int .u64 r.wh, .int .u64 0, .string ByteArray.empty, .int .i64 0, .slice none 0 0] 79)
  have hX : (w.alloc (.cells #[.string r.p, .int .i64 r.a, .int .u64 r.lo, .int .u64 r.wh, .int .u64 0, .string ByteArray.empty, .int .i64 0, .slice none 0 0] 79)).heap[w.heap.size]? = some (.cells #[.string r.p, .int .i64 r.a, .int .u64 r.lo, .int .u64 r.wh, .int .u64 0, .string ByteArray.empty, .int .i64 0, .slice none 0 0] 79) := heap_alloc_new _ _
  have HI := hid hI
  have HF := hid hF
  have HX := hid hX
  have c6 : w.cell? ⟨wb, 6, none⟩ = some (.slice la live.length lc) := h.blk.cell 5 _ rfl
  have h0 := hid h
  have hwb : wb < w.heap.size := h.blk.lt
  clear h hI hF hX
  go_enter Try.func52, Try.ntmps52
  go_wp2
  go_loopw [5, 11] (fun _ i wr => ∃ k : Nat, k ≤ live.length ∧ i = .int .i64 k ∧ (∀ j, j < k → beginHit rs r (live.getD j 0) = false) ∧
      WInv wr B wb p fr at' gn ra rc la lc rs live ∧ Fr wb ra la w wr ∧
      wr.heap[w.heap.size]? = some (.cells #[.string r.p, .int .i64 r.a, .int .u64 r.lo, .int .u64 r.wh, .int .u64 0, .string ByteArray.empty, .int .i64 0, .slice none 0 0] 79)) (fun _ i _ => live.length - (intOf i).toNat)
  case atStart => exact ⟨0, Nat.zero_le _, rfl, fun j hj => by omega, HI.out, HF.out, HX.out⟩
  case round =>
    clear HI HF HX c6
    obtain ⟨k, hk, rfl, hno, hI, hF, hX⟩ := hrel
    have HN := hid hno
    clear hno
    by_cases hlt : k < live.length
    · obtain ⟨gl, rfl, cn, hn⟩ := hI.liveAt k hlt
      obtain ⟨n, hnE⟩ : ∃ n, live.getD k 0 = n := ⟨_, rfl⟩
      rw [hnE] at cn hn
      obtain ⟨gr, rfl, cr⟩ := hI.runAt n hn
      obtain ⟨q, hq⟩ : ∃ q, rs.getD n run0 = q := ⟨_, rfl⟩
      rw [hq] at cr
      have c5 : wr.cell? ⟨wb, 5, none⟩ = some (.slice (some ⟨gr, 0, none⟩) rs.length rc) := hI.blk.cell 4 _ rfl
      have cp : wr.cell? ⟨gr, n * 8, none⟩ = some (.string q.p) := cr 0 (by omega)
      have cl : wr.cell? ⟨gr, n * 8 + 2, none⟩ = some (.int .u64 q.lo) := cr 2 (by omega)
      have x0 : wr.cell? ⟨w.heap.size, 0, none⟩ = some (.string r.p) := by rw [cell_of_row _ _ _ _ _ _ hX]; rfl
      have x2 : wr.cell? ⟨w.heap.size, 2, none⟩ = some (.int .u64 r.lo) := by rw [cell_of_row _ _ _ _ _ _ hX]; rfl
      have hn0 : (0 : Int) ≤ (n : Int) := by omega
      have hn1 : (n : Int) < (rs.length : Int) := by omega
      have HE := hid hnE
      have HQ := hid hq
      have HI := hid hI
      have HF := hid hF
      have HX := hid hX
      clear hnE hq hI hF hX cr hn
      cases hs : (q.p.toList == r.p.toList) with
      | false =>
        have HM := hid (beginHit_not1 HQ.out hs)
        go_wp2
        go_quiet (fail)
        go_wp2
        go_roundw
        case rel => exact ⟨k + 1, by omega, by go_num, upto_succ HN.out (by rw [HE.out]; exact HM.out), HI.out.drewN _, HF.out.drewN _, HX.out⟩
        case measure => simp [intOf]; omega
      | true =>
        by_cases hlo : q.lo ≤ r.lo
        · have HM := hid (beginHit_of HQ.out hs hlo)
          go_wp2
          go_quiet (fail)
          go_wp2
          refine bodyPost_ret (results_none rfl _ _ _) rfl ?_
          refine ⟨rfl, some ⟨gr, 0, none⟩, rc, some ⟨gl, 0, none⟩, lc, ?_, HF.out.drewN _, New.refl _ _, New.refl _ _⟩
          rw [beginF_hit hlt (by rw [HE.out]; exact HM.out)]
          exact HI.out.drewN _
        · have HM := hid (beginHit_not2 HQ.out hlo)
          go_wp2
          go_quiet (fail)
          go_wp2
          go_roundw
          case rel => exact ⟨k + 1, by omega, by go_num, upto_succ HN.out (by rw [HE.out]; exact HM.out), HI.out.drewN _, HF.out.drewN _, HX.out⟩
          case measure => simp [intOf]; omega
    · have hkl : k = live.length := by omega
      subst hkl
      have HM := hid (beginF_miss HN.out)
      have c5 : wr.cell? ⟨wb, 5, none⟩ = some (.slice ra rs.length rc) := hI.blk.cell 4 _ rfl
      have c6 : wr.cell? ⟨wb, 6, none⟩ = some (.slice la live.length lc) := hI.blk.cell 5 _ rfl
      have f6 : wr.frozen? ⟨wb, 6, none⟩ = false := hI.blk.free 6
      have hwr : wb < wr.heap.size := hI.blk.lt
      have hBs : B ≤ wr.heap.size := by have := hI.base; omega
      have HNE := hid hI.wb_ne_la
      have HOW := hid hI.liv
      have HI := hid hI
      have HF := hid hF
      have HX := hid hX
      clear hI hF hX HN hwb
      obtain ⟨i3, hi3, hz0, hz1, hz2⟩ := info_parts Try.info3
      go_upto_region 6 with fail
      go_cut [] from 40 to 53 (fun w2 => ∃ la' lc', Mid w w2 B wb p fr at' gn ra rc la la' lc' rs live r)
      case first =>
        go_region_law ((refine step_append_lies _ (by rfl) _ _ _ (by rfl) B 3 i3 _ 1 8 Try.underlying22 hi3 hz0 hz1 hz2 rfl (by omega) _ live.length _ (by rfl) ((HOW.out.alloc _).drew) ⟨wr.heap.size, 0, none⟩ 1 1 [.int .i64 rs.length] (by rfl) (by rfl) (World.news_of_block (cs := #[.int .i64 rs.length]) (t := 3) (fr := (0, 0)) (heap_alloc_new wr _)) (by simp [Value.oneCell']) (by omega) (by unfold maxLen; omega) (by omega) (by simp; omega) (wr.heap.size + 1) (by simp) ?_; intro gg cap w1 hown1 hgrow hat hlt; have f1 : w1.frozen? ⟨wb, 6, none⟩ = false := (far_free (n := 1) hgrow hwr (by rw [ownBlock_slice]; exact HNE.out) 6).trans f6; have g1 : w1.cell? ⟨wb, 6, none⟩ = some (.slice la live.length lc) := (far_cell (n := 1) hgrow hwr (by rw [ownBlock_slice]; exact HNE.out) 6).trans c6))
        all_goals
          go_wp2_with fail
          go_meet
          exact ⟨_, _, mid_of h0.out HI.out HF.out HX.out hown1 hgrow hat⟩
      case rest =>
        obtain ⟨la', lc', hM⟩ := hcut
        clear HOW HNE c5 c6 f6 hwr HI HF HX hi3 hz0 hz1 hz2
        have c5 : wc.cell? ⟨wb, 5, none⟩ = some (.slice ra rs.length rc) := hM.blk.cell 4 _ rfl
        have f5 : wc.frozen? ⟨wb, 5, none⟩ = false := hM.blk.free 5
        have hwc : wb < wc.heap.size := hM.blk.lt
        have hBs2 : B ≤ wc.heap.size := by have := h0.out.base; omega
        have x0 : wc.cell? ⟨w.heap.size, 0, none⟩ = some (.string r.p) := by rw [cell_of_row _ _ _ _ _ _ hM.box]; rfl
        have x1 : wc.cell? ⟨w.heap.size, 1, none⟩ = some (.int .i64 r.a) := by rw [cell_of_row _ _ _ _ _ _ hM.box]; rfl
        have x2 : wc.cell? ⟨w.heap.size, 2, none⟩ = some (.int .u64 r.lo) := by rw [cell_of_row _ _ _ _ _ _ hM.box]; rfl
        have x3 : wc.cell? ⟨w.heap.size, 3, none⟩ = some (.int .u64 r.wh) := by rw [cell_of_row _ _ _ _ _ _ hM.box]; rfl
        have x4 : wc.cell? ⟨w.heap.size, 4, none⟩ = some (.int .u64 0) := by rw [cell_of_row _ _ _ _ _ _ hM.box]; rfl
        have x5 : wc.cell? ⟨w.heap.size, 5, none⟩ = some (.string ByteArray.empty) := by rw [cell_of_row _ _ _ _ _ _ hM.box]; rfl
        have x6 : wc.cell? ⟨w.heap.size, 6, none⟩ = some (.int .i64 0) := by rw [cell_of_row _ _ _ _ _ _ hM.box]; rfl
        have x7 : wc.cell? ⟨w.heap.size, 7, none⟩ = some (.slice none 0 0) := by rw [cell_of_row _ _ _ _ _ _ hM.box]; rfl
        have HNE := hid (mid_ne hM)
        have HOW := hid hM.runs
        have HMid := hid hM
        clear hM hBs
        obtain ⟨i79, hi3, hz0, hz1, hz2⟩ := info_parts Try.info79
        go_upto_region 7 with fail
        go_region_law ((refine step_append_lies _ (by rfl) _ _ _ (by rfl) B 79 i79 _ 8 96 Try.underlying71 hi3 hz0 hz1 hz2 rfl (by omega) _ rs.length _ (by rfl) ((HOW.out.alloc _).drew) ⟨wc.heap.size, 0, none⟩ 1 1 (runCells r) (by rfl) (by rfl) (World.news_of_block (cs := (runCells r).toArray) (t := 79) (fr := (0, 0)) (heap_alloc_new wc _)) (run_oneCell r) (by omega) (by unfold maxLen; omega) (by omega) (by simp; omega) (wc.heap.size + 1) (by simp) ?_; intro gg cap w1 hown1 hgrow hat hlt; have f1 : w1.frozen? ⟨wb, 5, none⟩ = false := (far_free (n := 1) hgrow hwc (by rw [ownBlock_slice]; exact HNE.out) 5).trans f5; have g1 : w1.cell? ⟨wb, 5, none⟩ = some (.slice ra rs.length rc) := (far_cell (n := 1) hgrow hwc (by rw [ownBlock_slice]; exact HNE.out) 5).trans c5))
        all_goals
          go_wp2_with fail
          go_end0
          refine ⟨rfl, some ⟨gg, 0, none⟩, cap, la', lc', ?_⟩
          rw [HM.out]
          exact fin_of h0.out HMid.out hown1 hgrow hat

end Go.Proofs.Qxb6001222a
