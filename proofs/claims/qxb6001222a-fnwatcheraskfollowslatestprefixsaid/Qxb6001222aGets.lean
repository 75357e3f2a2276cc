/-
  Seat b6001222a: the shims that read a watcher (29 .. 36, 39), ZZNewWatcher (27), ZZSetGone (48), ZZAsk (44), zzFromOf (33), zzHasPrefix (37).
-/
import Derived.Test.Qxb6001222aAsk
namespace Go.Proofs.Qxb6001222a
open Go.RowKit Go.WideShapes

section
variable {w : World} {B wb : Nat} {p : ByteArray} {fr at' gn : Int} {ra la : Option Addr} {rc lc : Nat} {rs : List Run} {live : List Nat}

set_option maxRecDepth 1000000 in
theorem getPrefix (h : WInv w B wb p fr at' gn ra rc la lc rs live) : Calls Try.prog 29 #[.pointer (some ⟨wb, 0, none⟩)] w fun e w' => e = .returned (.string p) ∧ w' = w := by
  have c1 : w.cell? ⟨wb, 1, none⟩ = some (.string p) := h.blk.cell 0 _ rfl
  clear h
  go_enter Try.func29, Try.ntmps29
  go_wp2
  go_ret
  exact ⟨rfl, rfl⟩

set_option maxRecDepth 1000000 in
theorem getGone (h : WInv w B wb p fr at' gn ra rc la lc rs live) : Calls Try.prog 30 #[.pointer (some ⟨wb, 0, none⟩)] w fun e w' => e = .returned (.int .u64 gn) ∧ w' = w := by
  have c1 : w.cell? ⟨wb, 4, none⟩ = some (.int .u64 gn) := h.blk.cell 3 _ rfl
  clear h
  go_enter Try.func30, Try.ntmps30
  go_wp2
  go_ret
  exact ⟨rfl, rfl⟩

set_option maxRecDepth 1000000 in
theorem getAsked (h : WInv w B wb p fr at' gn ra rc la lc rs live) : Calls Try.prog 31 #[.pointer (some ⟨wb, 0, none⟩)] w fun e w' => e = .returned (.int .i64 at') ∧ w' = w := by
  have c1 : w.cell? ⟨wb, 3, none⟩ = some (.int .i64 at') := h.blk.cell 2 _ rfl
  clear h
  go_enter Try.func31, Try.ntmps31
  go_wp2
  go_ret
  exact ⟨rfl, rfl⟩

set_option maxRecDepth 1000000 in
theorem getFrom (h : WInv w B wb p fr at' gn ra rc la lc rs live) : Calls Try.prog 32 #[.pointer (some ⟨wb, 0, none⟩)] w fun e w' => e = .returned (.int .u64 fr) ∧ w' = w := by
  have c1 : w.cell? ⟨wb, 2, none⟩ = some (.int .u64 fr) := h.blk.cell 1 _ rfl
  clear h
  go_enter Try.func32, Try.ntmps32
  go_wp2
  go_ret
  exact ⟨rfl, rfl⟩

set_option maxRecDepth 1000000 in
theorem getLiveLen (h : WInv w B wb p fr at' gn ra rc la lc rs live) : Calls Try.prog 34 #[.pointer (some ⟨wb, 0, none⟩)] w fun e w' => e = .returned (.int .i64 live.length) ∧ w' = w := by
  have c1 : w.cell? ⟨wb, 6, none⟩ = some (.slice la live.length lc) := h.blk.cell 5 _ rfl
  clear h
  go_enter Try.func34, Try.ntmps34
  go_wp2
  go_ret
  exact ⟨rfl, rfl⟩

set_option maxRecDepth 1000000 in
theorem getRunsLen (h : WInv w B wb p fr at' gn ra rc la lc rs live) : Calls Try.prog 39 #[.pointer (some ⟨wb, 0, none⟩)] w fun e w' => e = .returned (.int .i64 rs.length) ∧ w' = w := by
  have c1 : w.cell? ⟨wb, 5, none⟩ = some (.slice ra rs.length rc) := h.blk.cell 4 _ rfl
  clear h
  go_enter Try.func39, Try.ntmps39
  go_wp2
  go_ret
  exact ⟨rfl, rfl⟩

set_option maxRecDepth 1000000 in
theorem getLiveAt (h : WInv w B wb p fr at' gn ra rc la lc rs live) (j n : Nat) (hj : j < live.length) (hn : live.getD j 0 = n) : Calls Try.prog 36 #[.pointer (some ⟨wb, 0, none⟩), .int .i64 j] w fun e w' => e = .returned (.int .i64 n) ∧ w' = w := by
  obtain ⟨gl, rfl, cn, _⟩ := h.liveAt j hj
  rw [hn] at cn
  have c1 : w.cell? ⟨wb, 6, none⟩ = some (.slice (some ⟨gl, 0, none⟩) live.length lc) := h.blk.cell 5 _ rfl
  have hj0 : (0 : Int) ≤ (j : Int) := by omega
  have hj1 : (j : Int) < (live.length : Int) := by omega
  clear h hn
  go_enter Try.func36, Try.ntmps36
  go_wp2
  go_ret
  exact ⟨rfl, rfl⟩

set_option maxRecDepth 1000000 in
theorem getRunPrefix (h : WInv w B wb p fr at' gn ra rc la lc rs live) (n : Nat) (q : Run) (hj : n < rs.length) (hn : rs.getD n run0 = q) : Calls Try.prog 35 #[.pointer (some ⟨wb, 0, none⟩), .int .i64 n] w fun e w' => e = .returned (.string q.p) ∧ w' = w := by
  obtain ⟨gr, rfl, cr⟩ := h.runAt n hj
  rw [hn] at cr
  have c1 : w.cell? ⟨wb, 5, none⟩ = some (.slice (some ⟨gr, 0, none⟩) rs.length rc) := h.blk.cell 4 _ rfl
  have r0 : w.cell? ⟨gr, n * 8, none⟩ = some (.string q.p) := cr 0 (by omega)
  have hj0 : (0 : Int) ≤ (n : Int) := by omega
  have hj1 : (n : Int) < (rs.length : Int) := by omega
  clear h hn cr
  go_enter Try.func35, Try.ntmps35
  go_wp2
  go_ret
  exact ⟨rfl, rfl⟩

set_option maxRecDepth 1000000 in
theorem setGone (g : Int) (h : WInv w B wb p fr at' gn ra rc la lc rs live) : Calls Try.prog 48 #[.pointer (some ⟨wb, 0, none⟩), .int .u64 g] w fun e w' => e = .returned (.tuple #[]) ∧ w' = w.setCell ⟨wb, 4, none⟩ (.int .u64 g) := by
  have c1 : w.cell? ⟨wb, 4, none⟩ = some (.int .u64 gn) := h.blk.cell 3 _ rfl
  have f1 : w.frozen? ⟨wb, 4, none⟩ = false := h.blk.free 4
  clear h
  go_enter Try.func48, Try.ntmps48
  go_wp2
  go_end0
  exact ⟨rfl, rfl⟩

theorem WInv.setGone (g : Int) (h : WInv w B wb p fr at' gn ra rc la lc rs live) : WInv (w.setCell ⟨wb, 4, none⟩ (.int .u64 g)) B wb p fr at' g ra rc la lc rs live := by
  refine ⟨h.base, h.blk.set 3 _ (by simp), ownsRow_setCell_other h.runs ?_ _, ownsRow_setCell_other h.liv ?_ _, h.ok⟩
  · rw [ownBlock_slice]; exact fun e => h.wb_ne_ra e.symm
  · rw [ownBlock_slice]; exact fun e => h.wb_ne_la e.symm

set_option maxRecDepth 1000000 in
theorem zzAsk_any (ob : Nat) (key : ByteArray) (rev i lo : Int) (st : Bool)
    (h : WInv w B wb p fr at' gn ra rc la lc rs live) (hr : rs.length ≤ 400000) (hl : live.length ≤ 400000)
    (o2 : w.cell? ⟨ob, 2, none⟩ = some (.string key)) (o11 : w.cell? ⟨ob, 11, none⟩ = some (.int .u64 rev)) (o12 : w.cell? ⟨ob, 12, none⟩ = some (.bool st))
    (hoT : ∃ cs f, w.heap[ob]? = some (.cells cs 46 f)) (hlo : Hid (loF st rev = lo)) :
    Calls Try.prog 44 #[.pointer (some ⟨wb, 0, none⟩), .pointer (some ⟨ob, 0, none⟩), .int .i64 i] w fun e w' => e = .returned (.tuple #[]) ∧
      ∃ ra' rc' la' lc', WInv w' B wb key lo i 0 ra' rc' la' lc' (askF rs live key i lo gn).1 (askF rs live key i lo gn).2 ∧ Fr wb ra la w w' ∧ New w.heap.size ra ra' ∧ New w.heap.size la la' := by
  have H := hid (ask_any B wb ob p key fr at' gn rev i lo st ra rc la lc rs live w h hr hl o2 o11 o12 hoT hlo)
  clear h o2 o11 o12 hoT hlo
  go_enter Try.func44, Try.ntmps44
  go_wp2_with fail
  refine H.out.mono ?_
  rintro e w' ⟨rfl, h⟩
  have HH := hid h
  clear h
  go_wp2_with fail
  go_end0
  exact ⟨rfl, HH.out⟩
end

set_option maxRecDepth 1000000 in
theorem newWatcher (w : World) : Calls Try.prog 27 #[.int .i64 0] w fun e w' => e = .returned (.pointer (some ⟨w.heap.size, 0, none⟩)) ∧ WInv w' w.heap.size w.heap.size ByteArray.empty 0 0 0 none 0 none 0 [] [] ∧ Below w.heap.size w w' := by
  go_enter Try.func27, Try.ntmps27
  go_wp2
  go_ret
  refine ⟨rfl, ⟨Nat.le_refl _, ?_, World.ownsRow_nil _ _ _ _, World.ownsRow_nil _ _ _ _, by simp⟩, (Below.refl _ _).alloc (Nat.le_refl _) _⟩
  exact ⟨_, _, heap_alloc_new w _⟩

set_option maxRecDepth 1000000 in
theorem fromOf (rev : Int) (st : Bool) (w : World) : Calls Try.prog 33 #[.int .u64 rev, .bool st] w fun e w' => e = .returned (.int .u64 (loF st rev)) ∧ w' = w := by
  cases st with
  | true =>
    have HE := hid (show IntKind.u64.wrap (rev + 1) = loF true rev from rfl)
    go_enter Try.func33, Try.ntmps33
    go_wp2
    go_ret
    exact ⟨congrArg (fun x => Ending.returned (.int .u64 x)) HE.out, rfl⟩
  | false =>
    by_cases h : rev < 1
    · have HE := hid (show (1 : Int) = loF false rev by unfold loF; rw [if_neg (by decide)]; omega)
      go_enter Try.func33, Try.ntmps33
      go_wp2
      go_ret
      exact ⟨congrArg (fun x => Ending.returned (.int .u64 x)) HE.out, rfl⟩
    · have HE := hid (show rev = loF false rev by unfold loF; rw [if_neg (by decide)]; omega)
      go_enter Try.func33, Try.ntmps33
      go_wp2
      go_ret
      exact ⟨congrArg (fun x => Ending.returned (.int .u64 x)) HE.out, rfl⟩

theorem pfx_byte {s p : ByteArray} (h : pfx s p = true) (k : Nat) (hk : k < p.size) (hs : k < s.size) : s[k] = p[k] := by
  have h1 := pfx_iff.1 h
  have e1 : s[k] = s.data.toList[k]'(by simpa using hs) := rfl
  have e2 : p[k] = p.data.toList[k]'(by simpa using hk) := rfl
  rw [e1, e2]
  obtain ⟨t, ht⟩ := h1
  have : s.data.toList[k]? = p.data.toList[k]? := by
    rw [← ht, List.getElem?_append_left (by simpa using hk)]
  rw [List.getElem?_eq_getElem (by simpa using hs), List.getElem?_eq_getElem (by simpa using hk)] at this
  exact Option.some.inj this

set_option maxRecDepth 1000000 in
set_option maxHeartbeats 400000 in
/-- zzHasPrefix at a string that has it. -/
theorem zzHasPrefix_yes (s p : ByteArray) (w : World) (h : pfx s p = true) (hp : p.size ≤ 1048576) :
    Calls Try.prog 37 #[.string s, .string p] w fun e w' => e = .returned (.bool true) ∧ ∃ nq, w' = w.drewN nq := by
  have hle : p.size ≤ s.size := by have := (pfx_iff.1 h).length_le; simpa using this
  have H := hid h
  clear h
  go_enter Try.func37, Try.ntmps37
  go_wp2
  go_loopw [5] (fun i wr => ∃ k : Nat, k ≤ p.size ∧ i = .int .i64 k ∧ ∃ nq, wr = w.drewN nq) (fun i _ => p.size - (intOf i).toNat)
  case atStart => exact ⟨0, Nat.zero_le _, rfl, 0, rfl⟩
  case round =>
    obtain ⟨k, hk, rfl, nq, rfl⟩ := hrel
    by_cases hlt : k < p.size
    · have hs : k < s.size := by omega
      have hk0 : (0 : Int) ≤ (k : Int) := by omega
      have hk1 : (k : Int) < (p.size : Int) := by omega
      have hk2 : (k : Int) < (s.size : Int) := by omega
      have hb : s[k] = p[k] := pfx_byte H.out k hlt hs
      go_wp2
      go_quiet (fail)
      go_wp2
      go_roundw
      case rel => exact ⟨k + 1, by omega, by go_num, _, rfl⟩
      case measure => simp [intOf]; omega
    · go_wp2
      go_ret
      exact ⟨rfl, _, rfl⟩

end Go.Proofs.Qxb6001222a
