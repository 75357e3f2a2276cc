/-
  Seat b6001222a: rows of integers: zzCloneInts (12), sameInts (45), ZZSameInts (13), zzBytes_FnSameIntsReflexiveOnCopy (11).
-/
import Derived.Test.Qxb6001222aRows
import Derived.WalkKit
import Derived.WalkSpells
import Derived.Below
import Derived.Lib.SliceRun
import Derived.Deep.QuietTactic
import Derived.BigQuiet
namespace Go.Proofs.Qxb6001222a
open Go.RowKit Go.WideShapes

theorem Try.info3 : (Try.prog.info? 3).map (fun i => (i.zero, i.size, i.bytes)) = some (some (.int .i64 0), 1, 8) := by kernel_rfl

theorem hid {p : Prop} (h : p) : Hid p := h

theorem ret_bool {a b : Bool} (h : a = b) : Ending.returned (.bool a) = .returned (.bool b) := by rw [h]

/-! ### a row half copied: the first k elements, zeros behind -/
def half {α : Type} (f : α → Value) (z : Value) (xs : List α) (k : Nat) : List Value := (xs.take k).map f ++ List.replicate (xs.length - k) z

theorem half_length {α : Type} (f : α → Value) (z : Value) (xs : List α) (k : Nat) (hk : k ≤ xs.length) : (half f z xs k).length = xs.length := by
  simp [half]; omega

theorem half_zero {α : Type} (f : α → Value) (z : Value) (xs : List α) : half f z xs 0 = List.replicate xs.length z := by simp [half]

theorem half_full {α : Type} (f : α → Value) (z : Value) (xs : List α) : half f z xs xs.length = xs.map f := by simp [half]

theorem half_at {α : Type} (f : α → Value) (z : Value) (xs : List α) (k : Nat) (hk : k < xs.length) : (half f z xs k)[k]? = some z := by
  unfold half
  rw [List.getElem?_append_right (by simp; omega)]
  simp only [List.length_map, List.length_take]
  rw [List.getElem?_replicate, if_pos (by omega)]

theorem half_step {α : Type} (f : α → Value) (z : Value) (xs : List α) (k : Nat) (hk : k < xs.length) : (half f z xs k).set k (f xs[k]) = half f z xs (k + 1) := by
  unfold half
  have hl : ((xs.take k).map f).length = k := by simp; omega
  rw [List.set_append_right _ _ (by omega), hl, Nat.sub_self, List.take_succ_eq_append_getElem hk, List.map_append, List.append_assoc]
  congr 1
  obtain ⟨m, hm⟩ : ∃ m, xs.length - k = m + 1 := ⟨xs.length - k - 1, by omega⟩
  have hm' : xs.length - (k + 1) = m := by omega
  rw [hm, hm', List.replicate_succ]
  simp

theorem q22 : ∀ (w : World) (a : Option Addr) (n c n' c' : Nat), (binOp .eql 22 (.slice a n c) (.slice none n' c')).run Try.prog w = .ok (.bool a.isNone) w :=
  fun w a n c n' c' => Lib.run_eql_slice_nil w 22 3 a n c n' c' Try.underlying22

theorem cell_lt {w : World} {b o : Nat} {v : Value} (h : w.cell? ⟨b, o, none⟩ = some v) : b < w.heap.size := by
  by_cases hb : b < w.heap.size
  · exact hb
  · have : w.heap[b]? = none := by simp; omega
    simp [World.cell?, this] at h

set_option maxRecDepth 1000000 in
theorem cloneInts_nil (w : World) : Calls Try.prog 12 #[.slice none 0 0] w fun e w' => e = .returned (.slice none 0 0) ∧ w' = w := by
  have q := q22
  go_enter Try.func12, Try.ntmps12
  go_wp2
  go_ret
  exact ⟨rfl, rfl⟩

set_option maxRecDepth 1000000 in
set_option maxHeartbeats 400000 in
theorem cloneInts_some (x : Addr) (n c : Nat) (zs : List Int) (w : World) (hl : zs.length = n) (hn : n ≤ 1048576)
    (hc : ∀ i, i < n → w.cell? (x.add i) = some (.int .i64 (zs.getD i 0))) :
    Calls Try.prog 12 #[.slice (some x) n c] w fun e w' => e = .returned (.slice (some ⟨w.heap.size, 0, none⟩) n n) ∧
      w'.ownsRow w.heap.size 3 1 (.slice (some ⟨w.heap.size, 0, none⟩) n n) n (zs.map (Value.int .i64)) ∧ Below w.heap.size w w' := by
  obtain ⟨i0, hi, hz0, hz1, hz2⟩ := info_parts Try.info3
  subst hl
  have q := q22
  go_enter Try.func12, Try.ntmps12
  go_wp2_with (at_make; refine wpList_make_full _ rfl _ _ 22 rfl w.heap.size 3 i0 (.int .i64 0) 1 Try.underlying22 hi hz0 hz1 _ _ _ _ zs.length rfl rfl rfl rfl (by rw [hz2]; omega) (by unfold maxLen; omega) (Nat.le_refl _) ?_)
  intro w1 hown0 hgr
  have hb : Below w.heap.size w w1 := (Below.refl _ _).grown hgr (Nat.le_refl _) (by intro k h; cases h)
  have hown : w1.ownsRow w.heap.size 3 1 (.slice (some ⟨w.heap.size, 0, none⟩) zs.length zs.length) zs.length (half (Value.int .i64) (.int .i64 0) zs 0) := by
    rw [half_zero, ← toList_madeCells_one]; exact hown0
  clear hown0 hgr hi hz0 hz1 hz2
  go_wp2
  go_loopw [4] (fun i wr => ∃ k : Nat, k ≤ zs.length ∧ i = .int .i64 k ∧
      wr.ownsRow w.heap.size 3 1 (.slice (some ⟨w.heap.size, 0, none⟩) zs.length zs.length) zs.length (half (Value.int .i64) (.int .i64 0) zs k) ∧ Below w.heap.size w wr)
    (fun i _ => zs.length - (intOf i).toNat)
  case atStart => exact ⟨0, Nat.zero_le _, rfl, hown, hb⟩
  case round =>
    obtain ⟨k, hk, rfl, hownr, hbr⟩ := hrel
    clear hown hb
    by_cases hlt : k < zs.length
    · obtain ⟨b, off, spot⟩ := x
      have hck := hc k hlt
      have hspot : spot = none := by simpa [Addr.add] using World.cell?_spot (hc 0 (by omega))
      subst hspot
      rw [add_plain] at hck
      have hbB : b < w.heap.size := cell_lt hck
      have hcr : wr.cell? ⟨b, off + k, none⟩ = some (.int .i64 (zs.getD k 0)) := (hbr.cell (by exact hbB)).trans hck
      have hcg : wr.cell? ⟨w.heap.size, k, none⟩ = some (.int .i64 0) := by rw [hownr.cellAt k (by omega)]; exact half_at _ _ _ _ hlt
      have hfg : wr.frozen? ⟨w.heap.size, k, none⟩ = false := hownr.frozenAt k
      have HS := hid (hownr.stored k (.int .i64 zs[k]))
      have HB := hid (hbr)
      have HL := hid (half_step (Value.int .i64) (.int .i64 0) zs k hlt)
      clear hownr hbr hc hck
      go_wp2
      go_roundw
      case rel => exact ⟨k + 1, by omega, by go_num, by rw [← HL.out]; exact HS.out.1, HB.out.setCell (Nat.le_refl _) _⟩
      case measure => simp [intOf]; omega
    · go_wp2
      go_ret
      have hkl : k = zs.length := by omega
      subst hkl
      rw [half_full] at hownr
      exact ⟨rfl, hownr, hbr⟩

set_option maxRecDepth 1000000 in
set_option maxHeartbeats 400000 in
/-- sameInts at two rows that hold the same numbers. -/
theorem sameInts_same (xa xb : Option Addr) (n ca cb : Nat) (zs : List Int) (w : World) (hn : n ≤ 1048576)
    (ha : ∀ i, i < n → ∃ b off, xa = some ⟨b, off, none⟩ ∧ w.cell? ⟨b, off + i, none⟩ = some (.int .i64 (zs.getD i 0)))
    (hb : ∀ i, i < n → ∃ b off, xb = some ⟨b, off, none⟩ ∧ w.cell? ⟨b, off + i, none⟩ = some (.int .i64 (zs.getD i 0))) :
    Calls Try.prog 45 #[.slice xa n ca, .slice xb n cb] w fun e w' => e = .returned (.bool true) ∧ ∃ nq, w' = w.drewN nq := by
  by_cases h0 : n = 0
  · subst h0
    clear ha hb
    go_enter Try.func45, Try.ntmps45
    go_wp2
    go_loop [4, 5, 13] (fun _ _ i => i = .int .i64 0) (fun _ _ _ => 0)
    case atStart => rfl
    case round =>
      subst hrel
      go_wp2
      go_ret
      exact ⟨rfl, 0, rfl⟩
  · obtain ⟨b1, o1, rfl, _⟩ := ha 0 (by omega)
    obtain ⟨b2, o2, rfl, _⟩ := hb 0 (by omega)
    have ha' : ∀ i, i < n → w.cell? ⟨b1, o1 + i, none⟩ = some (.int .i64 (zs.getD i 0)) := by
      intro i hi
      obtain ⟨b, o, e, h⟩ := ha i hi
      cases e; exact h
    have hb' : ∀ i, i < n → w.cell? ⟨b2, o2 + i, none⟩ = some (.int .i64 (zs.getD i 0)) := by
      intro i hi
      obtain ⟨b, o, e, h⟩ := hb i hi
      cases e; exact h
    clear ha hb
    go_enter Try.func45, Try.ntmps45
    go_wp2
    go_loopw [4, 5, 13] (fun _ _ i wr => ∃ k : Nat, k ≤ n ∧ i = .int .i64 k ∧ ∃ nq, wr = w.drewN nq) (fun _ _ i _ => n - (intOf i).toNat)
    case atStart => exact ⟨0, Nat.zero_le _, rfl, 0, rfl⟩
    case round =>
      obtain ⟨k, hk, rfl, nq, rfl⟩ := hrel
      by_cases hlt : k < n
      · have h1 := ha' k hlt
        have h2 := hb' k hlt
        have hlt' : (k : Int) < (n : Int) := by omega
        clear ha' hb'
        go_wp2
        go_quiet (fail)
        go_wp2
        go_roundw
        case rel => exact ⟨k + 1, by omega, by go_num, _, rfl⟩
        case measure => simp [intOf]; omega
      · clear ha' hb'
        go_wp2
        go_ret
        exact ⟨rfl, _, rfl⟩

set_option maxRecDepth 1000000 in
theorem zzSameInts_same (xa xb : Option Addr) (n ca cb : Nat) (zs : List Int) (w : World) (hn : n ≤ 1048576)
    (ha : ∀ i, i < n → ∃ b off, xa = some ⟨b, off, none⟩ ∧ w.cell? ⟨b, off + i, none⟩ = some (.int .i64 (zs.getD i 0)))
    (hb : ∀ i, i < n → ∃ b off, xb = some ⟨b, off, none⟩ ∧ w.cell? ⟨b, off + i, none⟩ = some (.int .i64 (zs.getD i 0))) :
    Calls Try.prog 13 #[.slice xa n ca, .slice xb n cb] w fun e w' => e = .returned (.bool true) ∧ ∃ nq, w' = w.drewN nq := by
  have H := hid (sameInts_same xa xb n ca cb zs w hn ha hb)
  clear ha hb
  go_enter Try.func13, Try.ntmps13
  go_wp2_with fail
  refine H.out.mono ?_
  rintro e w' ⟨rfl, nq, rfl⟩
  go_wp2_with fail
  go_ret
  exact ⟨rfl, _, rfl⟩

set_option maxRecDepth 1000000 in
theorem zzBytesInts (a : Option Addr) (n c : Nat) (w : World) (hm : n ≤ maxLen) :
    Calls Try.prog 11 #[.slice a n c] w fun e w' => e = .returned (.bool (decide (n ≤ 1048576))) ∧ w' = w := by
  unfold maxLen at hm
  by_cases h : n ≤ 1048576
  · rw [decide_eq_true h]
    go_enter Try.func11, Try.ntmps11
    go_wp2
    go_ret
    exact ⟨rfl, rfl⟩
  · rw [decide_eq_false h]
    go_enter Try.func11, Try.ntmps11
    go_wp2
    go_ret
    exact ⟨rfl, rfl⟩

end Go.Proofs.Qxb6001222a
