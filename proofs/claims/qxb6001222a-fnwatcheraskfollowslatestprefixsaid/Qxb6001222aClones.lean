/-
  Seat b6001222a: zzCloneStrs (24), zzCloneU64 (25), zzCloneBools (26), each at nil and at every other slice.
-/
import Derived.Test.Qxb6001222aGets
namespace Go.Proofs.Qxb6001222a
open Go.RowKit Go.WideShapes

theorem Try.info9 : (Try.prog.info? 9).map (fun i => (i.zero, i.size, i.bytes)) = some (some (.string ByteArray.empty), 1, 16) := by kernel_rfl

theorem q47 : ∀ (w : World) (a : Option Addr) (n c n' c' : Nat), (binOp .eql 47 (.slice a n c) (.slice none n' c')).run Try.prog w = .ok (.bool a.isNone) w :=
  fun w a n c n' c' => Lib.run_eql_slice_nil w 47 9 a n c n' c' Try.underlying47

set_option maxRecDepth 1000000 in
theorem cloneStrs_nil (w : World) : Calls Try.prog 24 #[.slice none 0 0] w fun e w' => e = .returned (.slice none 0 0) ∧ w' = w := by
  have q := q47
  go_enter Try.func24, Try.ntmps24
  go_wp2
  go_ret
  exact ⟨rfl, rfl⟩

set_option maxRecDepth 1000000 in
set_option maxHeartbeats 400000 in
theorem cloneStrs_some (x : Addr) (n c : Nat) (zs : List ByteArray) (w : World) (hl : zs.length = n) (hn : n ≤ 1048576)
    (hc : ∀ i, i < n → w.cell? (x.add i) = some (.string (zs.getD i ByteArray.empty))) :
    Calls Try.prog 24 #[.slice (some x) n c] w fun e w' => e = .returned (.slice (some ⟨w.heap.size, 0, none⟩) n n) ∧
      w'.ownsRow w.heap.size 9 1 (.slice (some ⟨w.heap.size, 0, none⟩) n n) n (zs.map (Value.string)) ∧ Below w.heap.size w w' := by
  obtain ⟨i0, hi, hz0, hz1, hz2⟩ := info_parts Try.info9
  subst hl
  have q := q47
  go_enter Try.func24, Try.ntmps24
  go_wp2_with (at_make; refine wpList_make_full _ rfl _ _ 47 rfl w.heap.size 9 i0 (.string ByteArray.empty) 1 Try.underlying47 hi hz0 hz1 _ _ _ _ zs.length rfl rfl rfl rfl (by rw [hz2]; omega) (by unfold maxLen; omega) (Nat.le_refl _) ?_)
  intro w1 hown0 hgr
  have hb : Below w.heap.size w w1 := (Below.refl _ _).grown hgr (Nat.le_refl _) (by intro k h; cases h)
  have hown : w1.ownsRow w.heap.size 9 1 (.slice (some ⟨w.heap.size, 0, none⟩) zs.length zs.length) zs.length (half (Value.string) (.string ByteArray.empty) zs 0) := by
    rw [half_zero, ← toList_madeCells_one]; exact hown0
  clear hown0 hgr hi hz0 hz1 hz2
  go_wp2
  go_loopw [4] (fun i wr => ∃ k : Nat, k ≤ zs.length ∧ i = .int .i64 k ∧
      wr.ownsRow w.heap.size 9 1 (.slice (some ⟨w.heap.size, 0, none⟩) zs.length zs.length) zs.length (half (Value.string) (.string ByteArray.empty) zs k) ∧ Below w.heap.size w wr)
    (fun i _ => zs.length - (intOf i).toNat)
  case atStart => exact ⟨0, Nat.zero_le _, rfl, hown, hb⟩
  case round =>
    obtain ⟨k, hk, rfl, hownr, hbr⟩ := hrel
    clear hown hb
    by_cases hlt : k < zs.length
    · obtain ⟨b, off, spot⟩ := x
      have hck := hc k hlt
      have hspot : spot = none := by simpa [Addr.add] using World.cell?_spot (hc 0 (by omega))
      subst hspot
      rw [add_plain] at hck
      have hbB : b < w.heap.size := cell_lt hck
      obtain ⟨zk, hzk⟩ : ∃ zk, zs[k] = zk := ⟨_, rfl⟩
      have e : zs.getD k ByteArray.empty = zk := by rw [← hzk]; simp [hlt]
      rw [e] at hck
      have hcr : wr.cell? ⟨b, off + k, none⟩ = some (.string zk) := (hbr.cell (by exact hbB)).trans hck
      have hcg : wr.cell? ⟨w.heap.size, k, none⟩ = some (.string ByteArray.empty) := by rw [hownr.cellAt k (by omega)]; exact half_at _ _ _ _ hlt
      have hfg : wr.frozen? ⟨w.heap.size, k, none⟩ = false := hownr.frozenAt k
      have HS := hid (hownr.stored k (.string zk))
      have HB := hid hbr
      have HL := hid (half_step (Value.string) (.string ByteArray.empty) zs k hlt)
      rw [hzk] at HL
      clear hownr hbr hc hck hzk e
      go_wp2
      go_roundw
      case rel => exact ⟨k + 1, by omega, by go_num, by rw [← HL.out]; exact HS.out.1, HB.out.setCell (Nat.le_refl _) _⟩
      case measure => simp [intOf]; omega
    · go_wp2
      go_ret
      have hkl : k = zs.length := by omega
      subst hkl
      rw [half_full] at hownr
      exact ⟨rfl, hownr, hbr⟩

/-- A slice that came in: nil, or it leads to a row. -/
theorem cloneStrs_any (a : Option Addr) (n c : Nat) (zs : List ByteArray) (w : World) (hl : zs.length = n) (hn : n ≤ 1048576)
    (hc : (a = none ∧ n = 0 ∧ c = 0) ∨ ∃ x, a = some x ∧ ∀ i, i < n → w.cell? (x.add i) = some (.string (zs.getD i ByteArray.empty))) :
    Calls Try.prog 24 #[.slice a n c] w fun e w' => ∃ a' c', e = .returned (.slice a' n c') ∧ w'.ownsRow w.heap.size 9 1 (.slice a' n c') n (zs.map (Value.string)) ∧ Below w.heap.size w w' := by
  rcases hc with ⟨rfl, rfl, rfl⟩ | ⟨x, rfl, hc⟩
  · obtain rfl : zs = [] := List.eq_nil_of_length_eq_zero hl
    refine (cloneStrs_nil w).mono ?_
    rintro e w' ⟨rfl, rfl⟩
    exact ⟨none, 0, rfl, World.ownsRow_nil _ _ _ _, Below.refl _ _⟩
  · refine (cloneStrs_some x n c zs w hl hn hc).mono ?_
    rintro e w' ⟨rfl, h1, h2⟩
    exact ⟨_, _, rfl, h1, h2⟩

theorem Try.info38 : (Try.prog.info? 38).map (fun i => (i.zero, i.size, i.bytes)) = some (some (.int .u64 0), 1, 8) := by kernel_rfl

theorem q48 : ∀ (w : World) (a : Option Addr) (n c n' c' : Nat), (binOp .eql 48 (.slice a n c) (.slice none n' c')).run Try.prog w = .ok (.bool a.isNone) w :=
  fun w a n c n' c' => Lib.run_eql_slice_nil w 48 38 a n c n' c' Try.underlying48

set_option maxRecDepth 1000000 in
theorem cloneU64_nil (w : World) : Calls Try.prog 25 #[.slice none 0 0] w fun e w' => e = .returned (.slice none 0 0) ∧ w' = w := by
  have q := q48
  go_enter Try.func25, Try.ntmps25
  go_wp2
  go_ret
  exact ⟨rfl, rfl⟩

set_option maxRecDepth 1000000 in
set_option maxHeartbeats 400000 in
theorem cloneU64_some (x : Addr) (n c : Nat) (zs : List Int) (w : World) (hl : zs.length = n) (hn : n ≤ 1048576)
    (hc : ∀ i, i < n → w.cell? (x.add i) = some (.int .u64 (zs.getD i 0))) :
    Calls Try.prog 25 #[.slice (some x) n c] w fun e w' => e = .returned (.slice (some ⟨w.heap.size, 0, none⟩) n n) ∧
      w'.ownsRow w.heap.size 38 1 (.slice (some ⟨w.heap.size, 0, none⟩) n n) n (zs.map (Value.int .u64)) ∧ Below w.heap.size w w' := by
  obtain ⟨i0, hi, hz0, hz1, hz2⟩ := info_parts Try.info38
  subst hl
  have q := q48
  go_enter Try.func25, Try.ntmps25
  go_wp2_with (at_make; refine wpList_make_full _ rfl _ _ 48 rfl w.heap.size 38 i0 (.int .u64 0) 1 Try.underlying48 hi hz0 hz1 _ _ _ _ zs.length rfl rfl rfl rfl (by rw [hz2]; omega) (by unfold maxLen; omega) (Nat.le_refl _) ?_)
  intro w1 hown0 hgr
  have hb : Below w.heap.size w w1 := (Below.refl _ _).grown hgr (Nat.le_refl _) (by intro k h; cases h)
  have hown : w1.ownsRow w.heap.size 38 1 (.slice (some ⟨w.heap.size, 0, none⟩) zs.length zs.length) zs.length (half (Value.int .u64) (.int .u64 0) zs 0) := by
    rw [half_zero, ← toList_madeCells_one]; exact hown0
  clear hown0 hgr hi hz0 hz1 hz2
  go_wp2
  go_loopw [4] (fun i wr => ∃ k : Nat, k ≤ zs.length ∧ i = .int .i64 k ∧
      wr.ownsRow w.heap.size 38 1 (.slice (some ⟨w.heap.size, 0, none⟩) zs.length zs.length) zs.length (half (Value.int .u64) (.int .u64 0) zs k) ∧ Below w.heap.size w wr)
    (fun i _ => zs.length - (intOf i).toNat)
  case atStart => exact ⟨0, Nat.zero_le _, rfl, hown, hb⟩
  case round =>
    obtain ⟨k, hk, rfl, hownr, hbr⟩ := hrel
    clear hown hb
    by_cases hlt : k < zs.length
    · obtain ⟨b, off, spot⟩ := x
      have hck := hc k hlt
      have hspot : spot = none := by simpa [Addr.add] using World.cell?_spot (hc 0 (by omega))
      subst hspot
      rw [add_plain] at hck
      have hbB : b < w.heap.size := cell_lt hck
      obtain ⟨zk, hzk⟩ : ∃ zk, zs[k] = zk := ⟨_, rfl⟩
      have e : zs.getD k 0 = zk := by rw [← hzk]; simp [hlt]
      rw [e] at hck
      have hcr : wr.cell? ⟨b, off + k, none⟩ = some (.int .u64 zk) := (hbr.cell (by exact hbB)).trans hck
      have hcg : wr.cell? ⟨w.heap.size, k, none⟩ = some (.int .u64 0) := by rw [hownr.cellAt k (by omega)]; exact half_at _ _ _ _ hlt
      have hfg : wr.frozen? ⟨w.heap.size, k, none⟩ = false := hownr.frozenAt k
      have HS := hid (hownr.stored k (.int .u64 zk))
      have HB := hid hbr
      have HL := hid (half_step (Value.int .u64) (.int .u64 0) zs k hlt)
      rw [hzk] at HL
      clear hownr hbr hc hck hzk e
      go_wp2
      go_roundw
      case rel => exact ⟨k + 1, by omega, by go_num, by rw [← HL.out]; exact HS.out.1, HB.out.setCell (Nat.le_refl _) _⟩
      case measure => simp [intOf]; omega
    · go_wp2
      go_ret
      have hkl : k = zs.length := by omega
      subst hkl
      rw [half_full] at hownr
      exact ⟨rfl, hownr, hbr⟩

/-- A slice that came in: nil, or it leads to a row. -/
theorem cloneU64_any (a : Option Addr) (n c : Nat) (zs : List Int) (w : World) (hl : zs.length = n) (hn : n ≤ 1048576)
    (hc : (a = none ∧ n = 0 ∧ c = 0) ∨ ∃ x, a = some x ∧ ∀ i, i < n → w.cell? (x.add i) = some (.int .u64 (zs.getD i 0))) :
    Calls Try.prog 25 #[.slice a n c] w fun e w' => ∃ a' c', e = .returned (.slice a' n c') ∧ w'.ownsRow w.heap.size 38 1 (.slice a' n c') n (zs.map (Value.int .u64)) ∧ Below w.heap.size w w' := by
  rcases hc with ⟨rfl, rfl, rfl⟩ | ⟨x, rfl, hc⟩
  · obtain rfl : zs = [] := List.eq_nil_of_length_eq_zero hl
    refine (cloneU64_nil w).mono ?_
    rintro e w' ⟨rfl, rfl⟩
    exact ⟨none, 0, rfl, World.ownsRow_nil _ _ _ _, Below.refl _ _⟩
  · refine (cloneU64_some x n c zs w hl hn hc).mono ?_
    rintro e w' ⟨rfl, h1, h2⟩
    exact ⟨_, _, rfl, h1, h2⟩

theorem Try.info4 : (Try.prog.info? 4).map (fun i => (i.zero, i.size, i.bytes)) = some (some (.bool false), 1, 1) := by kernel_rfl

theorem q49 : ∀ (w : World) (a : Option Addr) (n c n' c' : Nat), (binOp .eql 49 (.slice a n c) (.slice none n' c')).run Try.prog w = .ok (.bool a.isNone) w :=
  fun w a n c n' c' => Lib.run_eql_slice_nil w 49 4 a n c n' c' Try.underlying49

set_option maxRecDepth 1000000 in
theorem cloneBools_nil (w : World) : Calls Try.prog 26 #[.slice none 0 0] w fun e w' => e = .returned (.slice none 0 0) ∧ w' = w := by
  have q := q49
  go_enter Try.func26, Try.ntmps26
  go_wp2
  go_ret
  exact ⟨rfl, rfl⟩

set_option maxRecDepth 1000000 in
set_option maxHeartbeats 400000 in
theorem cloneBools_some (x : Addr) (n c : Nat) (zs : List Bool) (w : World) (hl : zs.length = n) (hn : n ≤ 1048576)
    (hc : ∀ i, i < n → w.cell? (x.add i) = some (.bool (zs.getD i false))) :
    Calls Try.prog 26 #[.slice (some x) n c] w fun e w' => e = .returned (.slice (some ⟨w.heap.size, 0, none⟩) n n) ∧
      w'.ownsRow w.heap.size 4 1 (.slice (some ⟨w.heap.size, 0, none⟩) n n) n (zs.map (Value.bool)) ∧ Below w.heap.size w w' := by
  obtain ⟨i0, hi, hz0, hz1, hz2⟩ := info_parts Try.info4
  subst hl
  have q := q49
  go_enter Try.func26, Try.ntmps26
  go_wp2_with (at_make; refine wpList_make_full _ rfl _ _ 49 rfl w.heap.size 4 i0 (.bool false) 1 Try.underlying49 hi hz0 hz1 _ _ _ _ zs.length rfl rfl rfl rfl (by rw [hz2]; omega) (by unfold maxLen; omega) (Nat.le_refl _) ?_)
  intro w1 hown0 hgr
  have hb : Below w.heap.size w w1 := (Below.refl _ _).grown hgr (Nat.le_refl _) (by intro k h; cases h)
  have hown : w1.ownsRow w.heap.size 4 1 (.slice (some ⟨w.heap.size, 0, none⟩) zs.length zs.length) zs.length (half (Value.bool) (.bool false) zs 0) := by
    rw [half_zero, ← toList_madeCells_one]; exact hown0
  clear hown0 hgr hi hz0 hz1 hz2
  go_wp2
  go_loopw [4] (fun i wr => ∃ k : Nat, k ≤ zs.length ∧ i = .int .i64 k ∧
      wr.ownsRow w.heap.size 4 1 (.slice (some ⟨w.heap.size, 0, none⟩) zs.length zs.length) zs.length (half (Value.bool) (.bool false) zs k) ∧ Below w.heap.size w wr)
    (fun i _ => zs.length - (intOf i).toNat)
  case atStart => exact ⟨0, Nat.zero_le _, rfl, hown, hb⟩
  case round =>
    obtain ⟨k, hk, rfl, hownr, hbr⟩ := hrel
    clear hown hb
    by_cases hlt : k < zs.length
    · obtain ⟨b, off, spot⟩ := x
      have hck := hc k hlt
      have hspot : spot = none := by simpa [Addr.add] using World.cell?_spot (hc 0 (by omega))
      subst hspot
      rw [add_plain] at hck
      have hbB : b < w.heap.size := cell_lt hck
      obtain ⟨zk, hzk⟩ : ∃ zk, zs[k] = zk := ⟨_, rfl⟩
      have e : zs.getD k false = zk := by rw [← hzk]; simp [hlt]
      rw [e] at hck
      have hcr : wr.cell? ⟨b, off + k, none⟩ = some (.bool zk) := (hbr.cell (by exact hbB)).trans hck
      have hcg : wr.cell? ⟨w.heap.size, k, none⟩ = some (.bool false) := by rw [hownr.cellAt k (by omega)]; exact half_at _ _ _ _ hlt
      have hfg : wr.frozen? ⟨w.heap.size, k, none⟩ = false := hownr.frozenAt k
      have HS := hid (hownr.stored k (.bool zk))
      have HB := hid hbr
      have HL := hid (half_step (Value.bool) (.bool false) zs k hlt)
      rw [hzk] at HL
      clear hownr hbr hc hck hzk e
      go_wp2
      go_roundw
      case rel => exact ⟨k + 1, by omega, by go_num, by rw [← HL.out]; exact HS.out.1, HB.out.setCell (Nat.le_refl _) _⟩
      case measure => simp [intOf]; omega
    · go_wp2
      go_ret
      have hkl : k = zs.length := by omega
      subst hkl
      rw [half_full] at hownr
      exact ⟨rfl, hownr, hbr⟩

/-- A slice that came in: nil, or it leads to a row. -/
theorem cloneBools_any (a : Option Addr) (n c : Nat) (zs : List Bool) (w : World) (hl : zs.length = n) (hn : n ≤ 1048576)
    (hc : (a = none ∧ n = 0 ∧ c = 0) ∨ ∃ x, a = some x ∧ ∀ i, i < n → w.cell? (x.add i) = some (.bool (zs.getD i false))) :
    Calls Try.prog 26 #[.slice a n c] w fun e w' => ∃ a' c', e = .returned (.slice a' n c') ∧ w'.ownsRow w.heap.size 4 1 (.slice a' n c') n (zs.map (Value.bool)) ∧ Below w.heap.size w w' := by
  rcases hc with ⟨rfl, rfl, rfl⟩ | ⟨x, rfl, hc⟩
  · obtain rfl : zs = [] := List.eq_nil_of_length_eq_zero hl
    refine (cloneBools_nil w).mono ?_
    rintro e w' ⟨rfl, rfl⟩
    exact ⟨none, 0, rfl, World.ownsRow_nil _ _ _ _, Below.refl _ _⟩
  · refine (cloneBools_some x n c zs w hl hn hc).mono ?_
    rintro e w' ⟨rfl, h1, h2⟩
    exact ⟨_, _, rfl, h1, h2⟩

end Go.Proofs.Qxb6001222a
