/-
  Seat b6001556a: zzCopyRoom (7), zzSpare (8), zzSame (10), packetCount (14), zzBytes_.. (6, 12).
-/
import Derived.Test.Qxb6001556aBase
namespace Go.Proofs.Qxb6001556a
open Go.RowKit Go.WideShapes

set_option maxRecDepth 1000000 in
set_option maxHeartbeats 400000 in
theorem copyRoom_any (a : Option Addr) (n c spare : Nat) (xs : List Int) (w : World) (hI : InRow w a n c xs) (hn : n ≤ 4194304) (hs : spare ≤ 4194304) :
    Calls Try.prog 7 #[.slice a n c, .int .i64 spare] w fun e w' => ∃ a' c', e = .returned (.slice a' n c') ∧ c' ≤ n + spare ∧ w'.ownsRow w.heap.size 5 1 (.slice a' n c') n (xs.map by8) ∧ Below w.heap.size w w' := by
  obtain ⟨i0, hi, hz0, hz1, hz2⟩ := info_parts Try.info5
  obtain rfl := hI.1
  have HI := hid hI
  have q := q22
  cases hb : a.isNone with
  | false =>
    clear hI
    go_enter Try.func7, Try.ntmps7
    go_wp2_with (at_make; go_must (refine wpList_make_room _ rfl _ _ 22 rfl 5 i0 (.int .u8 0) Try.underlying22 hi hz0 hz1 rfl _ _ _ _ xs.length (xs.length + spare) rfl rfl rfl (by omega) (by omega) (by rw [hz2]; omega) (by unfold maxLen; omega) ?_))
    intro w1 hown0 _ hgr
    have hb : Below w.heap.size w w1 := (Below.refl _ _).grown hgr (Nat.le_refl _) (by intro k h; cases h)
    have hown : w1.ownsRow w.heap.size 5 1 (.slice (some ⟨w.heap.size, 0, none⟩) xs.length (xs.length + spare)) xs.length (half by8 (.int .u8 0) xs 0) := by
      rw [half_zero]; exact hown0
    clear hown0 hgr hi hz0 hz1 hz2
    go_wp2
    go_loopw [6] (fun i wr => ∃ k : Nat, k ≤ xs.length ∧ i = .int .i64 k ∧
        wr.ownsRow w.heap.size 5 1 (.slice (some ⟨w.heap.size, 0, none⟩) xs.length (xs.length + spare)) xs.length (half by8 (.int .u8 0) xs k) ∧ Below w.heap.size w wr)
      (fun i _ => xs.length - (intOf i).toNat)
    case atStart => exact ⟨0, Nat.zero_le _, rfl, hown, hb⟩
    case round =>
      obtain ⟨k, hk, rfl, hownr, hbr⟩ := hrel
      clear hown hb
      by_cases hlt : k < xs.length
      · obtain ⟨b, off, rfl, hck⟩ := HI.out.at k hlt
        have hbB : b < w.heap.size := cell_lt hck
        obtain ⟨zk, hzk⟩ : ∃ zk, xs[k] = zk := ⟨_, rfl⟩
        have e : xs.getD k 0 = zk := by rw [← hzk]; simp [hlt]
        rw [e] at hck
        have hcr : wr.cell? ⟨b, off + k, none⟩ = some (.int .u8 zk) := (hbr.cell (by exact hbB)).trans hck
        have hcg : wr.cell? ⟨w.heap.size, k, none⟩ = some (.int .u8 0) := by rw [hownr.cellAt k (by omega)]; exact half_at _ _ _ _ hlt
        have hfg : wr.frozen? ⟨w.heap.size, k, none⟩ = false := hownr.frozenAt k
        have HS := hid (hownr.stored k (.int .u8 zk))
        have HB := hid hbr
        have HL := hid (half_step by8 (.int .u8 0) xs k hlt)
        rw [hzk] at HL
        clear hownr hbr hck hzk e
        go_wp2
        go_roundw
        case rel => exact ⟨k + 1, by omega, by go_num, by rw [← HL.out]; exact HS.out.1, HB.out.setCell (Nat.le_refl _) _⟩
        case measure => simp [intOf]; omega
      · go_wp2
        go_ret
        have hkl : k = xs.length := by omega
        subst hkl
        rw [half_full] at hownr
        exact ⟨_, _, rfl, Nat.le_refl _, hownr, hbr⟩
  | true =>
    by_cases h0 : spare = 0
    · obtain rfl : a = none := by simpa using hb
      subst h0
      rcases hI.2 with ⟨_, h1, rfl⟩ | ⟨x, hx, _⟩
      · obtain rfl : xs = [] := List.eq_nil_of_length_eq_zero h1
        clear hI HI hi hz0 hz1 hz2
        go_enter Try.func7, Try.ntmps7
        go_wp2
        go_ret
        exact ⟨none, 0, rfl, by simp, World.ownsRow_nil _ _ _ _, Below.refl _ _⟩
      · cases hx
    clear hI
    have h0I : ((spare : Int) == 0) = false := by simp [h0]
    go_enter Try.func7, Try.ntmps7
    go_wp2_with (at_make; go_must (refine wpList_make_room _ rfl _ _ 22 rfl 5 i0 (.int .u8 0) Try.underlying22 hi hz0 hz1 rfl _ _ _ _ xs.length (xs.length + spare) rfl rfl rfl (by omega) (by omega) (by rw [hz2]; omega) (by unfold maxLen; omega) ?_))
    intro w1 hown0 _ hgr
    have hb : Below w.heap.size w w1 := (Below.refl _ _).grown hgr (Nat.le_refl _) (by intro k h; cases h)
    have hown : w1.ownsRow w.heap.size 5 1 (.slice (some ⟨w.heap.size, 0, none⟩) xs.length (xs.length + spare)) xs.length (half by8 (.int .u8 0) xs 0) := by
      rw [half_zero]; exact hown0
    clear hown0 hgr hi hz0 hz1 hz2
    go_wp2
    go_loopw [6] (fun i wr => ∃ k : Nat, k ≤ xs.length ∧ i = .int .i64 k ∧
        wr.ownsRow w.heap.size 5 1 (.slice (some ⟨w.heap.size, 0, none⟩) xs.length (xs.length + spare)) xs.length (half by8 (.int .u8 0) xs k) ∧ Below w.heap.size w wr)
      (fun i _ => xs.length - (intOf i).toNat)
    case atStart => exact ⟨0, Nat.zero_le _, rfl, hown, hb⟩
    case round =>
      obtain ⟨k, hk, rfl, hownr, hbr⟩ := hrel
      clear hown hb
      by_cases hlt : k < xs.length
      · obtain ⟨b, off, rfl, hck⟩ := HI.out.at k hlt
        have hbB : b < w.heap.size := cell_lt hck
        obtain ⟨zk, hzk⟩ : ∃ zk, xs[k] = zk := ⟨_, rfl⟩
        have e : xs.getD k 0 = zk := by rw [← hzk]; simp [hlt]
        rw [e] at hck
        have hcr : wr.cell? ⟨b, off + k, none⟩ = some (.int .u8 zk) := (hbr.cell (by exact hbB)).trans hck
        have hcg : wr.cell? ⟨w.heap.size, k, none⟩ = some (.int .u8 0) := by rw [hownr.cellAt k (by omega)]; exact half_at _ _ _ _ hlt
        have hfg : wr.frozen? ⟨w.heap.size, k, none⟩ = false := hownr.frozenAt k
        have HS := hid (hownr.stored k (.int .u8 zk))
        have HB := hid hbr
        have HL := hid (half_step by8 (.int .u8 0) xs k hlt)
        rw [hzk] at HL
        clear hownr hbr hck hzk e
        go_wp2
        go_roundw
        case rel => exact ⟨k + 1, by omega, by go_num, by rw [← HL.out]; exact HS.out.1, HB.out.setCell (Nat.le_refl _) _⟩
        case measure => simp [intOf]; omega
      · go_wp2
        go_ret
        have hkl : k = xs.length := by omega
        subst hkl
        rw [half_full] at hownr
        exact ⟨_, _, rfl, Nat.le_refl _, hownr, hbr⟩

set_option maxRecDepth 1000000 in
theorem spare_any (room : Int) (exact' : Bool) (pl : Nat) (w : World) (h0 : 0 ≤ room) (h1 : room ≤ 65535) (hp : pl ≤ 1048576) :
    Calls Try.prog 8 #[.int .u16 room, .bool exact', .int .i64 pl] w fun e w' => ∃ s : Nat, e = .returned (.int .i64 s) ∧ s ≤ 1200000 ∧ w' = w := by
  obtain ⟨r, rfl⟩ : ∃ r : Nat, room = r := ⟨room.toNat, by omega⟩
  cases exact' with
  | true =>
    go_enter Try.func8, Try.ntmps8
    go_wp2
    go_ret
    exact ⟨4 + pl + r, congrArg (fun x => Ending.returned (.int .i64 x)) (by omega), by omega, rfl⟩
  | false =>
    go_enter Try.func8, Try.ntmps8
    go_wp2
    go_ret
    exact ⟨r, rfl, by omega, rfl⟩

set_option maxRecDepth 1000000 in
set_option maxHeartbeats 400000 in
/-- zzSame at two rows that hold the same bytes. -/
theorem same_yes (xa xb : Option Addr) (n ca cb : Nat) (zs : Nat → Int) (w : World) (hn : n ≤ 16777216)
    (ha : ∀ i, i < n → ∃ b off, xa = some ⟨b, off, none⟩ ∧ w.cell? ⟨b, off + i, none⟩ = some (by8 (zs i)))
    (hb : ∀ i, i < n → ∃ b off, xb = some ⟨b, off, none⟩ ∧ w.cell? ⟨b, off + i, none⟩ = some (by8 (zs i))) :
    Calls Try.prog 10 #[.slice xa n ca, .slice xb n cb] w fun e w' => e = .returned (.bool true) ∧ ∃ nq, w' = w.drewN nq := by
  have HA := hid ha
  have HB := hid hb
  clear ha hb
  go_enter Try.func10, Try.ntmps10
  go_wp2
  go_loopw [5] (fun i wr => ∃ k : Nat, k ≤ n ∧ i = .int .i64 k ∧ ∃ nq, wr = w.drewN nq) (fun i _ => n - (intOf i).toNat)
  case atStart => exact ⟨0, Nat.zero_le _, rfl, 0, rfl⟩
  case round =>
    obtain ⟨k, hk, rfl, nq, rfl⟩ := hrel
    by_cases hlt : k < n
    · obtain ⟨b1, o1, rfl, h1⟩ := HA.out k hlt
      obtain ⟨b2, o2, rfl, h2⟩ := HB.out k hlt
      obtain ⟨z, hz⟩ : ∃ z, zs k = z := ⟨_, rfl⟩
      rw [hz] at h1 h2
      have hlt' : (k : Int) < (n : Int) := by omega
      clear HA HB hz
      go_wp2
      go_quiet (fail)
      go_wp2
      go_roundw
      case rel => exact ⟨k + 1, by omega, by go_num, _, rfl⟩
      case measure => simp [intOf]; omega
    · go_wp2
      go_ret
      exact ⟨rfl, _, rfl⟩

set_option maxRecDepth 1000000 in
theorem packetCount_one (n : Nat) (w : World) (hn : n ≤ 1048576) : Calls Try.prog 14 #[.int .i64 n] w fun e w' => e = .returned (.int .i64 1) ∧ w' = w := by
  have h : (n : Int) / 16777215 = 0 := by omega
  go_enter Try.func14, Try.ntmps14
  go_wp2
  go_ret
  exact ⟨rfl, rfl⟩

set_option maxRecDepth 1000000 in
theorem zzBytes6 (da pa : Option Addr) (nd dc np pc : Nat) (room seq : Int) (ex : Bool) (w : World) (hd : nd ≤ maxLen) (hp : np ≤ maxLen) :
    Calls Try.prog 6 #[.slice da nd dc, .int .u16 room, .bool ex, .int .u8 seq, .slice pa np pc] w fun e w' => (e = .returned (.bool true) ∨ e = .returned (.bool false)) ∧ w' = w := by
  unfold maxLen at hd hp
  by_cases h1 : nd ≤ 1048576
  · by_cases h2 : np ≤ 1048576
    · go_enter Try.func6, Try.ntmps6
      go_wp2
      all_goals
        go_ret
        first | exact ⟨.inl rfl, rfl⟩ | exact ⟨.inr rfl, rfl⟩
    · go_enter Try.func6, Try.ntmps6
      go_wp2
      all_goals
        go_ret
        first | exact ⟨.inl rfl, rfl⟩ | exact ⟨.inr rfl, rfl⟩
  · go_enter Try.func6, Try.ntmps6
    go_wp2
    all_goals
      go_ret
      first | exact ⟨.inl rfl, rfl⟩ | exact ⟨.inr rfl, rfl⟩

set_option maxRecDepth 1000000 in
theorem zzBytes12 (da pa : Option Addr) (nd dc np pc : Nat) (room seq : Int) (ex : Bool) (w : World) (hd : nd ≤ maxLen) (hp : np ≤ maxLen) :
    Calls Try.prog 12 #[.slice da nd dc, .int .u16 room, .bool ex, .int .u8 seq, .slice pa np pc] w fun e w' => (e = .returned (.bool true) ∨ e = .returned (.bool false)) ∧ w' = w := by
  unfold maxLen at hd hp
  by_cases h1 : nd ≤ 1048576
  · by_cases h2 : np ≤ 1048576
    · go_enter Try.func12, Try.ntmps12
      go_wp2
      all_goals
        go_ret
        first | exact ⟨.inl rfl, rfl⟩ | exact ⟨.inr rfl, rfl⟩
    · go_enter Try.func12, Try.ntmps12
      go_wp2
      all_goals
        go_ret
        first | exact ⟨.inl rfl, rfl⟩ | exact ⟨.inr rfl, rfl⟩
  · go_enter Try.func12, Try.ntmps12
    go_wp2
    all_goals
      go_ret
      first | exact ⟨.inl rfl, rfl⟩ | exact ⟨.inr rfl, rfl⟩

end Go.Proofs.Qxb6001556a
