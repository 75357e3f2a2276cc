/-
  Seat b6001222a: zzBytes_FnWatcherAskFollowsLatestPrefix (23), zzBytes_FnWatcherAskSameWatchAgainChangesNothing (43): they return a bool and change nothing.
-/
import Derived.Test.Qxb6001222aStep
namespace Go.Proofs.Qxb6001222a
open Go.RowKit Go.WideShapes

/-- A slice that came in: nil, or it leads to a row of 'n' elements. -/
def InRow {α : Type} (f : α → Value) (d : α) (w : World) (a : Option Addr) (n c : Nat) (xs : List α) : Prop :=
  xs.length = n ∧ ((a = none ∧ n = 0 ∧ c = 0) ∨ ∃ x, a = some x ∧ ∀ i, i < n → w.cell? (x.add i) = some (f (xs.getD i d)))

theorem InRow.at {α : Type} {f : α → Value} {d : α} {w : World} {a : Option Addr} {n c : Nat} {xs : List α} (h : InRow f d w a n c xs) (k : Nat) (hk : k < n) : ∃ b off, a = some ⟨b, off, none⟩ ∧ w.cell? ⟨b, off + k, none⟩ = some (f (xs.getD k d)) := by
  obtain ⟨_, h | ⟨x, rfl, hc⟩⟩ := h
  · omega
  · obtain ⟨b, off, spot⟩ := x
    have hspot : spot = none := by simpa [Addr.add] using World.cell?_spot (hc 0 (by omega))
    subst hspot
    have := hc k hk
    rw [add_plain] at this
    exact ⟨b, off, rfl, this⟩

set_option maxRecDepth 1000000 in
set_option maxHeartbeats 1000000 in
theorem zzBytes23 (ka va sa ga : Option Addr) (n kc nv vc ns sc ng gc : Nat) (ks : List ByteArray) (w : World) (hK : InRow Value.string ByteArray.empty w ka n kc ks) (hm : n ≤ maxLen) (hv : nv ≤ maxLen) (hs : ns ≤ maxLen) (hg : ng ≤ maxLen) (hks : ∀ s ∈ ks, s.size ≤ maxLen) :
    Calls Try.prog 23 #[.slice ka n kc, .slice va nv vc, .slice sa ns sc, .slice ga ng gc] w fun e w' => (e = .returned (.bool true) ∨ e = .returned (.bool false)) ∧ w' = w := by
  have HK := hid hK
  have HKS := hid hks
  unfold maxLen at hm hv hs hg
  clear hK hks
  by_cases h0 : n ≤ 1048576
  · go_enter Try.func23, Try.ntmps23
    go_wp2
    go_loop [9, 10] (fun z i => ∃ (k : Nat) (y : Int), k ≤ n ∧ i = .int .i64 k ∧ z = .int .i64 y ∧ 0 ≤ y ∧ y ≤ 1048576) (fun _ i => n - (intOf i).toNat)
    case atStart => exact ⟨0, n, Nat.zero_le _, rfl, rfl, by omega, by omega⟩
    case round =>
      obtain ⟨k, y, hk, rfl, rfl, hy0, hy1⟩ := hrel
      by_cases hlt : k < n
      · obtain ⟨b, off, rfl, hc⟩ := HK.out.at k hlt
        obtain ⟨s, hse⟩ : ∃ s, ks.getD k ByteArray.empty = s := ⟨_, rfl⟩
        rw [hse] at hc
        have hsz : s.size ≤ 2 ^ 63 - 1 := by
          have hl := HK.out.1
          have : s ∈ ks := by rw [← hse]; simp [show k < ks.length by omega]
          exact HKS.out s this
        clear hse
        go_wp2
        · go_ret
          first | exact ⟨.inl rfl, rfl⟩ | exact ⟨.inr rfl, rfl⟩
        · go_ret
          first | exact ⟨.inl rfl, rfl⟩ | exact ⟨.inr rfl, rfl⟩
        · go_round
          case rel => exact ⟨k + 1, y + s.size, by omega, by go_num, rfl, by omega, by omega⟩
          case measure => simp [intOf]; omega
      · go_wp2
        all_goals
          go_ret
          first | exact ⟨.inl rfl, rfl⟩ | exact ⟨.inr rfl, rfl⟩
  · go_enter Try.func23, Try.ntmps23
    go_wp2
    go_ret
    first | exact ⟨.inl rfl, rfl⟩ | exact ⟨.inr rfl, rfl⟩

set_option maxRecDepth 1000000 in
set_option maxHeartbeats 1000000 in
theorem zzBytes43 (ka va sa ga : Option Addr) (n kc nv vc ns sc ng gc : Nat) (ks : List ByteArray) (w : World) (hK : InRow Value.string ByteArray.empty w ka n kc ks) (hm : n ≤ maxLen) (hv : nv ≤ maxLen) (hs : ns ≤ maxLen) (hg : ng ≤ maxLen) (hks : ∀ s ∈ ks, s.size ≤ maxLen) :
    Calls Try.prog 43 #[.slice ka n kc, .slice va nv vc, .slice sa ns sc, .slice ga ng gc] w fun e w' => (e = .returned (.bool true) ∨ e = .returned (.bool false)) ∧ w' = w := by
  have HK := hid hK
  have HKS := hid hks
  unfold maxLen at hm hv hs hg
  clear hK hks
  by_cases h0 : n ≤ 1048576
  · go_enter Try.func43, Try.ntmps43
    go_wp2
    go_loop [9, 10] (fun z i => ∃ (k : Nat) (y : Int), k ≤ n ∧ i = .int .i64 k ∧ z = .int .i64 y ∧ 0 ≤ y ∧ y ≤ 1048576) (fun _ i => n - (intOf i).toNat)
    case atStart => exact ⟨0, n, Nat.zero_le _, rfl, rfl, by omega, by omega⟩
    case round =>
      obtain ⟨k, y, hk, rfl, rfl, hy0, hy1⟩ := hrel
      by_cases hlt : k < n
      · obtain ⟨b, off, rfl, hc⟩ := HK.out.at k hlt
        obtain ⟨s, hse⟩ : ∃ s, ks.getD k ByteArray.empty = s := ⟨_, rfl⟩
        rw [hse] at hc
        have hsz : s.size ≤ 2 ^ 63 - 1 := by
          have hl := HK.out.1
          have : s ∈ ks := by rw [← hse]; simp [show k < ks.length by omega]
          exact HKS.out s this
        clear hse
        go_wp2
        · go_ret
          first | exact ⟨.inl rfl, rfl⟩ | exact ⟨.inr rfl, rfl⟩
        · go_ret
          first | exact ⟨.inl rfl, rfl⟩ | exact ⟨.inr rfl, rfl⟩
        · go_round
          case rel => exact ⟨k + 1, y + s.size, by omega, by go_num, rfl, by omega, by omega⟩
          case measure => simp [intOf]; omega
      · go_wp2
        all_goals
          go_ret
          first | exact ⟨.inl rfl, rfl⟩ | exact ⟨.inr rfl, rfl⟩
  · go_enter Try.func43, Try.ntmps43
    go_wp2
    go_ret
    first | exact ⟨.inl rfl, rfl⟩ | exact ⟨.inr rfl, rfl⟩

end Go.Proofs.Qxb6001222a
