/-
  Seat b6600749a: FnIsDigitsDecimalTextAcceptedAndSpoiledByAnyNonDigit (5): the walk.
-/
import Derived.Test.Qxb6600749aUtoa
namespace Go.Proofs.Qxb6600749a
open Go.RowKit Go.WideShapes

theorem digB_nums (xs : List Int) (h : ∀ x ∈ xs, 48 ≤ x ∧ x ≤ 57) (hl : 1 ≤ xs.length) : digB (strOfNums xs).data.toList = true := by
  rw [strOfNums_data]
  unfold digB
  rw [Bool.and_eq_true]
  constructor
  · cases xs with
    | nil => simp at hl
    | cons a l => simp
  · rw [List.all_eq_true]
    intro c hc
    obtain ⟨x, hx, rfl⟩ := List.mem_map.1 hc
    have := h x hx
    have e : (UInt8.ofNat x.toNat).toNat = x.toNat := by
      rw [UInt8.toNat_ofNat']; omega
    simp only [e]
    apply decide_eq_true
    omega

theorem conv1 (w1 : World) (c : Int) : (convert 26 9 (.slice (some ⟨w1.heap.size, 0, none⟩) 1 1)).run Try.prog (w1.alloc (.cells #[.int .u8 c] 5)).drew = .ok (.string (strOfNums [c])) (w1.alloc (.cells #[.int .u8 c] 5)).drew := by
  refine run_convert_bytes_arg _ 26 5 Try.underlying26 Try.underlying5 w1.heap.size 0 1 1 [c] rfl (fun i hi => ?_) 9 Try.underlying9
  obtain rfl : i = 0 := by omega
  have h : (w1.alloc (.cells #[.int .u8 c] 5)).drew.heap[w1.heap.size]? = some (.cells #[.int .u8 c] 5) := heap_alloc_new _ _
  unfold World.cell?
  simp only [h]
  rfl

theorem spoiled_bad (a b : ByteArray) (c : Int) (u : ByteArray) (hu : strOfNums [c] = u) (c0 : 0 ≤ c) (c1 : c ≤ 255) (hc : c < 48 ∨ 57 < c) : digB (a ++ u ++ b).data.toList = false := by
  subst hu
  unfold digB
  rw [Bool.and_eq_false_iff]
  right
  rw [List.all_eq_false]
  refine ⟨UInt8.ofNat c.toNat, by simp [strOfNums], ?_⟩
  have e : (UInt8.ofNat c.toNat).toNat = c.toNat := by
    rw [UInt8.toNat_ofNat']; omega
  rw [e]
  simp only [decide_eq_true_eq]
  omega

theorem is_yes (t : ByteArray) (w : World) (h : digB t.data.toList = true) : Calls Try.prog 7 #[.string t] w fun e w' => e = .returned (.bool true) ∧ Below w.heap.size w w' := by
  refine (zzIsDigits_any t w).mono ?_
  rintro e w' ⟨rfl, pos, rfl⟩
  exact ⟨ret_bool h, iter_below _ _ _⟩

theorem is_no (t : ByteArray) (w : World) (h : digB t.data.toList = false) : Calls Try.prog 7 #[.string t] w fun e w' => e = .returned (.bool false) ∧ Below w.heap.size w w' := by
  refine (zzIsDigits_any t w).mono ?_
  rintro e w' ⟨rfl, pos, rfl⟩
  exact ⟨ret_bool h, iter_below _ _ _⟩

theorem spoil_bel {w w1 w2 w3 : World} {o : Obj} (b1 : Below w.heap.size w w1) (b2 : Below (w1.alloc o).drew.heap.size (w1.alloc o).drew w2) (b3 : Below w2.heap.size w2 w3) : Below w.heap.size w w3 := by
  have h1 : Below w.heap.size w (w1.alloc o).drew := ((b1.alloc b1.size o).drew)
  have h2 : Below w.heap.size w w2 := h1.trans (b2.mono h1.size)
  exact h2.trans (b3.mono h2.size)

set_option maxRecDepth 1000000 in
set_option maxHeartbeats 1000000 in
theorem spoil_walk (n pos c : Int) (w : World) (h0 : 0 ≤ n) (h1 : n ≤ 18446744073709551615) (p0 : 0 ≤ pos) (p1 : pos ≤ 20) (c0 : 0 ≤ c) (c1 : c ≤ 255) (hc : c < 48 ∨ 57 < c) :
    Calls Try.prog 5 #[.int .u64 n, .int .i64 pos, .int .u8 c] w fun e w' => e = .returned (.bool true) ∧ Below w.heap.size w w' := by
  obtain ⟨p, rfl⟩ : ∃ p : Nat, pos = p := ⟨pos.toNat, by omega⟩
  have HC := hid hc
  go_enter Try.func5, Try.ntmps5
  rcases hc with hc | hc
  all_goals
    go_wp2_with fail
    refine (utoa_any n _ h0 h1).mono ?_
    rintro e w1 ⟨xs, rfl, hd, hl1, hl2, b1⟩
    have HD := digB_nums xs hd hl1
    have hsz := strOfNums_size xs
    obtain ⟨t, ht⟩ : ∃ t, strOfNums xs = t := ⟨_, rfl⟩
    rw [ht] at HD hsz ⊢
    have hts : t.size ≤ 20 := by omega
    clear hd hl1 hl2 ht hsz
    by_cases hp : p ≤ t.size
    · have hcv := conv1 w1 c
      obtain ⟨u, hu⟩ : ∃ u, strOfNums [c] = u := ⟨_, rfl⟩
      have hus := strOfNums_size [c]
      rw [hu] at hcv hus
      simp only [List.length_cons, List.length_nil, Nat.zero_add] at hus
      have hb1 : ¬ 9223372036854775807 < p + 1 := by omega
      have hb2 : ¬ 9223372036854775807 < p + 1 + (t.size - p) := by omega
      have Zt := hid (fun w => is_yes t w HD)
      have Zs := hid (fun w => is_no (t.extract 0 p ++ u ++ t.extract p t.size) w (spoiled_bad _ _ c u hu c0 c1 HC.out))
      clear hu HD
      go_wp2_with fail
      go_region
      go_wp2_with fail
      refine (Zt.out _).mono ?_
      rintro e w2 ⟨rfl, b2⟩
      go_wp2_with fail
      refine (Zs.out _).mono ?_
      rintro e w3 ⟨rfl, b3⟩
      go_wp2_with fail
      go_ret
      exact ⟨rfl, spoil_bel b1 b2 b3⟩
    · go_wp2_with fail
      go_ret
      exact ⟨rfl, b1⟩

set_option maxRecDepth 1000000 in
theorem spoil_out (n pos c : Int) (w : World) (q0 : -9223372036854775808 ≤ pos) (q1 : pos ≤ 9223372036854775807) (hp : pos < 0 ∨ 20 < pos) :
    Calls Try.prog 5 #[.int .u64 n, .int .i64 pos, .int .u8 c] w fun e w' => e = .returned (.bool true) ∧ Below w.heap.size w w' := by
  go_enter Try.func5, Try.ntmps5
  rcases hp with hp | hp
  all_goals
    go_wp2_with fail
    go_ret
    exact ⟨rfl, Below.refl _ _⟩

set_option maxRecDepth 1000000 in
theorem spoil_digit (n pos c : Int) (w : World) (p0 : 0 ≤ pos) (p1 : pos ≤ 20) (c0 : 48 ≤ c) (c1 : c ≤ 57) :
    Calls Try.prog 5 #[.int .u64 n, .int .i64 pos, .int .u8 c] w fun e w' => e = .returned (.bool true) ∧ Below w.heap.size w w' := by
  go_enter Try.func5, Try.ntmps5
  go_wp2_with fail
  go_ret
  exact ⟨rfl, Below.refl _ _⟩

theorem spoil_any (n pos c : Int) (w : World) (h0 : 0 ≤ n) (h1 : n ≤ 18446744073709551615) (q0 : -9223372036854775808 ≤ pos) (q1 : pos ≤ 9223372036854775807) (c0 : 0 ≤ c) (c1 : c ≤ 255) :
    Calls Try.prog 5 #[.int .u64 n, .int .i64 pos, .int .u8 c] w fun e w' => e = .returned (.bool true) ∧ Below w.heap.size w w' := by
  by_cases hp : pos < 0 ∨ 20 < pos
  · exact spoil_out n pos c w q0 q1 hp
  · by_cases hc : c < 48 ∨ 57 < c
    · exact spoil_walk n pos c w h0 h1 (by omega) (by omega) c0 c1 hc
    · exact spoil_digit n pos c w (by omega) (by omega) (by omega) (by omega)

end Go.Proofs.Qxb6600749a
