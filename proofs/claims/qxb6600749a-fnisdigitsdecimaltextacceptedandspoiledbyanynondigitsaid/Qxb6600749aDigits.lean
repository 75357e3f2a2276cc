/-
  The contracts of the functions that both statements of this seat share: cron.isDigits, cron.ZZisDigits, and allDecimalBytes, zzBytes_..
-/
import Derived.Test.Qxb6600749aRows
import Derived.WalkKit
import Derived.WalkSpells
import Derived.Below
import Derived.Laws.RangeAny
namespace Go.Proofs.Qxb6600749a
open Go.RowKit

/-- The plain function: not empty, and every byte a digit. -/
def digB (l : List UInt8) : Bool := !l.isEmpty && l.all (fun c => decide (48 ≤ c.toNat ∧ c.toNat ≤ 57))

theorem take_snoc (s : ByteArray) (k : Nat) (h : k < s.size) : s.data.toList.take (k + 1) = s.data.toList.take k ++ [s[k]] := by
  rw [List.take_succ_eq_append_getElem (by simpa using h)]; rfl

theorem digB_bad (s : ByteArray) (k : Nat) (h : k < s.size) (hb : ¬ (48 ≤ s[k].toNat ∧ s[k].toNat ≤ 57)) : digB s.data.toList = false := by
  have hm : s[k] ∈ s.data.toList := by
    have : s[k] = s.data.toList[k]'(by simpa using h) := rfl
    rw [this]; exact List.getElem_mem _
  unfold digB
  rw [Bool.and_eq_false_iff]
  right
  rw [List.all_eq_false]
  exact ⟨_, hm, by simpa using hb⟩

/-- The first k bytes are digits. -/
def DigTo (s : ByteArray) (k : Nat) : Prop := ∀ i (h : i < s.size), i < k → 48 ≤ s[i].toNat ∧ s[i].toNat ≤ 57

theorem DigTo.succ {s : ByteArray} {k : Nat} (hd : DigTo s k) (h : k < s.size) (hk : 48 ≤ s[k].toNat ∧ s[k].toNat ≤ 57) : DigTo s (k + 1) := by
  intro i hi hik
  by_cases e : i = k
  · subst e; exact hk
  · exact hd i hi (by omega)

theorem digB_good {s : ByteArray} {k : Nat} (hd : DigTo s k) (hk : s.size ≤ k) : digB s.data.toList = !s.data.toList.isEmpty := by
  unfold digB
  have : s.data.toList.all (fun c => decide (48 ≤ c.toNat ∧ c.toNat ≤ 57)) = true := by
    rw [List.all_eq_true]
    intro c hc
    obtain ⟨i, hi, rfl⟩ := List.getElem_of_mem hc
    have hi' : i < s.size := by simpa using hi
    have e : s.data.toList[i] = s[i] := rfl
    have := hd i hi' (by omega)
    rw [e]
    exact decide_eq_true this
  rw [this, Bool.and_true]

theorem ret_bool {a b : Bool} (h : a = b) : Ending.returned (.bool a) = .returned (.bool b) := by rw [h]

theorem iter_below (w : World) (s : ByteArray) (pos : Nat) : Below w.heap.size w (w.iter s pos) := (Below.refl _ _).alloc (Nat.le_refl _) _

set_option maxRecDepth 1000000 in
set_option maxHeartbeats 400000 in
theorem isDigits_any (s : ByteArray) (w : World) :
    Calls Try.prog 11 #[.string s] w fun e w' => e = .returned (.bool (digB s.data.toList)) ∧ ∃ pos, w' = w.iter s pos := by
  go_enter Try.func11, Try.ntmps11
  go_wp2
  go_loopw [4] (fun _ w' => ∃ pos : Nat, w' = w.iter s pos ∧ DigTo s pos) (fun _ w' => s.size - w'.iterPos w.heap.size)
  case atStart => exact ⟨0, rfl, fun i _ h => by omega⟩
  case round =>
    obtain ⟨pos, rfl, hd⟩ := hrel
    have HD := (show Hid (DigTo s pos) from hd)
    clear hd
    by_cases hp : pos < s.size
    · by_cases hk : 48 ≤ s[pos].toNat ∧ s[pos].toNat ≤ 57
      · have hnx : ∀ ty, (Instr.next (.pointer (some ⟨w.heap.size, 0, none⟩)) true ty).run Try.prog (w.iter s pos) = _ := fun ty => run_next_ascii w s pos ty hp (by omega)
        have h1 : ¬ ((s[pos].toNat : Int) < 48) := by omega
        have h2 : ¬ ((57 : Int) < (s[pos].toNat : Int)) := by omega
        have HK := (show Hid (48 ≤ s[pos].toNat ∧ s[pos].toNat ≤ 57) from hk)
        clear hk
        go_wp2
        go_roundw
        case rel => exact ⟨pos + 1, rfl, HD.out.succ hp HK.out⟩
        case measure => simp; omega
      · have hb := digB_bad s pos hp hk
        have hnx : ∀ ty, (Instr.next (.pointer (some ⟨w.heap.size, 0, none⟩)) true ty).run Try.prog (w.iter s pos) = _ := fun ty => run_next_any w s pos ty hp
        have hr : (Utf8.decode s pos).1 < 48 ∨ 57 < (Utf8.decode s pos).1 := by
          by_cases ha : s[pos].toNat < 128
          · rw [decode_ascii s pos hp ha]; simp only; omega
          · have := decode_high s pos hp (by omega); omega
        have HB := (show Hid (digB s.data.toList = false) from hb)
        clear hb hk
        go_wp2
        all_goals
          go_ret
          exact ⟨ret_bool HB.out.symm, _, rfl⟩
    · have hnx : ∀ ty, (Instr.next (.pointer (some ⟨w.heap.size, 0, none⟩)) true ty).run Try.prog (w.iter s pos) = _ := fun ty => run_next_end w s pos ty hp
      go_wp2
      go_ret
      exact ⟨ret_bool (by rw [digB_good HD.out (by omega), ByteArray.toList_eq]), _, rfl⟩

set_option maxRecDepth 1000000 in
theorem zzIsDigits_any (s : ByteArray) (w : World) :
    Calls Try.prog 7 #[.string s] w fun e w' => e = .returned (.bool (digB s.data.toList)) ∧ ∃ pos, w' = w.iter s pos := by
  go_enter Try.func7, Try.ntmps7
  go_wp2_with (go_at_call 11; refine (isDigits_any s _).mono ?_; rintro e w' ⟨rfl, pos, rfl⟩)
  go_ret
  exact ⟨rfl, _, rfl⟩

/-- How many of the bytes are digits. -/
def cntB (l : List UInt8) : Nat := (l.filter fun c => decide (48 ≤ c.toNat ∧ c.toNat ≤ 57)).length

theorem cntB_le (l : List UInt8) : cntB l ≤ l.length := List.length_filter_le _ _

theorem cntB_snoc (l : List UInt8) (c : UInt8) : cntB (l ++ [c]) = cntB l + if 48 ≤ c.toNat ∧ c.toNat ≤ 57 then 1 else 0 := by
  unfold cntB
  by_cases h : 48 ≤ c.toNat ∧ c.toNat ≤ 57
  · simp [List.filter_append, h]
  · rw [if_neg h, List.filter_append, List.filter_cons, if_neg (by simpa using h)]; simp

theorem digB_cnt (l : List UInt8) : digB l = (decide (0 < l.length) && (cntB l == l.length)) := by
  unfold digB cntB
  congr 1
  · cases l <;> simp
  · rw [Bool.eq_iff_iff, List.all_eq_true]
    simp only [beq_iff_eq, List.length_filter_eq_length_iff]

theorem adb_yes (s : ByteArray) (k : Nat) (hlt : ¬ k < s.size) (h : 0 < s.size) : ((cntB (s.data.toList.take k) : Int) == (s.size : Int)) = digB s.data.toList := by
  have hl : s.data.toList.length = s.size := by simp
  rw [digB_cnt, List.take_of_length_le (by omega), hl, decide_eq_true h, Bool.true_and, Bool.eq_iff_iff]
  simp only [beq_iff_eq]
  omega

theorem adb_no (s : ByteArray) (h : ¬ 0 < s.size) : false = digB s.data.toList := by
  have hl : s.data.toList.length = s.size := by simp
  rw [digB_cnt, hl, decide_eq_false h, Bool.false_and]

set_option maxRecDepth 1000000 in
set_option maxHeartbeats 400000 in
theorem allDecimalBytes_any (s : ByteArray) (w : World) (hs : s.size ≤ maxLen) :
    Calls Try.prog 8 #[.string s] w fun e w' => e = .returned (.bool (digB s.data.toList)) ∧ w' = w := by
  unfold maxLen at hs
  go_enter Try.func8, Try.ntmps8
  go_wp2
  go_loop [3, 4] (fun n i => ∃ k : Nat, k ≤ s.size ∧ i = .int .i64 k ∧ n = .int .i64 (cntB (s.data.toList.take k))) (fun _ i => s.size - (intOf i).toNat)
  case atStart => exact ⟨0, Nat.zero_le _, rfl, rfl⟩
  case round =>
    obtain ⟨k, hk, rfl, rfl⟩ := hrel
    have hd := cntB_le (s.data.toList.take k)
    have hl : (s.data.toList.take k).length ≤ k := List.length_take_le _ _
    by_cases hlt : k < s.size
    · have hsn := cntB_snoc (s.data.toList.take k) s[k]
      rw [← take_snoc s k hlt] at hsn
      have HS := (show Hid _ from hsn)
      clear hsn
      go_wp2
      all_goals
        go_round
        case rel => exact ⟨k + 1, by omega, by go_num, by rw [HS.out]; first | (rw [if_pos (by omega)]; go_num) | (rw [if_neg (by omega)]; go_num)⟩
        case measure => simp [intOf]; omega
    · have HA := (show Hid _ from adb_yes s k hlt)
      have HN := (show Hid _ from adb_no s)
      go_wp2
      · go_ret
        exact ⟨ret_bool (HA.out (by assumption)), rfl⟩
      · go_ret
        exact ⟨ret_bool (HN.out (by assumption)), rfl⟩

set_option maxRecDepth 1000000 in
theorem zzBytes_any (s : ByteArray) (w : World) (hs : s.size ≤ maxLen) :
    Calls Try.prog 6 #[.string s] w fun e w' => e = .returned (.bool (decide (s.size ≤ 1048576))) ∧ w' = w := by
  unfold maxLen at hs
  by_cases h : s.size ≤ 1048576
  · rw [decide_eq_true h]
    go_enter Try.func6, Try.ntmps6
    go_wp2
    go_ret
    exact ⟨rfl, rfl⟩
  · rw [decide_eq_false h]
    go_enter Try.func6, Try.ntmps6
    go_wp2
    go_ret
    exact ⟨rfl, rfl⟩

end Go.Proofs.Qxb6600749a
