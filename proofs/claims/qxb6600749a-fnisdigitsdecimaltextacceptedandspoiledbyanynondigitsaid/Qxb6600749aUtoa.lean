/-
  Seat b6600749a: utoa (10).
-/
import Derived.Test.Qxb6600749aDigits
import Derived.Laws.BytesArg
import Derived.ChangeKeysEq
namespace Go.Proofs.Qxb6600749a
open Go.RowKit Go.WideShapes

theorem hid {p : Prop} (h : p) : Hid p := h

/-- The buffer: k zero bytes, behind them the digits. -/
def buf (k : Nat) (ds : List Int) : List Value := List.replicate k (.int .u8 0) ++ ds.map (Value.int .u8)

theorem buf_set (k : Nat) (ds : List Int) (d : Int) : (buf (k + 1) ds).set k (.int .u8 d) = buf k (d :: ds) := by
  unfold buf
  rw [List.replicate_succ', List.append_assoc, List.set_append_right _ _ (by simp)]
  simp

structure US (w wr : World) (k : Nat) (ds : List Int) : Prop where
  len : k + ds.length = 20
  blk : wr.heap[w.heap.size]? = some (.cells (buf k ds).toArray 28 (0, 0))
  dig : ∀ x ∈ ds, 48 ≤ x ∧ x ≤ 57
  bel : Below w.heap.size w wr

theorem US.start (w : World) : US w (w.alloc (.cells (buf 20 []).toArray 28)) 20 [] :=
  ⟨rfl, heap_alloc_new _ _, fun x h => by simp at h, (Below.refl _ _).alloc (Nat.le_refl _) _⟩

theorem US.slot {w wr : World} {k : Nat} {ds : List Int} (h : US w wr (k + 1) ds) : wr.cell? ⟨w.heap.size, k, none⟩ = some (.int .u8 0) ∧ wr.frozen? ⟨w.heap.size, k, none⟩ = false := by
  constructor
  · simp only [World.cell?, h.blk]
    unfold buf
    simp [List.getElem?_append]
  · simp only [World.frozen?, h.blk]
    simp

theorem US.next {w wr : World} {k : Nat} {ds : List Int} (h : US w wr (k + 1) ds) (d : Int) (hd : 48 ≤ d ∧ d ≤ 57) : US w (wr.setCell ⟨w.heap.size, k, none⟩ (.int .u8 d)) k (d :: ds) := by
  have hl := h.len
  refine ⟨by simp; omega, ?_, fun x hx => ?_, h.bel.setCell (Nat.le_refl _) _⟩
  · rw [heap_setCell_same _ _ _ _ _ _ h.blk, ← buf_set]
    simp
  · rcases List.mem_cons.1 hx with rfl | hx
    · exact hd
    · exact h.dig x hx

theorem US.cell {w wr : World} {k : Nat} {ds : List Int} (h : US w wr k ds) (i : Nat) (hi : i < ds.length) : wr.cell? ⟨w.heap.size, k + i, none⟩ = some (.int .u8 (ds.getD i 0)) := by
  simp only [World.cell?, h.blk]
  unfold buf
  simp [hi]

theorem US.conv {w wr : World} {k : Nat} {ds : List Int} (h : US w wr k ds) : ∀ c, (convert 26 9 (.slice (some ⟨w.heap.size, k, none⟩) (20 - k) c)).run Try.prog wr = .ok (.string (strOfNums ds)) wr := by
  intro c
  have hl := h.len
  exact run_convert_bytes_arg wr 26 5 Try.underlying26 Try.underlying5 w.heap.size k (20 - k) c ds (by omega) (fun i hi => h.cell i (by omega)) 9 Try.underlying9

theorem len28 : Try.prog.arrayLen 28 = 20 := by kernel_rfl
theorem elem28 : Try.prog.elem 28 = 5 := by kernel_rfl

theorem slice28 (S j : Nat) (hj : j < 20) (w : World) : (Instr.sliceAt 28 (.pointer (some ⟨S, 0, none⟩)) (some (.int .i64 (j : Int))) none none).run Try.prog w = .ok (.slice (some ⟨S, j, none⟩) (20 - j) (20 - j)) w := by
  have hu : Try.prog.underlying 28 = some (.array (Try.prog.arrayLen 28) (Try.prog.elem 28)) := by kernel_rfl
  obtain ⟨i0, hi⟩ := Option.isSome_iff_exists.1 (show (Try.prog.info? 5).isSome = true by kernel_rfl)
  have hc : Try.prog.cellsOf 5 = 1 := by kernel_rfl
  rw [run_sliceAt_array_l w 28 _ hu .i64 j (by omega) (by rw [len28]; omega), elem28, len28]
  rw [run_sizeOf w hi, hc]
  simp only [Result.andThen, slicedAt, Int.toNat_natCast, Nat.mul_one]
  rw [if_neg (by omega), add_plain, Nat.zero_add]

set_option maxRecDepth 1000000 in
set_option maxHeartbeats 1000000 in
theorem utoa_any (n : Int) (w : World) (h0 : 0 ≤ n) (h1 : n ≤ 18446744073709551615) :
    Calls Try.prog 10 #[.int .u64 n] w fun e w' => ∃ xs : List Int, e = .returned (.string (strOfNums xs)) ∧ (∀ x ∈ xs, 48 ≤ x ∧ x ≤ 57) ∧ 1 ≤ xs.length ∧ xs.length ≤ 20 ∧ Below w.heap.size w w' := by
  go_enter Try.func10, Try.ntmps10
  go_wp2
  go_loopw [0, 4] (fun a i wr => ∃ (j : Nat) (z : Int) (ds : List Int), j < 20 ∧ i = .int .i64 ((j : Int) + 1) ∧ a = .int .u64 z ∧ 0 ≤ z ∧ z ≤ 18446744073709551615 ∧ Hid (z < 10 ^ (j + 1)) ∧ US w wr (j + 1) ds) (fun _ i _ => (intOf i).toNat)
  case atStart => exact ⟨19, n, [], by omega, rfl, rfl, h0, h1, hid (by omega), US.start w⟩
  case round =>
    obtain ⟨j, z, ds, hj, rfl, rfl, hz0, hz1, hz, hU⟩ := hrel
    obtain ⟨hc, hf⟩ := hU.slot
    have HU := hid hU
    clear hU
    have HN := hid (HU.out.next (48 + z % 10) (by omega))
    by_cases hq : z / 10 = 0
    · have hcv := US.conv HN.out
      have hsl := slice28 w.heap.size j hj
      go_wp2
      go_ret
      exact ⟨_, rfl, HN.out.dig, by simp, by have := HN.out.len; omega, HN.out.bel⟩
    · have hq2 : (z / 10 == 0) = false := by simpa using hq
      have hj1 : 1 ≤ j := by
        rcases Nat.eq_zero_or_pos j with rfl | h
        · have := hz.out; simp at this; omega
        · exact h
      obtain ⟨i, rfl⟩ : ∃ i, j = i + 1 := ⟨j - 1, by omega⟩
      have hz2 : Hid (z / 10 < 10 ^ (i + 1)) := hid (by
        have := hz.out
        rw [Int.pow_succ] at this
        omega)
      go_wp2
      go_roundw
      case rel => exact ⟨i, z / 10, _, by omega, by go_num, rfl, by omega, by omega, hz2, HN.out⟩
      case measure => simp [intOf]; omega

end Go.Proofs.Qxb6600749a
