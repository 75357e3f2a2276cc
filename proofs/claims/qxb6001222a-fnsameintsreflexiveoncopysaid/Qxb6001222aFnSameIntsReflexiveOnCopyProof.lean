/-
  'Rows.FnSameIntsReflexiveOnCopySaid' proved. The frame is the kit's shell.
-/
import Derived.Test.Qxb6001222aRows
import Derived.WalkKit
import Derived.ProofKit
import Derived.OpenShut
import Derived.ShutString
import Derived.ChangeOld
import Derived.Below
import Derived.Test.Qxb6001222aInts
namespace Go.Proofs.Qxb6001222a.fnSameIntsReflexiveOnCopy
open Go.ChangeShapes Go.WideShapes Go.ChangeAt Go.RowKit
open Go.ChangeMaps (open_string shut_string)
set_option linter.unusedVariables false

theorem own : ownKnob Try.prog.godebug = none := by kernel_rfl
theorem laidOut : laidOutB Try.prog = true := by kernel_rfl

/-- WHAT THE WALK IS TOLD OF A SLICE OF INTEGERS THAT CAME IN: it is nil; or it leads to a row of 'cap' cells, the numbers 'zs' (the first 'len' are its elements, the rest its spare room), each fitting its kind. -/
def IsRow (k : IntKind) (w : World) (a : Option Addr) (len cap : Nat) (zs : List Int) : Prop :=
  (a = none ∧ len = 0 ∧ cap = 0 ∧ zs = []) ∨
  ∃ x, a = some x ∧ len ≤ cap ∧ cap ≤ maxLen ∧ zs.length = cap ∧ (∀ i, i < zs.length → w.cell? (x.add i) = some (.int k (zs.getD i 0))) ∧ ∀ n ∈ zs, (Lit.int k n).wf = true

/-! ### STEP 1: THE WALKS -/
theorem belowDrewN {B : Nat} {a w : World} (h : Below B a w) (n : Nat) : Below B a (w.drewN n) := h.trans ⟨rfl, rfl, rfl, Nat.le_refl _, fun _ _ => rfl⟩

theorem hb1_trans {a b c : World} (h : Below a.heap.size a b) (k : Below b.heap.size b c) : Below a.heap.size a c := h.trans (k.mono h.size)

set_option maxRecDepth 1000000 in
theorem walk_long (a0 : Option Addr) (n c : Nat) (w : World) (hm : n ≤ maxLen) (h : 131072 < n) :
    Calls Try.prog 3 #[.slice a0 n c] w fun e w' => e = .returned (.bool true) ∧ Below w.heap.size w w' := by
  have H := hid (zzBytesInts a0 n c w hm)
  unfold maxLen at hm
  by_cases h2 : n ≤ 1048576
  · have hd : decide (n ≤ 1048576) = true := decide_eq_true h2
    go_enter Try.func3, Try.ntmps3
    go_wp2_with fail
    refine H.out.mono ?_
    rintro e w' ⟨rfl, rfl⟩
    go_wp2_with fail
    go_ret
    exact ⟨rfl, Below.refl _ _⟩
  · have hd : decide (n ≤ 1048576) = false := decide_eq_false h2
    go_enter Try.func3, Try.ntmps3
    go_wp2_with fail
    refine H.out.mono ?_
    rintro e w' ⟨rfl, rfl⟩
    go_wp2_with fail
    go_ret
    exact ⟨rfl, Below.refl _ _⟩

set_option maxRecDepth 1000000 in
set_option maxHeartbeats 1000000 in
theorem walk_nil (w : World) :
    Calls Try.prog 3 #[.slice none 0 0] w fun e w' => e = .returned (.bool true) ∧ Below w.heap.size w w' := by
  have H := hid (zzBytesInts none 0 0 w (by unfold maxLen; omega))
  obtain ⟨i0, hi, hz0, hz1, hz2⟩ := info_parts Try.info3
  go_enter Try.func3, Try.ntmps3
  go_wp2_with fail
  refine H.out.mono ?_
  rintro e w' ⟨rfl, rfl⟩
  go_wp2_with fail
  refine (cloneInts_nil _).mono ?_
  rintro e w' ⟨rfl, rfl⟩
  go_wp2_with (at_make; refine wpList_make_full _ rfl _ _ 22 rfl w'.heap.size 3 i0 (.int .i64 0) 1 Try.underlying22 hi hz0 hz1 _ _ _ _ 0 rfl rfl rfl rfl (by omega) (by unfold maxLen; omega) (Nat.le_refl _) ?_)
  intro w1 hown0 hgr
  have hb : Below w'.heap.size w' w1 := (Below.refl _ _).grown hgr (Nat.le_refl _) (by intro k h; cases h)
  have hs := hb.size
  have HB := hid hb
  clear hown0 hgr hi hz0 hz1 hz2 hb
  go_wp2
  go_loop [4] (fun i => i = .int .i64 0) (fun _ => 0)
  case atStart => rfl
  case round =>
    subst hrel
    go_wp2_with fail
    refine (zzSameInts_same _ _ 0 _ _ [] _ (by omega) (fun i h => by omega) (fun i h => by omega)).mono ?_
    rintro e w2 ⟨rfl, nq, rfl⟩
    go_wp2_with fail
    refine (zzSameInts_same _ _ 0 _ _ [] _ (by omega) (fun i h => by omega) (fun i h => by omega)).mono ?_
    rintro e w2 ⟨rfl, nq2, rfl⟩
    go_wp2_with fail
    refine (zzSameInts_same _ _ 0 _ _ [] _ (by omega) (fun i h => by omega) (fun i h => by omega)).mono ?_
    rintro e w2 ⟨rfl, nq3, rfl⟩
    go_wp2_with fail
    go_ret
    exact ⟨rfl, belowDrewN HB.out _⟩

theorem own_reads {w : World} {B g n c : Nat} {zs : List Int} (h : w.ownsRow B 3 1 (.slice (some ⟨g, 0, none⟩) n c) n (zs.map (Value.int .i64))) :
    ∀ i, i < n → w.cell? ⟨g, i, none⟩ = some (.int .i64 (zs.getD i 0)) := by
  intro i hi
  have hl : zs.length = n := by have := h.1; simpa using this
  rw [h.cellAt i (by omega)]
  simp [show i < zs.length by omega]

theorem to_some {w : World} {g n : Nat} {zs : List Int} (h : ∀ i, i < n → w.cell? ⟨g, i, none⟩ = some (.int .i64 (zs.getD i 0))) :
    ∀ i, i < n → ∃ b off, (some ⟨g, 0, none⟩ : Option Addr) = some ⟨b, off, none⟩ ∧ w.cell? ⟨b, off + i, none⟩ = some (.int .i64 (zs.getD i 0)) :=
  fun i hi => ⟨g, 0, rfl, by rw [Nat.zero_add]; exact h i hi⟩

set_option maxRecDepth 1000000 in
set_option maxHeartbeats 1000000 in
theorem walk_some (x : Addr) (n c : Nat) (zs : List Int) (w : World) (hl : zs.length = n) (hn : n ≤ 131072)
    (hc : ∀ i, i < n → w.cell? (x.add i) = some (.int .i64 (zs.getD i 0))) :
    Calls Try.prog 3 #[.slice (some x) n c] w fun e w' => e = .returned (.bool true) ∧ Below w.heap.size w w' := by
  have H := hid (zzBytesInts (some x) n c w (by unfold maxLen; omega))
  have HC := hid (cloneInts_some x n c zs w hl (by omega) hc)
  have hd : decide (n ≤ 1048576) = true := decide_eq_true (by omega)
  obtain ⟨i0, hi, hz0, hz1, hz2⟩ := info_parts Try.info3
  subst hl
  clear hc
  go_enter Try.func3, Try.ntmps3
  go_wp2_with fail
  refine H.out.mono ?_
  rintro e w' ⟨rfl, rfl⟩
  go_wp2_with fail
  refine HC.out.mono ?_
  rintro e w1 ⟨rfl, hown1, hb1⟩
  clear H HC
  have HO1 := hid hown1
  have HB1 := hid hb1
  have hs1 := hb1.size
  have hlt1 : w'.heap.size < w1.heap.size := (hown1.lt w'.heap.size rfl).2
  clear hown1 hb1
  go_wp2_with (at_make; refine wpList_make_full _ rfl _ _ 22 rfl w1.heap.size 3 i0 (.int .i64 0) 1 Try.underlying22 hi hz0 hz1 _ _ _ _ zs.length rfl rfl rfl rfl (by rw [hz2]; omega) (by unfold maxLen; omega) (Nat.le_refl _) ?_)
  intro w2 hown0 hgr
  have hb : Below w1.heap.size w1 w2 := (Below.refl _ _).grown hgr (Nat.le_refl _) (by intro k h; cases h)
  have hown : w2.ownsRow w1.heap.size 3 1 (.slice (some ⟨w1.heap.size, 0, none⟩) zs.length zs.length) zs.length (half (Value.int .i64) (.int .i64 0) zs 0) := by
    rw [half_zero, ← toList_madeCells_one]; exact hown0
  clear hown0 hgr hi hz0 hz1 hz2
  go_wp2
  go_loopw [4] (fun i wr => ∃ k : Nat, k ≤ zs.length ∧ i = .int .i64 k ∧
      wr.ownsRow w1.heap.size 3 1 (.slice (some ⟨w1.heap.size, 0, none⟩) zs.length zs.length) zs.length (half (Value.int .i64) (.int .i64 0) zs k) ∧ Below w1.heap.size w1 wr)
    (fun i _ => zs.length - (intOf i).toNat)
  case atStart => exact ⟨0, Nat.zero_le _, rfl, hown, hb⟩
  case round =>
    obtain ⟨k, hk, rfl, hownr, hbr⟩ := hrel
    clear hown hb
    by_cases hlt : k < zs.length
    · have hcr : wr.cell? ⟨w'.heap.size, k, none⟩ = some (.int .i64 (zs.getD k 0)) := (hbr.cell (by exact hlt1)).trans (own_reads HO1.out k hlt)
      have hcg : wr.cell? ⟨w1.heap.size, k, none⟩ = some (.int .i64 0) := by rw [hownr.cellAt k (by omega)]; exact half_at _ _ _ _ hlt
      have hfg : wr.frozen? ⟨w1.heap.size, k, none⟩ = false := hownr.frozenAt k
      have HS := hid (hownr.stored k (.int .i64 zs[k]))
      have HB := hid hbr
      have HL := hid (half_step (Value.int .i64) (.int .i64 0) zs k hlt)
      clear hownr hbr
      go_wp2
      go_roundw
      case rel => exact ⟨k + 1, by omega, by go_num, by rw [← HL.out]; exact HS.out.1, HB.out.setCell (Nat.le_refl _) _⟩
      case measure => simp [intOf]; omega
    · have hkl : k = zs.length := by omega
      subst hkl
      rw [half_full] at hownr
      have R1 := hid (to_some (w := wr) (g := w'.heap.size) (n := zs.length) (zs := zs) fun i hi => (hbr.cell (by exact hlt1)).trans (own_reads HO1.out i hi))
      have R2 := hid (to_some (own_reads hownr))
      have HB := hid (hb1_trans HB1.out hbr)
      clear hownr hbr
      go_wp2_with fail
      refine (zzSameInts_same _ _ _ _ _ zs _ (by omega) (by exact R1.out) (by exact R1.out)).mono ?_
      rintro e w2 ⟨rfl, nq, rfl⟩
      go_wp2_with fail
      refine (zzSameInts_same _ _ _ _ _ zs _ (by omega) (by exact R1.out) (by exact R2.out)).mono ?_
      rintro e w2 ⟨rfl, nq2, rfl⟩
      go_wp2_with fail
      refine (zzSameInts_same _ _ _ _ _ zs _ (by omega) (by exact R2.out) (by exact R1.out)).mono ?_
      rintro e w2 ⟨rfl, nq3, rfl⟩
      go_wp2_with fail
      go_ret
      exact ⟨rfl, belowDrewN HB.out _⟩

theorem walk (a0 : Option Addr) (len0 cap0 : Nat) (z0 : List Int) (w : World) (w0 : IsRow .i64 w a0 len0 cap0 z0) :
    Calls Try.prog 3 #[.slice a0 len0 cap0] w fun e w' => e = .returned (.bool true) ∧ Below w.heap.size w w' := by
  rcases w0 with ⟨rfl, rfl, rfl, rfl⟩ | ⟨x, rfl, hl, hm, hz, hcell, hwz⟩
  · exact walk_nil w
  · by_cases h : 131072 < len0
    · exact walk_long _ _ _ _ (by omega) h
    · refine walk_some x len0 cap0 (z0.take len0) w (by simp; omega) (by omega) fun i hi => ?_
      rw [hcell i (by omega)]
      simp [hi]

/-! ### THE ROW's STEP: WRITTEN OUT: LEAVE IT -/
set_option maxRecDepth 100000 in
theorem lifted (os : Os) (started : os.Started) (H : Type) (enc : TypeId × Value → H) :
    ReturnsInHanded {} Try.checked os 3 .any (Rows.fnSameIntsReflexiveOnCopySpec.pre6 enc Try.prog Try.f3 Rows.fnSameIntsReflexiveOnCopyRow.domain false) (Rows.fnSameIntsReflexiveOnCopySpec.post enc Try.prog Try.f3 false true false false) := by
  refine returnsInHanded_of_change (C := Try.checked) own started (by kernel_rfl) Try.func3
    (ChangeSpec.witness6 (enc := enc) (C := Try.checked) false ⟨#[], #[.slice none 0 0], []⟩ 8 (by kernel_rfl) (by kernel_rfl) (by kernel_rfl) (by kernel_rfl)) ?_
  intro W base args ds gs before hval0 hW hcnd _
  have hval : ∀ (j : Nat) t v, Try.f3.params[j]? = some t → args[j]? = some v → Value.okWide Try.prog W .any base t v := hval0
  have hW' := hW
  obtain ⟨p, q, hA0, hV, rfl, hfz, hnd⟩ := hW
  have hA : DataW.TrodAll enc Try.prog W 0 (fun _ => true) true Try.f3.params.toList args.toList ds p := hA0
  rw [Try.params3] at hA hval
  obtain ⟨v0, vs0, d0, ds0, p0, q0, hargs, rfl, rfl, h0, r0⟩ := trodAll_cons hA
  obtain ⟨rfl, rfl, rfl⟩ := trodAll_nil r0
  obtain rfl : args = #[v0] := by cases args; simp_all
  obtain ⟨rfl, rfl⟩ := trodVars_none hV
  obtain ⟨a0, len0, cap0, rfl⟩ := okWide_slice Try.underlying22 (hval 0 22 v0 rfl rfl)
  have k0 := h0
  have lt0 : ∀ x ∈ p0, x.block < W.heap.size := by obtain ⟨m, hm⟩ := k0; exact DataW.trod_lt m _ _ _ hm
  obtain ⟨z0, w0⟩ : ∃ zs, IsRow .i64 W a0 len0 cap0 zs := by
    obtain ⟨fuel, hf⟩ := h0
    rcases open_ints Try.underlying22 Try.underlying3 (by kernel_rfl) hf with ⟨hcs, _⟩ | ⟨x, l, c, zs, hcs, _, hl, hm, hz, _, hcell, hwz⟩
    · simp [Value.cells] at hcs
      obtain ⟨rfl, rfl, rfl⟩ := hcs
      exact ⟨[], .inl ⟨rfl, rfl, rfl, rfl⟩⟩
    · simp [Value.cells] at hcs
      obtain ⟨rfl, rfl, rfl⟩ := hcs
      exact ⟨zs, .inr ⟨_, rfl, hl, hm, by simpa using hz, hcell, hwz⟩⟩
  clear hA0 hval0
  refine (walk a0 len0 cap0 z0 W w0).mono fun e W' ⟨he, bel⟩ => ?_
  subst he
  exact ⟨_, rfl, _, _, _, [], _, [], hW', trodAll_mk1 (shut_bool Try.underlying4 _), (trodAll_cons_mk (Below.trod laidOut (by kernel_rfl) (of_decide_eq_true (by kernel_rfl)) k0 bel lt0) trodAll_mk0), rfl, bel.frame _, fun h => by cases h⟩

theorem over : Rows.fnSameIntsReflexiveOnCopyRow.holds Try.pinned (OpenSpec.ofChange Rows.fnSameIntsReflexiveOnCopySpec) :=
  OpenClaim.holds_of_wide 3 Try.f3 rfl rfl rfl rfl rfl rfl rfl ⟨rfl, rfl, rfl, rfl, rfl⟩ rfl rfl rfl rfl rfl (by kernel_rfl) Try.func3 (by kernel_rfl)
    (of_decide_eq_true (by kernel_rfl)) (by unfold Func.isWrapper; first | (rw [if_pos (by decide +kernel)]; kernel_rfl) | (rw [if_neg (by decide +kernel)]; exact ⟨rfl, rfl⟩))
    (fun os started H enc _ => lifted os started H enc)

/-- ████ THE STATEMENT ████ -/
theorem proved : Rows.FnSameIntsReflexiveOnCopySaid := over
#print axioms proved
end Go.Proofs.Qxb6001222a.fnSameIntsReflexiveOnCopy
