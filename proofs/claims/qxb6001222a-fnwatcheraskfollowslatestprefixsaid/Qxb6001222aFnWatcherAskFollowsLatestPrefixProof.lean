/-
  'Rows.FnWatcherAskFollowsLatestPrefixSaid' proved. The frame is the kit's shell for a law over slices, turned to a []string and a []bool by hand.
-/
import Derived.Test.Qxb6001222aRows
import Derived.WalkKit
import Derived.ProofKit
import Derived.OpenShut
import Derived.ShutString
import Derived.ChangeOld
import Derived.Below
import Derived.SliceStrings
import Derived.Deep.Grids
import Derived.Test.Qxb6001222aFollowW
namespace Go.Proofs.Qxb6001222a.fnWatcherAskFollowsLatestPrefix
open Go.ChangeShapes Go.WideShapes Go.ChangeAt Go.RowKit
open Go.Deep
set_option linter.unusedVariables false

theorem own : ownKnob Try.prog.godebug = none := by kernel_rfl
theorem laidOut : laidOutB Try.prog = true := by kernel_rfl

theorem walk (ka va sa ga : Option Addr) (nk kc nv vc ns sc ng gc : Nat) (ks : List ByteArray) (vs gs : List Int) (ss : List Bool) (w : World)
    (hK : InRow Value.string ByteArray.empty w ka nk kc ks) (hV : InRow (Value.int .u64) 0 w va nv vc vs) (hS : InRow Value.bool false w sa ns sc ss) (hG : InRow (Value.int .u64) 0 w ga ng gc gs)
    (mk : nk ≤ maxLen) (mv : nv ≤ maxLen) (ms : ns ≤ maxLen) (mg : ng ≤ maxLen) (hks : ∀ s ∈ ks, s.size ≤ maxLen) :
    Calls Try.prog 8 #[.slice ka nk kc, .slice va nv vc, .slice sa ns sc, .slice ga ng gc] w fun e w' => e = .returned (.bool true) ∧ Below w.heap.size w w' := by
  by_cases hb : nk ≤ 256 ∧ nv ≤ 65536 ∧ ns ≤ 65536 ∧ ng ≤ 65536
  · exact follow_walk ka va sa ga nk kc nv vc ns sc ng gc ks vs gs ss w hK hV hS hG hb.1 hb.2.1 hb.2.2.1 hb.2.2.2 hks
  · refine (follow_big ka va sa ga nk kc nv vc ns sc ng gc w mk mv ms mg (zzBytes23 ka va sa ga nk kc nv vc ns sc ng gc ks w hK mk mv ms mg hks) hb).mono ?_
    rintro e w' ⟨rfl, rfl⟩
    exact ⟨rfl, Below.refl _ _⟩

theorem getD_take {α : Type} (l : List α) (n i : Nat) (d : α) (h : i < n) : (l.take n).getD i d = l.getD i d := by
  simp [h]

set_option maxRecDepth 100000 in
theorem lifted (os : Os) (started : os.Started) (H : Type) (enc : TypeId × Value → H) :
    ReturnsInHanded {} Try.checked os 8 .any (Rows.fnWatcherAskFollowsLatestPrefixSpec.pre6 enc Try.prog Try.f8 Rows.fnWatcherAskFollowsLatestPrefixRow.domain false) (Rows.fnWatcherAskFollowsLatestPrefixSpec.post enc Try.prog Try.f8 false true false false) := by
  refine returnsInHanded_of_change (C := Try.checked) own started (by kernel_rfl) Try.func8
    (ChangeSpec.witness6 (enc := enc) (C := Try.checked) false ⟨#[], #[.slice none 0 0, .slice none 0 0, .slice none 0 0, .slice none 0 0], []⟩ 8 (by kernel_rfl) (by kernel_rfl) (by kernel_rfl) (by kernel_rfl)) ?_
  intro W base args ds gs before hval0 hW hcnd _
  have hval : ∀ (j : Nat) t v, Try.f8.params[j]? = some t → args[j]? = some v → Value.okWide Try.prog W .any base t v := hval0
  have hW' := hW
  obtain ⟨p, q, hA0, hV, rfl, hfz, hnd⟩ := hW
  have hA : DataW.TrodAll enc Try.prog W 0 (fun _ => true) true Try.f8.params.toList args.toList ds p := hA0
  rw [Try.params8] at hA hval
  obtain ⟨v0, vs0, d0, ds0, p0, q0, hargs, rfl, rfl, h0, r0⟩ := trodAll_cons hA
  obtain ⟨v1, vs1, d1, ds1, p1, q1, rfl, rfl, rfl, h1, r1⟩ := trodAll_cons r0
  obtain ⟨v2, vs2, d2, ds2, p2, q2, rfl, rfl, rfl, h2, r2⟩ := trodAll_cons r1
  obtain ⟨v3, vs3, d3, ds3, p3, q3, rfl, rfl, rfl, h3, r3⟩ := trodAll_cons r2
  obtain ⟨rfl, rfl, rfl⟩ := trodAll_nil r3
  obtain rfl : args = #[v0, v1, v2, v3] := by cases args; simp_all
  obtain ⟨rfl, rfl⟩ := trodVars_none hV
  obtain ⟨a0, len0, cap0, rfl⟩ := okWide_slice Try.underlying47 (hval 0 47 v0 rfl rfl)
  obtain ⟨a1, len1, cap1, rfl⟩ := okWide_slice Try.underlying48 (hval 1 48 v1 rfl rfl)
  obtain ⟨a2, len2, cap2, rfl⟩ := okWide_slice Try.underlying49 (hval 2 49 v2 rfl rfl)
  obtain ⟨a3, len3, cap3, rfl⟩ := okWide_slice Try.underlying48 (hval 3 48 v3 rfl rfl)
  have k0 := h0
  have k1 := h1
  have k2 := h2
  have k3 := h3
  have lt0 : ∀ x ∈ p0, x.block < W.heap.size := by obtain ⟨m, hm⟩ := k0; exact DataW.trod_lt m _ _ _ hm
  have lt1 : ∀ x ∈ p1, x.block < W.heap.size := by obtain ⟨m, hm⟩ := k1; exact DataW.trod_lt m _ _ _ hm
  have lt2 : ∀ x ∈ p2, x.block < W.heap.size := by obtain ⟨m, hm⟩ := k2; exact DataW.trod_lt m _ _ _ hm
  have lt3 : ∀ x ∈ p3, x.block < W.heap.size := by obtain ⟨m, hm⟩ := k3; exact DataW.trod_lt m _ _ _ hm
  obtain ⟨z0, i0, m0, s0⟩ : ∃ zs, InRow Value.string ByteArray.empty W a0 len0 cap0 zs ∧ len0 ≤ maxLen ∧ ∀ s ∈ zs, s.size ≤ maxLen := by
    obtain ⟨fuel, hf⟩ := h0
    rcases open_strings Try.underlying47 Try.underlying9 (by kernel_rfl) hf with ⟨hcs, _⟩ | ⟨x, l, c, zs, hcs, _, hl, hm, hz, _, hcell, hwz⟩
    · simp [Value.cells] at hcs
      obtain ⟨rfl, rfl, rfl⟩ := hcs
      exact ⟨[], ⟨rfl, .inl ⟨rfl, rfl, rfl⟩⟩, Nat.zero_le _, by simp⟩
    · simp [Value.cells] at hcs
      obtain ⟨rfl, rfl, rfl⟩ := hcs
      simp only [if_true] at hz
      refine ⟨zs.take len0, ⟨by simp; omega, .inr ⟨_, rfl, fun i hi => ?_⟩⟩, by omega, fun s hs => hwz s (List.mem_of_mem_take hs)⟩
      rw [getD_take _ _ _ _ hi]; exact hcell i (by omega)
  obtain ⟨z1, i1, m1⟩ : ∃ zs, InRow (Value.int .u64) 0 W a1 len1 cap1 zs ∧ len1 ≤ maxLen := by
    obtain ⟨fuel, hf⟩ := h1
    rcases open_ints Try.underlying48 Try.underlying38 (by kernel_rfl) hf with ⟨hcs, _⟩ | ⟨x, l, c, zs, hcs, _, hl, hm, hz, _, hcell, hwz⟩
    · simp [Value.cells] at hcs
      obtain ⟨rfl, rfl, rfl⟩ := hcs
      exact ⟨[], ⟨rfl, .inl ⟨rfl, rfl, rfl⟩⟩, Nat.zero_le _⟩
    · simp [Value.cells] at hcs
      obtain ⟨rfl, rfl, rfl⟩ := hcs
      simp only [if_true] at hz
      refine ⟨zs.take len1, ⟨by simp; omega, .inr ⟨_, rfl, fun i hi => ?_⟩⟩, by omega⟩
      rw [getD_take _ _ _ _ hi]; exact hcell i (by omega)
  obtain ⟨z2, i2, m2⟩ : ∃ zs, InRow Value.bool false W a2 len2 cap2 zs ∧ len2 ≤ maxLen := by
    obtain ⟨fuel, hf⟩ := h2
    rcases open_bools Try.underlying49 Try.underlying4 (by kernel_rfl) hf with ⟨hcs, _⟩ | ⟨x, l, c, B, hcs, _, hl, hm, _, hcell⟩
    · simp [Value.cells] at hcs
      obtain ⟨rfl, rfl, rfl⟩ := hcs
      exact ⟨[], ⟨rfl, .inl ⟨rfl, rfl, rfl⟩⟩, Nat.zero_le _⟩
    · simp [Value.cells] at hcs
      obtain ⟨rfl, rfl, rfl⟩ := hcs
      refine ⟨(List.range len2).map B, ⟨by simp, .inr ⟨_, rfl, fun i hi => ?_⟩⟩, by omega⟩
      rw [hcell i (by omega)]
      simp [hi]
  obtain ⟨z3, i3, m3⟩ : ∃ zs, InRow (Value.int .u64) 0 W a3 len3 cap3 zs ∧ len3 ≤ maxLen := by
    obtain ⟨fuel, hf⟩ := h3
    rcases open_ints Try.underlying48 Try.underlying38 (by kernel_rfl) hf with ⟨hcs, _⟩ | ⟨x, l, c, zs, hcs, _, hl, hm, hz, _, hcell, hwz⟩
    · simp [Value.cells] at hcs
      obtain ⟨rfl, rfl, rfl⟩ := hcs
      exact ⟨[], ⟨rfl, .inl ⟨rfl, rfl, rfl⟩⟩, Nat.zero_le _⟩
    · simp [Value.cells] at hcs
      obtain ⟨rfl, rfl, rfl⟩ := hcs
      simp only [if_true] at hz
      refine ⟨zs.take len3, ⟨by simp; omega, .inr ⟨_, rfl, fun i hi => ?_⟩⟩, by omega⟩
      rw [getD_take _ _ _ _ hi]; exact hcell i (by omega)
  clear hA0 hval0
  refine (walk a0 a1 a2 a3 len0 cap0 len1 cap1 len2 cap2 len3 cap3 z0 z1 z3 z2 W i0 i1 i2 i3 m0 m1 m2 m3 s0).mono fun e W' ⟨he, bel⟩ => ?_
  subst he
  exact ⟨_, rfl, _, _, _, [], _, [], hW', trodAll_mk1 (shut_bool Try.underlying4 _), (trodAll_cons_mk (Below.trod laidOut (by kernel_rfl) (of_decide_eq_true (by kernel_rfl)) k0 bel lt0) (trodAll_cons_mk (Below.trod laidOut (by kernel_rfl) (of_decide_eq_true (by kernel_rfl)) k1 bel lt1) (trodAll_cons_mk (Below.trod laidOut (by kernel_rfl) (of_decide_eq_true (by kernel_rfl)) k2 bel lt2) (trodAll_cons_mk (Below.trod laidOut (by kernel_rfl) (of_decide_eq_true (by kernel_rfl)) k3 bel lt3) trodAll_mk0)))), rfl, bel.frame _, fun h => by cases h⟩

theorem over : Rows.fnWatcherAskFollowsLatestPrefixRow.holds Try.pinned (OpenSpec.ofChange Rows.fnWatcherAskFollowsLatestPrefixSpec) :=
  OpenClaim.holds_of_wide 8 Try.f8 rfl rfl rfl rfl rfl rfl rfl ⟨rfl, rfl, rfl, rfl, rfl⟩ rfl rfl rfl rfl rfl (by kernel_rfl) Try.func8 (by kernel_rfl)
    (of_decide_eq_true (by kernel_rfl)) (by unfold Func.isWrapper; first | (rw [if_pos (by decide +kernel)]; kernel_rfl) | (rw [if_neg (by decide +kernel)]; exact ⟨rfl, rfl⟩))
    (fun os started H enc _ => lifted os started H enc)

theorem proved : Rows.FnWatcherAskFollowsLatestPrefixSaid := over
#print axioms proved
end Go.Proofs.Qxb6001222a.fnWatcherAskFollowsLatestPrefix
