/-
  'Rows.FnAppendPacketScriptReadsBackInOrderSaid' proved. The frame is the kit's shell.
-/
import Derived.Test.Qxb6001556aRows
import Derived.WalkKit
import Derived.ProofKit
import Derived.OpenShut
import Derived.ShutString
import Derived.ChangeOld
import Derived.Below
import Derived.Test.Qxb6001556aScript
import Derived.Deep.Matrix
namespace Go.Proofs.Qxb6001556a.fnAppendPacketScriptReadsBackInOrder
open Go.ChangeShapes Go.WideShapes Go.ChangeAt Go.RowKit
open Go.ChangeMaps (open_string shut_string)
set_option linter.unusedVariables false

theorem own : ownKnob Try.prog.godebug = none := by kernel_rfl
theorem laidOut : laidOutB Try.prog = true := by kernel_rfl

/-! ### THE ROW's STEP: WRITTEN OUT: LEAVE IT -/
set_option maxRecDepth 100000 in
theorem lifted (os : Os) (started : os.Started) (H : Type) (enc : TypeId × Value → H) :
    ReturnsInHanded {} Try.checked os 5 .any (Rows.fnAppendPacketScriptReadsBackInOrderSpec.pre6 enc Try.prog Try.f5 Rows.fnAppendPacketScriptReadsBackInOrderRow.domain false) (Rows.fnAppendPacketScriptReadsBackInOrderSpec.post enc Try.prog Try.f5 false true false false) := by
  refine returnsInHanded_of_change (C := Try.checked) own started (by kernel_rfl) Try.func5
    (ChangeSpec.witness6 (enc := enc) (C := Try.checked) false ⟨#[], #[.slice none 0 0, .int .u8 0], []⟩ 8 (by kernel_rfl) (by kernel_rfl) (by kernel_rfl) (by kernel_rfl)) ?_
  intro W base args ds gs before hval0 hW hcnd _
  have hval : ∀ (j : Nat) t v, Try.f5.params[j]? = some t → args[j]? = some v → Value.okWide Try.prog W .any base t v := hval0
  have hW' := hW
  obtain ⟨p, q, hA0, hV, rfl, hfz, hnd⟩ := hW
  have hA : DataW.TrodAll enc Try.prog W 0 (fun _ => true) true Try.f5.params.toList args.toList ds p := hA0
  rw [Try.params5] at hA hval
  obtain ⟨v0, vs0, d0, ds0, p0, q0, hargs, rfl, rfl, h0, r0⟩ := trodAll_cons hA
  obtain ⟨v1, vs1, d1, ds1, p1, q1, rfl, rfl, rfl, h1, r1⟩ := trodAll_cons r0
  obtain ⟨rfl, rfl, rfl⟩ := trodAll_nil r1
  obtain rfl : args = #[v0, v1] := by cases args; simp_all
  obtain ⟨rfl, rfl⟩ := trodVars_none hV
  obtain ⟨a0, len0, cap0, rfl⟩ := okWide_slice Try.underlying29 (hval 0 29 v0 rfl rfl)
  have k0 := h0
  have lt0 : ∀ x ∈ p0, x.block < W.heap.size := by obtain ⟨m, hm⟩ := k0; exact DataW.trod_lt m _ _ _ hm
  obtain ⟨bs, hP, m0, hbs⟩ : ∃ bs, PRow W a0 len0 cap0 bs ∧ len0 ≤ maxLen ∧ ∀ r, r < len0 → (bs.getD r []).length ≤ maxLen := by
    obtain ⟨fuel, hf⟩ := h0
    rcases Go.Deep.open_int_rows Try.underlying29 Try.underlying22 Try.underlying5 (by kernel_rfl) (by kernel_rfl) hf with ⟨hcs, _⟩ | ⟨a, len, cap, A, L, C, Z, hcs, _, hl, hm, _, hrows⟩
    · simp [Value.cells] at hcs
      obtain ⟨rfl, rfl, rfl⟩ := hcs
      exact ⟨[], ⟨rfl, .inl ⟨rfl, rfl, rfl⟩⟩, Nat.zero_le _, fun r hr => by omega⟩
    · simp [Value.cells] at hcs
      obtain ⟨rfl, rfl, rfl⟩ := hcs
      have hb : ∀ r, r < len0 → ((List.range len0).map fun r => (Z r).take (L r)).getD r [] = (Z r).take (L r) := by
        intro r hr
        simp [hr]
      refine ⟨(List.range len0).map fun r => (Z r).take (L r), ⟨by simp, .inr ⟨a, rfl, fun r hr => ?_⟩⟩, by omega, fun r hr => ?_⟩
      · obtain ⟨h1, h2, h3, h4, _, h6, h7⟩ := hrows r (by omega)
        have hlen : ((Z r).take (L r)).length = L r := by simp; omega
        rw [hb r hr, hlen]
        refine ⟨A r, C r, h1, hlen, ?_⟩
        cases hA : A r with
        | none => exact .inl ⟨rfl, by have := h6 hA; omega, h6 hA⟩
        | some x =>
          refine .inr ⟨x, rfl, fun i hi => ?_⟩
          rw [(h7 x hA).2 i (by omega)]
          simp [hi]
      · obtain ⟨h1, h2, h3, h4, _⟩ := hrows r (by omega)
        rw [hb r hr]
        simp
        omega
  obtain ⟨a1, rfl, rfl, rfl, w1⟩ := open_int Try.underlying5 (hval 1 5 v1 rfl rfl) h1
  obtain ⟨s0, s1⟩ := bounds_u8 w1
  clear hA0 hval0
  refine (script_any a0 len0 cap0 bs a1 W hP m0 hbs s0 s1).mono fun e W' ⟨he, bel⟩ => ?_
  subst he
  exact ⟨_, rfl, _, _, _, [], _, [], hW', trodAll_mk1 (shut_bool Try.underlying4 _), (trodAll_cons_mk (Below.trod laidOut (by kernel_rfl) (of_decide_eq_true (by kernel_rfl)) k0 bel lt0) (trodAll_cons_mk (shut_int Try.underlying5 w1) trodAll_mk0)), rfl, bel.frame _, fun h => by cases h⟩

theorem over : Rows.fnAppendPacketScriptReadsBackInOrderRow.holds Try.pinned (OpenSpec.ofChange Rows.fnAppendPacketScriptReadsBackInOrderSpec) :=
  OpenClaim.holds_of_wide 5 Try.f5 rfl rfl rfl rfl rfl rfl rfl ⟨rfl, rfl, rfl, rfl, rfl⟩ rfl rfl rfl rfl rfl (by kernel_rfl) Try.func5 (by kernel_rfl)
    (of_decide_eq_true (by kernel_rfl)) (by unfold Func.isWrapper; first | (rw [if_pos (by decide +kernel)]; kernel_rfl) | (rw [if_neg (by decide +kernel)]; exact ⟨rfl, rfl⟩))
    (fun os started H enc _ => lifted os started H enc)

/-- ████ THE STATEMENT ████ -/
theorem proved : Rows.FnAppendPacketScriptReadsBackInOrderSaid := over
#print axioms proved
end Go.Proofs.Qxb6001556a.fnAppendPacketScriptReadsBackInOrder
