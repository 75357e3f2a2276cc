/-
  Seat b6001222a: the plain laws of ask. No Go in sight.
-/
import Derived.Test.Qxb6001222aPlainB
namespace Go.Proofs.Qxb6001222a

/-- Every live place is a place of runs, and the run there lies under the key. -/
def Und (key : ByteArray) (st : List Run × List Nat) : Prop := ∀ n ∈ st.2, n < st.1.length ∧ pfx (st.1.getD n run0).p key = true

theorem getD_snoc (rs : List Run) (r : Run) (n : Nat) (h : n < rs.length) : (rs ++ [r]).getD n run0 = rs.getD n run0 := by
  simp [List.getElem?_append_left h]

theorem getD_last (rs : List Run) (r : Run) : (rs ++ [r]).getD rs.length run0 = r := by simp

theorem beginF_under {key : ByteArray} {st : List Run × List Nat} {r : Run} (h : Und key st) (hr : pfx r.p key = true) : Und key (beginF st r) := by
  unfold beginF
  split
  · exact h
  · intro n hn
    simp only [List.mem_append, List.mem_singleton] at hn
    rcases hn with hn | rfl
    · obtain ⟨h1, h2⟩ := h n hn
      refine ⟨by simp; omega, ?_⟩
      simp only
      rw [getD_snoc _ _ _ h1]; exact h2
    · refine ⟨by simp, ?_⟩
      simp only
      rw [getD_last]; exact hr

theorem fold_under {key : ByteArray} : ∀ (l : List Run) (st : List Run × List Nat), Und key st → (∀ r ∈ l, pfx r.p key = true) → Und key (l.foldl beginF st)
  | [], _, h, _ => h
  | r :: l, st, h, hl => fold_under l (beginF st r) (beginF_under h (hl r (by simp))) (fun x hx => hl x (by simp [hx]))

theorem step_under {rs : List Run} {key : ByteArray} {i lo gone : Int} {acc : List Nat × List Run} {n : Nat} (h1 : ∀ m ∈ acc.1, m < rs.length ∧ pfx (rs.getD m run0).p key = true) (h2 : ∀ r ∈ acc.2, pfx r.p key = true) (hn : n < rs.length) :
    (∀ m ∈ (stepF rs key i lo gone acc n).1, m < rs.length ∧ pfx (rs.getD m run0).p key = true) ∧ (∀ r ∈ (stepF rs key i lo gone acc n).2, pfx r.p key = true) := by
  unfold stepF
  dsimp only
  split
  · split
    · refine ⟨h1, fun r hr => ?_⟩
      rw [List.mem_append, List.mem_singleton] at hr
      rcases hr with hr | rfl
      · exact h2 r hr
      · exact ubP_pfx
    · split
      · rename_i hs
        refine ⟨fun m hm => ?_, h2⟩
        rw [List.mem_append, List.mem_singleton] at hm
        rcases hm with hm | rfl
        · exact h1 m hm
        · refine ⟨hn, ?_⟩
          have := seq_iff.1 hs
          rw [← this]; exact ubP_pfx
      · refine ⟨h1, fun r hr => ?_⟩
        rw [List.mem_append, List.mem_singleton] at hr
        rcases hr with hr | rfl
        · exact h2 r hr
        · exact ubP_pfx
  · exact ⟨h1, h2⟩

theorem fold1_under {rs : List Run} {key : ByteArray} {i lo gone : Int} : ∀ (l : List Nat) (acc : List Nat × List Run), (∀ m ∈ acc.1, m < rs.length ∧ pfx (rs.getD m run0).p key = true) → (∀ r ∈ acc.2, pfx r.p key = true) → (∀ n ∈ l, n < rs.length) →
    (∀ m ∈ (l.foldl (stepF rs key i lo gone) acc).1, m < rs.length ∧ pfx (rs.getD m run0).p key = true) ∧ (∀ r ∈ (l.foldl (stepF rs key i lo gone) acc).2, pfx r.p key = true)
  | [], _, h1, h2, _ => ⟨h1, h2⟩
  | n :: l, acc, h1, h2, hl => by
    have h := step_under (i := i) (lo := lo) (gone := gone) h1 h2 (hl n (by simp))
    exact fold1_under l _ h.1 h.2 (fun x hx => hl x (by simp [hx]))

theorem hasKey_begin {st : List Run × List Nat} {r : Run} : hasKey (beginF st r) r.p = true := by
  unfold beginF
  split
  · rename_i h
    rw [List.any_eq_true] at h
    obtain ⟨n, hn, hh⟩ := h
    unfold hasKey
    rw [List.any_eq_true]
    unfold beginHit at hh
    rw [Bool.and_eq_true] at hh
    exact ⟨n, hn, hh.1⟩
  · unfold hasKey
    rw [List.any_eq_true]
    refine ⟨st.1.length, by simp, ?_⟩
    simp only
    rw [getD_last]; exact seq_self _

theorem askF_under {rs : List Run} {live : List Nat} {key : ByteArray} {i lo gone : Int} (hok : ∀ n ∈ live, n < rs.length) : Und key (askF rs live key i lo gone) ∧ hasKey (askF rs live key i lo gone) key = true := by
  have h1 := fold1_under (rs := rs) (key := key) (i := i) (lo := lo) (gone := gone) live ([], []) (by simp) (by simp) hok
  have h2 : Und key (step2 rs (step1 rs live key i lo gone)) := fold_under _ _ h1.1 h1.2
  unfold askF
  dsimp only
  split
  · rename_i h
    exact ⟨h2, h⟩
  · exact ⟨beginF_under h2 (pfx_self _), hasKey_begin⟩

theorem askF_len (rs : List Run) (live : List Nat) (key : ByteArray) (i lo gone : Int) : (askF rs live key i lo gone).1.length ≤ rs.length + live.length + 1 ∧ (askF rs live key i lo gone).2.length ≤ live.length + 1 := by
  have h1 := fold_len rs key i lo gone live ([], [])
  have h2 := foldBegin_len (step1 rs live key i lo gone).2 (rs, (step1 rs live key i lo gone).1)
  have h3 := beginF_len (step2 rs (step1 rs live key i lo gone)) ⟨key, i, lo, wu (lo - 1)⟩
  have e1 : step1 rs live key i lo gone = live.foldl (stepF rs key i lo gone) ([], []) := rfl
  have e2 : step2 rs (step1 rs live key i lo gone) = (step1 rs live key i lo gone).2.foldl beginF (rs, (step1 rs live key i lo gone).1) := rfl
  rw [← e1] at h1
  rw [← e2] at h2
  simp at h1 h2
  unfold askF
  dsimp only
  split <;> omega

theorem step_again {rs : List Run} {key : ByteArray} {i lo : Int} {acc : List Nat × List Run} {n : Nat} (h : pfx (rs.getD n run0).p key = true) : stepF rs key i lo 0 acc n = (acc.1 ++ [n], acc.2) := by
  have e1 : ubS (rs.getD n run0).p key = true := by unfold ubS; rw [if_pos h]
  have e2 : ubP (rs.getD n run0).p key = (rs.getD n run0).p := by unfold ubP; rw [if_pos h]
  unfold stepF
  simp only [e1, e2, if_true, seq_self]
  rw [if_neg (by simp)]

theorem fold_again {rs : List Run} {key : ByteArray} {i lo : Int} : ∀ (l : List Nat) (acc : List Nat × List Run), (∀ n ∈ l, pfx (rs.getD n run0).p key = true) → l.foldl (stepF rs key i lo 0) acc = (acc.1 ++ l, acc.2)
  | [], acc, _ => by simp
  | n :: l, acc, h => by
    rw [List.foldl_cons, step_again (h n (by simp)), fold_again l _ (fun x hx => h x (by simp [hx]))]
    simp

/-- The same watch asked again, nothing refused in between. -/
theorem askF_again {rs : List Run} {live : List Nat} {key : ByteArray} {i lo : Int} (hU : Und key (rs, live)) (hK : hasKey (rs, live) key = true) : askF rs live key i lo 0 = (rs, live) := by
  have h1 : step1 rs live key i lo 0 = (live, []) := by
    unfold step1
    rw [fold_again live _ (fun n hn => (hU n hn).2)]
    simp
  unfold askF
  simp only [h1, step2, List.foldl_nil]
  rw [if_pos hK]

theorem Und.at {key : ByteArray} {st : List Run × List Nat} (h : Und key st) {j : Nat} (hj : j < st.2.length) : st.2.getD j 0 < st.1.length ∧ pfx (st.1.getD (st.2.getD j 0) run0).p key = true := by
  have e : st.2.getD j 0 = st.2[j] := by simp [hj]
  rw [e]; exact h _ (List.getElem_mem _)

theorem hasKey_at {key : ByteArray} {st : List Run × List Nat} (h : hasKey st key = true) : ∃ j, j < st.2.length ∧ seq (st.1.getD (st.2.getD j 0) run0).p key = true := by
  unfold hasKey at h
  rw [List.any_eq_true] at h
  obtain ⟨n, hn, hs⟩ := h
  obtain ⟨j, hj, rfl⟩ := List.getElem_of_mem hn
  refine ⟨j, hj, ?_⟩
  have e : st.2.getD j 0 = st.2[j] := by simp [hj]
  rw [e]; exact hs

end Go.Proofs.Qxb6001222a
