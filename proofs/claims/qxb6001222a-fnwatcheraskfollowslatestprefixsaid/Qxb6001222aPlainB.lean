/-
  Seat b6001222a: lengths and members of what ask's loops gather. No Go in sight.
-/
import Derived.Test.Qxb6001222aPlain
namespace Go.Proofs.Qxb6001222a

theorem stepF_len (rs : List Run) (key : ByteArray) (i lo gone : Int) (acc : List Nat × List Run) (n : Nat) :
    (stepF rs key i lo gone acc n).1.length + (stepF rs key i lo gone acc n).2.length ≤ acc.1.length + acc.2.length + 1 := by
  unfold stepF
  dsimp only
  split
  · split
    · simp; omega
    · split
      · simp; omega
      · simp; omega
  · omega

theorem fold_len (rs : List Run) (key : ByteArray) (i lo gone : Int) : ∀ (l : List Nat) (acc : List Nat × List Run),
    (l.foldl (stepF rs key i lo gone) acc).1.length + (l.foldl (stepF rs key i lo gone) acc).2.length ≤ acc.1.length + acc.2.length + l.length
  | [], acc => by simp
  | n :: l, acc => by
    have h1 := fold_len rs key i lo gone l (stepF rs key i lo gone acc n)
    have h2 := stepF_len rs key i lo gone acc n
    simp only [List.foldl_cons, List.length_cons]
    omega

/-- What is gathered of the first k. -/
theorem acc_len {rs : List Run} {key : ByteArray} {i lo gone : Int} {live : List Nat} {k : Nat} {acc : List Nat × List Run} (h : (live.take k).foldl (stepF rs key i lo gone) ([], []) = acc) : acc.1.length ≤ live.length ∧ acc.2.length ≤ live.length ∧ acc.1.length + acc.2.length ≤ live.length := by
  have := fold_len rs key i lo gone (live.take k) ([], [])
  rw [h] at this
  simp at this
  omega

theorem stepF_mem (rs : List Run) (key : ByteArray) (i lo gone : Int) (acc : List Nat × List Run) (n : Nat) (P : Nat → Prop) (ha : ∀ x ∈ acc.1, P x) (hn : P n) : ∀ x ∈ (stepF rs key i lo gone acc n).1, P x := by
  unfold stepF
  dsimp only
  split
  · split
    · exact ha
    · split
      · intro x hx
        rw [List.mem_append] at hx
        rcases hx with hx | hx
        · exact ha x hx
        · simp at hx; rw [hx]; exact hn
      · exact ha
  · exact ha

theorem fold_mem (rs : List Run) (key : ByteArray) (i lo gone : Int) (P : Nat → Prop) : ∀ (l : List Nat) (acc : List Nat × List Run), (∀ x ∈ acc.1, P x) → (∀ x ∈ l, P x) → ∀ x ∈ (l.foldl (stepF rs key i lo gone) acc).1, P x
  | [], _, ha, _ => ha
  | n :: l, acc, ha, hl => by
    simp only [List.foldl_cons]
    exact fold_mem rs key i lo gone P l _ (stepF_mem rs key i lo gone acc n P ha (hl n (by simp))) (fun x hx => hl x (by simp [hx]))

theorem beginF_len (st : List Run × List Nat) (r : Run) : (beginF st r).1.length ≤ st.1.length + 1 ∧ (beginF st r).2.length ≤ st.2.length + 1 ∧ st.1.length ≤ (beginF st r).1.length := by
  unfold beginF
  split <;> simp

theorem foldBegin_len : ∀ (l : List Run) (st : List Run × List Nat), (l.foldl beginF st).1.length ≤ st.1.length + l.length ∧ (l.foldl beginF st).2.length ≤ st.2.length + l.length
  | [], st => by simp
  | r :: l, st => by
    have h1 := foldBegin_len l (beginF st r)
    have h2 := beginF_len st r
    simp only [List.foldl_cons, List.length_cons]
    omega

theorem foldBegin_take {begun : List Run} {k : Nat} {st st' : List Run × List Nat} (h : (begun.take k).foldl beginF st = st') : st'.1.length ≤ st.1.length + begun.length ∧ st'.2.length ≤ st.2.length + begun.length := by
  have := foldBegin_len (begun.take k) st
  rw [h] at this
  simp at this
  omega

theorem stepF_C' {rs : List Run} {key : ByteArray} {i lo gone mn wq : Int} {acc : List Nat × List Run} {n : Nat} {q : Run} (hq : rs.getD n run0 = q) (hS : ubS q.p key = true) (hm : mnF lo gone = mn) (hw : wu (q.wh + 1) = wq) (hc : (gone != 0) = false ∨ mn ≤ wq)
    (hs : ((ubP q.p key).toList == q.p.toList) = true) : stepF rs key i lo gone acc n = (acc.1 ++ [n], acc.2) := stepF_C hq hS hm hw (by rcases hc with h | h; exact .inl h; exact .inr (by omega)) hs

theorem stepF_D' {rs : List Run} {key : ByteArray} {i lo gone mn wq : Int} {acc : List Nat × List Run} {n : Nat} {q : Run} (hq : rs.getD n run0 = q) (hS : ubS q.p key = true) (hm : mnF lo gone = mn) (hw : wu (q.wh + 1) = wq) (hc : (gone != 0) = false ∨ mn ≤ wq)
    (hs : ((ubP q.p key).toList == q.p.toList) = false) : stepF rs key i lo gone acc n = (acc.1, acc.2 ++ [⟨ubP q.p key, q.a, q.lo, q.wh⟩]) := stepF_D hq hS hm hw (by rcases hc with h | h; exact .inl h; exact .inr (by omega)) hs

theorem step1_of {rs : List Run} {live : List Nat} {key : ByteArray} {i lo gone : Int} {acc : List Nat × List Run} (h : (live.take live.length).foldl (stepF rs key i lo gone) ([], []) = acc) : step1 rs live key i lo gone = acc := by
  rw [List.take_length] at h; exact h

theorem askF_hit {rs : List Run} {live : List Nat} {key : ByteArray} {i lo gone : Int} {acc : List Nat × List Run} {st : List Run × List Nat} {k : Nat} (h1 : (live.take live.length).foldl (stepF rs key i lo gone) ([], []) = acc)
    (h2 : (acc.2.take acc.2.length).foldl beginF (rs, acc.1) = st) (hk : k < st.2.length) (h : seq (st.1.getD (st.2.getD k 0) run0).p key = true) : askF rs live key i lo gone = st := by
  have e : step2 rs (step1 rs live key i lo gone) = st := by rw [step1_of h1]; rw [List.take_length] at h2; exact h2
  unfold askF
  simp only [e]
  rw [if_pos]
  unfold hasKey
  rw [List.any_eq_true]
  refine ⟨st.2.getD k 0, ?_, h⟩
  have e : st.2.getD k 0 = st.2[k] := by simp [hk]
  rw [e]; exact List.getElem_mem _

theorem askF_miss {rs : List Run} {live : List Nat} {key : ByteArray} {i lo gone : Int} {acc : List Nat × List Run} {st : List Run × List Nat} (h1 : (live.take live.length).foldl (stepF rs key i lo gone) ([], []) = acc)
    (h2 : (acc.2.take acc.2.length).foldl beginF (rs, acc.1) = st) (h : ∀ k, k < st.2.length → seq (st.1.getD (st.2.getD k 0) run0).p key = false) : askF rs live key i lo gone = beginF st ⟨key, i, lo, wu (lo - 1)⟩ := by
  have e : step2 rs (step1 rs live key i lo gone) = st := by rw [step1_of h1]; rw [List.take_length] at h2; exact h2
  unfold askF
  simp only [e]
  rw [if_neg]
  unfold hasKey
  rw [Bool.not_eq_true, List.any_eq_false]
  intro x hx
  obtain ⟨j, hj, rfl⟩ := List.getElem_of_mem hx
  have := h j hj
  have e : st.2.getD j 0 = st.2[j] := by simp [hj]
  rw [e] at this
  rw [this]
  decide

theorem seq_of {q key : ByteArray} {b : Bool} (h : (q.toList == key.toList) = b) : seq q key = b := h

end Go.Proofs.Qxb6001222a
