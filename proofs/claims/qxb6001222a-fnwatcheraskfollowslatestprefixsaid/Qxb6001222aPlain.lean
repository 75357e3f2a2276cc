/-
  Seat b6001222a: the plain functions behind (*watcher).ask and begin, and their laws. No Go in sight.
-/
import Derived.Laws.Strings
namespace Go.Proofs.Qxb6001222a

/-- One run of a watcher, as far as the script of watches ever turns it: the watched text, asked, lo, whole. -/
structure Run where
  p : ByteArray
  a : Int
  lo : Int
  wh : Int

def run0 : Run := ⟨ByteArray.empty, 0, 0, 0⟩

/-- u64's wrap. -/
def wu (n : Int) : Int := IntKind.u64.wrap n

/-- strings.HasPrefix, in the walk's own spelling. -/
def pfx (s p : ByteArray) : Bool := decide (p.size ≤ s.size) && ((s.extract 0 p.size).toList == p.toList)

/-- Equality of strings, in the walk's own spelling. -/
def seq (s p : ByteArray) : Bool := s.toList == p.toList

theorem toList_inj {s p : ByteArray} (h : s.toList = p.toList) : s = p := by
  rw [ByteArray.toList_eq, ByteArray.toList_eq] at h
  cases s; cases p
  simp only at h
  rw [Array.toList_inj.1 h]

theorem seq_iff {s p : ByteArray} : seq s p = true ↔ s = p := by
  unfold seq
  rw [beq_iff_eq]
  exact ⟨toList_inj, fun h => by rw [h]⟩

theorem seq_self (s : ByteArray) : seq s s = true := seq_iff.2 rfl

theorem pfx_iff {s p : ByteArray} : pfx s p = true ↔ p.data.toList <+: s.data.toList := by
  unfold pfx
  rw [Bool.and_eq_true, decide_eq_true_eq, beq_iff_eq, ByteArray.toList_eq, ByteArray.toList_eq]
  have e : (s.extract 0 p.size).data.toList = s.data.toList.take p.size := by simp
  have hp : p.data.toList.length = p.size := by simp
  have hs : s.data.toList.length = s.size := by simp
  rw [e]
  constructor
  · rintro ⟨_, h⟩
    rw [← h]
    exact List.take_prefix _ _
  · intro h
    refine ⟨by have := h.length_le; omega, ?_⟩
    rw [← hp]
    exact (List.prefix_iff_eq_take.1 h).symm

theorem pfx_self (s : ByteArray) : pfx s s = true := pfx_iff.2 (List.prefix_refl _)

/-- Two strings, each of which begins with the other, are one. -/
theorem pfx_anti {s p : ByteArray} (h1 : pfx s p = true) (h2 : pfx p s = true) : s = p := by
  have a := pfx_iff.1 h1
  have b := pfx_iff.1 h2
  have : s.data.toList = p.data.toList := b.eq_of_length_le a.length_le
  exact toList_inj (by rw [ByteArray.toList_eq, ByteArray.toList_eq, this])

/-- underBoth. -/
def ubP (a b : ByteArray) : ByteArray := if pfx a b = true then a else b
def ubS (a b : ByteArray) : Bool := if pfx a b = true then true else pfx b a

theorem ubP_pfx {a b : ByteArray} : pfx (ubP a b) b = true := by
  unfold ubP
  split
  · assumption
  · exact pfx_self _

/-! ### begin -/
def beginHit (rs : List Run) (r : Run) (n : Nat) : Bool := seq (rs.getD n run0).p r.p && decide ((rs.getD n run0).lo ≤ r.lo)

def beginF (st : List Run × List Nat) (r : Run) : List Run × List Nat :=
  if st.2.any (beginHit st.1 r) = true then st else (st.1 ++ [r], st.2 ++ [st.1.length])

theorem beginF_hit {rs : List Run} {live : List Nat} {r : Run} {k : Nat} (hk : k < live.length) (h : beginHit rs r (live.getD k 0) = true) : beginF (rs, live) r = (rs, live) := by
  unfold beginF
  rw [if_pos]
  rw [List.any_eq_true]
  refine ⟨live.getD k 0, ?_, h⟩
  have e : live.getD k 0 = live[k] := by simp [hk]
  rw [e]; exact List.getElem_mem _

theorem beginF_miss {rs : List Run} {live : List Nat} {r : Run} (h : ∀ j, j < live.length → beginHit rs r (live.getD j 0) = false) : beginF (rs, live) r = (rs ++ [r], live ++ [rs.length]) := by
  unfold beginF
  rw [if_neg]
  rw [Bool.not_eq_true, List.any_eq_false]
  intro x hx
  obtain ⟨j, hj, rfl⟩ := List.getElem_of_mem hx
  have := h j hj
  have e : live.getD j 0 = live[j] := by simp [hj]
  rw [e] at this
  simp [this]

theorem beginHit_of {rs : List Run} {r q : Run} {n : Nat} (hq : rs.getD n run0 = q) (hs : (q.p.toList == r.p.toList) = true) (hl : q.lo ≤ r.lo) : beginHit rs r n = true := by
  unfold beginHit seq
  rw [hq, hs, decide_eq_true hl]; rfl

theorem beginHit_not1 {rs : List Run} {r q : Run} {n : Nat} (hq : rs.getD n run0 = q) (hs : (q.p.toList == r.p.toList) = false) : beginHit rs r n = false := by
  unfold beginHit seq
  rw [hq, hs]; rfl

theorem beginHit_not2 {rs : List Run} {r q : Run} {n : Nat} (hq : rs.getD n run0 = q) (hl : ¬ q.lo ≤ r.lo) : beginHit rs r n = false := by
  unfold beginHit
  rw [hq, decide_eq_false hl, Bool.and_false]

theorem upto_succ {P : Nat → Prop} {k : Nat} (h : ∀ j, j < k → P j) (hk : P k) : ∀ j, j < k + 1 → P j := by
  intro j hj
  by_cases e : j = k
  · subst e; exact hk
  · exact h j (by omega)

/-! ### ask: the first loop's step: (live, begun) -/
def mnF (lo gone : Int) : Int := if gone < lo then gone else lo

def stepF (rs : List Run) (key : ByteArray) (i lo gone : Int) (acc : List Nat × List Run) (n : Nat) : List Nat × List Run :=
  let r := rs.getD n run0
  if ubS r.p key = true then
    if gone ≠ 0 ∧ wu (r.wh + 1) < mnF lo gone then (acc.1, acc.2 ++ [⟨ubP r.p key, i, mnF lo gone, wu (mnF lo gone - 1)⟩])
    else if seq (ubP r.p key) r.p = true then (acc.1 ++ [n], acc.2)
    else (acc.1, acc.2 ++ [{ r with p := ubP r.p key }])
  else acc

def step1 (rs : List Run) (live : List Nat) (key : ByteArray) (i lo gone : Int) : List Nat × List Run := live.foldl (stepF rs key i lo gone) ([], [])

def step2 (rs : List Run) (acc : List Nat × List Run) : List Run × List Nat := acc.2.foldl beginF (rs, acc.1)

def hasKey (st : List Run × List Nat) (key : ByteArray) : Bool := st.2.any fun n => seq (st.1.getD n run0).p key

def askF (rs : List Run) (live : List Nat) (key : ByteArray) (i lo gone : Int) : List Run × List Nat :=
  let st := step2 rs (step1 rs live key i lo gone)
  if hasKey st key = true then st else beginF st ⟨key, i, lo, wu (lo - 1)⟩

theorem stepF_A {rs : List Run} {key : ByteArray} {i lo gone : Int} {acc : List Nat × List Run} {n : Nat} {q : Run} (hq : rs.getD n run0 = q) (hS : ubS q.p key = false) : stepF rs key i lo gone acc n = acc := by
  unfold stepF
  simp only [hq, hS, Bool.false_eq_true, if_false]

theorem stepF_B {rs : List Run} {key : ByteArray} {i lo gone mn wq : Int} {acc : List Nat × List Run} {n : Nat} {q : Run} (hq : rs.getD n run0 = q) (hS : ubS q.p key = true) (hm : mnF lo gone = mn) (hw : wu (q.wh + 1) = wq) (hg : (gone != 0) = true) (hc : wq < mn) :
    stepF rs key i lo gone acc n = (acc.1, acc.2 ++ [⟨ubP q.p key, i, mn, wu (mn - 1)⟩]) := by
  unfold stepF
  have hg' : gone ≠ 0 := by simpa using hg
  simp only [hq, hS, if_true, hm, hw]
  rw [if_pos ⟨hg', hc⟩]

theorem stepF_C {rs : List Run} {key : ByteArray} {i lo gone mn wq : Int} {acc : List Nat × List Run} {n : Nat} {q : Run} (hq : rs.getD n run0 = q) (hS : ubS q.p key = true) (hm : mnF lo gone = mn) (hw : wu (q.wh + 1) = wq) (hc : (gone != 0) = false ∨ ¬ wq < mn)
    (hs : ((ubP q.p key).toList == q.p.toList) = true) : stepF rs key i lo gone acc n = (acc.1 ++ [n], acc.2) := by
  unfold stepF seq
  simp only [hq, hS, if_true, hm, hw]
  rw [if_neg, if_pos hs]
  rintro ⟨h1, h2⟩
  rcases hc with h | h
  · simp at h; exact h1 h
  · exact h h2

theorem stepF_D {rs : List Run} {key : ByteArray} {i lo gone mn wq : Int} {acc : List Nat × List Run} {n : Nat} {q : Run} (hq : rs.getD n run0 = q) (hS : ubS q.p key = true) (hm : mnF lo gone = mn) (hw : wu (q.wh + 1) = wq) (hc : (gone != 0) = false ∨ ¬ wq < mn)
    (hs : ((ubP q.p key).toList == q.p.toList) = false) : stepF rs key i lo gone acc n = (acc.1, acc.2 ++ [⟨ubP q.p key, q.a, q.lo, q.wh⟩]) := by
  unfold stepF seq
  simp only [hq, hS, if_true, hm, hw]
  rw [if_neg, if_neg (by simp [hs])]
  rintro ⟨h1, h2⟩
  rcases hc with h | h
  · simp at h; exact h1 h
  · exact h h2

theorem fold_take {α β : Type} (f : β → α → β) (z : β) (l : List α) (k : Nat) (d : α) (hk : k < l.length) : (l.take (k + 1)).foldl f z = f ((l.take k).foldl f z) (l.getD k d) := by
  rw [List.take_succ_eq_append_getElem hk, List.foldl_append]
  simp [hk]

end Go.Proofs.Qxb6001222a
