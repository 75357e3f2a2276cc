/-
  Seat b6001556a: the script's packets (plain), and what lies in memory for it. No walk.
-/
import Derived.Test.Qxb6001556aOne
namespace Go.Proofs.Qxb6001556a
open Go.RowKit Go.WideShapes

/-! ### plain -/
def tot : List (List Int) → Nat
  | [] => 0
  | b :: bs => b.length + 24 + tot bs

theorem tot_append (a b : List (List Int)) : tot (a ++ b) = tot a + tot b := by
  induction a with
  | nil => simp [tot]
  | cons x xs ih => simp [tot, ih]; omega

theorem tot_take (bs : List (List Int)) (k : Nat) (h : k < bs.length) : tot (bs.take (k + 1)) = tot (bs.take k) + ((bs.getD k []).length + 24) := by
  rw [List.take_succ_eq_append_getElem h, tot_append]
  simp [tot, h]

theorem tot_ge (bs : List (List Int)) (k : Nat) (h : k < bs.length) : (bs.getD k []).length + 24 ≤ tot bs := by
  have h1 := tot_take bs k h
  have h2 := tot_append (bs.take (k + 1)) (bs.drop (k + 1))
  rw [List.take_append_drop] at h2
  omega

theorem tot_len (bs : List (List Int)) : 24 * bs.length ≤ tot bs := by
  induction bs with
  | nil => simp [tot]
  | cons x xs ih => simp [tot]; omega

def pksFrom : Int → List (List Int) → List (Int × List Int)
  | _, [] => []
  | s, b :: bs => (s % 256, b) :: pksFrom (s + 1) bs

theorem pks_length : ∀ (s : Int) (bs : List (List Int)), (pksFrom s bs).length = bs.length
  | _, [] => rfl
  | s, b :: bs => by simp [pksFrom, pks_length (s + 1) bs]

theorem pks_at : ∀ (s : Int) (bs : List (List Int)) (r : Nat) (h : r < (pksFrom s bs).length), (pksFrom s bs)[r] = ((s + r) % 256, bs.getD r [])
  | s, b :: bs, 0, _ => by simp [pksFrom]
  | s, b :: bs, r + 1, h => by
    have := pks_at (s + 1) bs r (by simpa [pksFrom] using h)
    simp only [pksFrom, List.getElem_cons_succ, this, List.getD_cons_succ]
    have e : s + 1 + (r : Int) = s + ((r + 1 : Nat) : Int) := by omega
    rw [e]

theorem enc_len : ∀ (s : Int) (bs : List (List Int)), (enc (pksFrom s bs)).length + 20 * bs.length = tot bs
  | _, [] => rfl
  | s, b :: bs => by
    have := enc_len (s + 1) bs
    simp [pksFrom, enc, tot, hdr_length] at *
    omega

theorem enc_take_succ (s : Int) (bs : List (List Int)) (i : Nat) (h : i < bs.length) : enc ((pksFrom s bs).take (i + 1)) = enc ((pksFrom s bs).take i) ++ (hdr (bs.getD i []).length ((s + i) % 256) ++ bs.getD i []) := by
  have h' : i < (pksFrom s bs).length := by rw [pks_length]; exact h
  rw [List.take_succ_eq_append_getElem h', enc_append, pks_at s bs i h']
  simp [enc]

theorem enc_take_len (s : Int) (bs : List (List Int)) (i : Nat) (h : i < bs.length) : (enc ((pksFrom s bs).take (i + 1))).length = (enc ((pksFrom s bs).take i)).length + 4 + (bs.getD i []).length := by
  rw [enc_take_succ s bs i h]; simp [hdr_length]; omega

theorem enc_take_le (s : Int) (bs : List (List Int)) (i : Nat) : (enc ((pksFrom s bs).take i)).length ≤ tot bs := by
  have h1 := pos_le (pksFrom s bs) i
  have h2 := enc_len s bs
  unfold pos at h1
  omega

/-! ### the payloads that came in -/
def PRow (w : World) (pa : Option Addr) (m pc : Nat) (bs : List (List Int)) : Prop :=
  bs.length = m ∧ ((pa = none ∧ m = 0 ∧ pc = 0) ∨ ∃ x, pa = some x ∧ ∀ r, r < m → ∃ a c, w.cell? (x.add r) = some (.slice a (bs.getD r []).length c) ∧ InRow w a (bs.getD r []).length c (bs.getD r []))

theorem PRow.at {w : World} {pa : Option Addr} {m pc : Nat} {bs : List (List Int)} (h : PRow w pa m pc bs) (k : Nat) (hk : k < m) : ∃ b off a c, pa = some ⟨b, off, none⟩ ∧ w.cell? ⟨b, off + k, none⟩ = some (.slice a (bs.getD k []).length c) ∧ InRow w a (bs.getD k []).length c (bs.getD k []) := by
  obtain ⟨_, h | ⟨x, rfl, hc⟩⟩ := h
  · omega
  · obtain ⟨b, off, spot⟩ := x
    obtain ⟨a0, c0, h0, _⟩ := hc 0 (by omega)
    have hspot : spot = none := by simpa [Addr.add] using World.cell?_spot h0
    subst hspot
    obtain ⟨a, c, h1, h2⟩ := hc k hk
    rw [add_plain] at h1
    exact ⟨b, off, a, c, rfl, h1, h2⟩

/-! ### the copies -/
/-- A value that owns these bytes. -/
def Copy (w : World) (B : Nat) (v : Value) (body : List Int) : Prop := ∃ a c, v = .slice a body.length c ∧ w.ownsRow B 5 1 (.slice a body.length c) body.length (body.map by8)

/-- Behind k copies: the row of slices at block S, its first k elements copies. -/
structure CS (w wr : World) (S m k : Nat) (vals : List Value) (bs : List (List Int)) : Prop where
  row : wr.ownsRow S 22 1 (.slice (some ⟨S, 0, none⟩) m m) m (vals ++ List.replicate (m - k) (.slice none 0 0))
  len : vals.length = k
  cps : ∀ t, t < k → Copy wr w.heap.size (vals.getD t (.slice none 0 0)) (bs.getD t [])
  bel : Below w.heap.size w wr
  base : w.heap.size ≤ S

theorem CS.slot {w wr : World} {S m k : Nat} {vals : List Value} {bs : List (List Int)} (h : CS w wr S m k vals bs) (hk : k < m) : wr.cell? ⟨S, k, none⟩ = some (.slice none 0 0) ∧ wr.frozen? ⟨S, k, none⟩ = false := by
  refine ⟨own_cell h.row k _ ?_, h.row.frozenAt k⟩
  rw [List.getElem?_append_right (by rw [h.len]; omega), h.len, Nat.sub_self, List.getElem?_replicate, if_pos (by omega)]

theorem getD_left (l : List Value) (v z : Value) (t : Nat) (h : t < l.length) : (l ++ [v]).getD t z = l.getD t z := by
  rw [List.getD_eq_getElem?_getD, List.getElem?_append_left h, ← List.getD_eq_getElem?_getD]

theorem getD_self (l : List Value) (v z : Value) (t : Nat) (h : l.length = t) : (l ++ [v]).getD t z = v := by
  rw [List.getD_eq_getElem?_getD, List.getElem?_append_right (by omega), h, Nat.sub_self]; rfl

theorem set_next (vals : List Value) (m k : Nat) (v z : Value) (hl : vals.length = k) (hk : k < m) : (vals ++ List.replicate (m - k) z).set k v = (vals ++ [v]) ++ List.replicate (m - (k + 1)) z := by
  subst hl
  rw [List.set_append_right _ _ (by omega), Nat.sub_self, List.append_assoc]
  congr 1
  obtain ⟨j, hj⟩ : ∃ j, m - vals.length = j + 1 := ⟨m - vals.length - 1, by omega⟩
  have hj' : m - (vals.length + 1) = j := by omega
  rw [hj, hj', List.replicate_succ]
  simp

theorem CS.next {w wr w1 : World} {S m k c : Nat} {vals : List Value} {bs : List (List Int)} {a : Option Addr} (h : CS w wr S m k vals bs) (hk : k < m) (hb : Below wr.heap.size wr w1)
    (ho : w1.ownsRow wr.heap.size 5 1 (.slice a (bs.getD k []).length c) (bs.getD k []).length ((bs.getD k []).map by8)) :
    CS w (w1.setCell ⟨S, k, none⟩ (.slice a (bs.getD k []).length c)) S m (k + 1) (vals ++ [.slice a (bs.getD k []).length c]) bs := by
  have s0 := h.bel.size
  have hrow := ownsRow_below h.row hb
  obtain ⟨cs, hcS⟩ := ownsRow_kind hrow S rfl
  have hbe : Below w.heap.size w w1 := h.bel.trans (hb.mono s0)
  have keep : ∀ {a' : Option Addr} {n c' : Nat} {ys : List Value} {B' : Nat}, w1.ownsRow B' 5 1 (.slice a' n c') n ys → (w1.setCell ⟨S, k, none⟩ (.slice a (bs.getD k []).length c)).ownsRow B' 5 1 (.slice a' n c') n ys := by
    intro a' n c' ys B' h'
    refine ownsRow_same h' fun g hg => heap_setCell_other w1 _ g _ (fun e => ?_)
    simp at e; subst e
    exact ownsRow_ne h' hcS (by decide) hg.symm
  refine ⟨?_, by simp [h.len], fun t ht => ?_, hbe.setCell h.base _, h.base⟩
  · have := (hrow.stored k (.slice a (bs.getD k []).length c)).1
    rw [set_next _ _ _ _ _ h.len hk] at this
    exact this
  · by_cases htk : t < k
    · rw [getD_left _ _ _ _ (by rw [h.len]; exact htk)]
      obtain ⟨a', c', hv, ho'⟩ := h.cps t htk
      exact ⟨a', c', hv, keep (ownsRow_below ho' hb)⟩
    · obtain rfl : t = k := by omega
      rw [getD_self _ _ _ _ h.len]
      exact ⟨a, c, rfl, keep (ownsRow_base ho s0)⟩

end Go.Proofs.Qxb6001556a
