/-
  Seat b6001556a: small laws on rows of bytes; make with room. No walk.
-/
import Derived.Test.Qxb6001556aRows
import Derived.WalkKit
import Derived.WalkSpells
import Derived.Below
import Derived.Lib.SliceRun
import Derived.Laws.CopyOwn
import Derived.Deep.QuietTactic
import Derived.BigQuiet
import Derived.Deep.AppendLies
import Derived.Deep.CutRange
import Derived.Deep.DeepCutAuto
namespace Go.Proofs.Qxb6001556a
open Go.RowKit Go.WideShapes

theorem hid {p : Prop} (h : p) : Hid p := h

theorem ret_bool {a b : Bool} (h : a = b) : Ending.returned (.bool a) = .returned (.bool b) := by rw [h]

theorem Try.info5 : (Try.prog.info? 5).map (fun i => (i.zero, i.size, i.bytes)) = some (some (.int .u8 0), 1, 1) := by kernel_rfl

theorem q22 : ∀ (w : World) (a : Option Addr) (n c n' c' : Nat), (binOp .eql 22 (.slice a n c) (.slice none n' c')).run Try.prog w = .ok (.bool a.isNone) w :=
  fun w a n c n' c' => Lib.run_eql_slice_nil w 22 5 a n c n' c' Try.underlying22

/-- A byte as a cell. -/
abbrev by8 : Int → Value := Value.int .u8

/-! ### a row half copied: the first k elements, zeros behind -/
def half {α : Type} (f : α → Value) (z : Value) (xs : List α) (k : Nat) : List Value := (xs.take k).map f ++ List.replicate (xs.length - k) z

theorem half_zero {α : Type} (f : α → Value) (z : Value) (xs : List α) : half f z xs 0 = List.replicate xs.length z := by simp [half]

theorem half_full {α : Type} (f : α → Value) (z : Value) (xs : List α) : half f z xs xs.length = xs.map f := by simp [half]

theorem half_at {α : Type} (f : α → Value) (z : Value) (xs : List α) (k : Nat) (hk : k < xs.length) : (half f z xs k)[k]? = some z := by
  unfold half
  rw [List.getElem?_append_right (by simp; omega)]
  simp only [List.length_map, List.length_take]
  rw [List.getElem?_replicate, if_pos (by omega)]

theorem half_step {α : Type} (f : α → Value) (z : Value) (xs : List α) (k : Nat) (hk : k < xs.length) : (half f z xs k).set k (f xs[k]) = half f z xs (k + 1) := by
  unfold half
  have hl : ((xs.take k).map f).length = k := by simp; omega
  rw [List.set_append_right _ _ (by omega), hl, Nat.sub_self, List.take_succ_eq_append_getElem hk, List.map_append, List.append_assoc]
  congr 1
  obtain ⟨m, hm⟩ : ∃ m, xs.length - k = m + 1 := ⟨xs.length - k - 1, by omega⟩
  have hm' : xs.length - (k + 1) = m := by omega
  rw [hm, hm', List.replicate_succ]
  simp

/-! ### rows -/
theorem ownsRow_same {w w' : World} {base e size n : Nat} {v : Value} {xs : List Value} (h : w.ownsRow base e size v n xs) (hb : ∀ g, v.ownBlock = some g → w'.heap[g]? = w.heap[g]?) : w'.ownsRow base e size v n xs := by
  obtain ⟨h1, h2⟩ := h
  refine ⟨h1, ?_⟩
  rcases h2 with h2 | ⟨g, cap, cur, hv, hg, hh, r⟩
  · exact Or.inl h2
  · refine Or.inr ⟨g, cap, cur, hv, hg, ?_, r⟩
    rw [hb g (by rw [hv]; rfl)]; exact hh

theorem ownsRow_kind {w : World} {base e size n : Nat} {v : Value} {xs : List Value} (h : w.ownsRow base e size v n xs) : ∀ g, v.ownBlock = some g → ∃ c, w.heap[g]? = some (.cells c e (0, 0)) := by
  intro g hg
  rcases h.2 with ⟨rfl, _⟩ | ⟨g', cap, cur, rfl, _, hgg, _⟩
  · simp [Value.ownBlock] at hg
  · simp [Value.ownBlock] at hg
    subst hg
    exact ⟨cur, hgg⟩

/-- A row's block is no block of another type. -/
theorem ownsRow_ne {w : World} {base e size n : Nat} {v : Value} {xs : List Value} (h : w.ownsRow base e size v n xs) {k t : Nat} {c : Array Value} {fr : Nat × Nat} (hk : w.heap[k]? = some (.cells c t fr)) (ht : t ≠ e) : some k ≠ v.ownBlock := by
  intro e1
  obtain ⟨c', h'⟩ := ownsRow_kind h k e1.symm
  rw [hk] at h'
  simp only [Option.some.injEq, Obj.cells.injEq] at h'
  exact ht h'.2.1

theorem ownsRow_base {w : World} {B B' e size n : Nat} {v : Value} {xs : List Value} (h : w.ownsRow B' e size v n xs) (hB : B ≤ B') : w.ownsRow B e size v n xs := by
  obtain ⟨h1, h2⟩ := h
  refine ⟨h1, ?_⟩
  rcases h2 with h2 | ⟨g, cap, cur, hv, hg, r⟩
  · exact Or.inl h2
  · exact Or.inr ⟨g, cap, cur, hv, Nat.le_trans hB hg, r⟩

theorem ownsRow_below {w w' : World} {B e size n : Nat} {v : Value} {xs : List Value} (h : w.ownsRow B e size v n xs) (hb : Below w.heap.size w w') : w'.ownsRow B e size v n xs :=
  ownsRow_same h fun g hg => hb.block g (h.lt g hg).2

theorem ownsRow_form {w : World} {base e size n : Nat} {a : Option Addr} {c : Nat} {xs : List Value} (h : w.ownsRow base e size (.slice a n c) n xs) (hn : 0 < c) : ∃ g, a = some ⟨g, 0, none⟩ ∧ base ≤ g ∧ g < w.heap.size ∧ n ≤ c := by
  rcases h.2 with ⟨h', _⟩ | ⟨g, cap, cur, hv, hb, hg, hnc, _⟩
  · simp at h'; omega
  · simp only [Value.slice.injEq] at hv
    obtain ⟨rfl, _, rfl⟩ := hv
    refine ⟨g, rfl, hb, ?_, hnc⟩
    rcases Nat.lt_or_ge g w.heap.size with hlt | hge
    · exact hlt
    · rw [Array.getElem?_eq_none hge] at hg; cases hg

theorem ownsRow_cap {w : World} {base e size n : Nat} {a : Option Addr} {c : Nat} {xs : List Value} (h : w.ownsRow base e size (.slice a n c) n xs) : n ≤ c := by
  rcases h.2 with ⟨h', h0⟩ | ⟨g, cap, cur, hv, hb, hg, hnc, _⟩
  · omega
  · simp only [Value.slice.injEq] at hv
    omega

/-- A row's first n elements, by themselves. -/
theorem ownsRow_cut {w : World} {base e n m c g : Nat} {xs zs : List Value} (h : w.ownsRow base e 1 (.slice (some ⟨g, 0, none⟩) (n + m) c) (n + m) (xs ++ zs)) (hx : xs.length = n) : w.ownsRow base e 1 (.slice (some ⟨g, 0, none⟩) n c) n xs := by
  obtain ⟨h1, h2⟩ := h
  refine ⟨by omega, ?_⟩
  rcases h2 with ⟨h', _⟩ | ⟨g', cap, cur, hv, hb, hg, hnc, hcm, hcs, htake⟩
  · simp at h'
  · simp only [Value.slice.injEq, Option.some.injEq, Addr.mk.injEq, and_true, true_and] at hv
    obtain ⟨rfl, rfl⟩ := hv
    refine Or.inr ⟨g, c, cur, rfl, hb, hg, by omega, hcm, hcs, ?_⟩
    have := congrArg (List.take n) htake
    rw [List.take_take, Nat.min_eq_left (by omega)] at this
    rw [Nat.mul_one, this, List.take_left' hx]

theorem own_cell {w : World} {B e n c g : Nat} {xs : List Value} (h : w.ownsRow B e 1 (.slice (some ⟨g, 0, none⟩) n c) n xs) (k : Nat) (v : Value) (hk : xs[k]? = some v) : w.cell? ⟨g, k, none⟩ = some v := by
  have hl : xs.length = n := by have := h.1; simpa using this
  have hlt : k < xs.length := by
    rcases Nat.lt_or_ge k xs.length with h' | h'
    · exact h'
    · rw [List.getElem?_eq_none h'] at hk; cases hk
  rw [h.cellAt k (by omega), hk]

def blkOf (a : Option Addr) : Option Nat := a.map (·.block)

theorem ownBlock_slice (a : Option Addr) (n c : Nat) : (Value.slice a n c).ownBlock = blkOf a := by cases a <;> rfl

theorem cell_lt {w : World} {b o : Nat} {v : Value} (h : w.cell? ⟨b, o, none⟩ = some v) : b < w.heap.size := World.block_lt_of_cell? w _ h

/-- 'make([]T, n, c)', n and c variables, one cell an element. -/
theorem wpList_make_room {P : Program} (w : World) {ops : Array Oper} {rest : List Oper} {o : Oper} {a : Act} {Q : Exit → Act → World → Prop}
    (hg : o.guard = none) (l c : Operand) (t : TypeId) (hop : o.op = Op.makeSlice t l c)
    (e : TypeId) (i : TypeInfo) (z : Value) (h1 : P.underlying t = some (.slice e)) (h2 : P.info? e = some i) (h3 : i.zero = some z) (h4 : i.size = 1) (h5 : z.cells = #[z])
    (kl kc : IntKind) (L C : Int) (n m : Nat) (hl : a.eval l = .int kl L) (hc : a.eval c = .int kc C) (hL : L = (n : Int)) (hC : C = (m : Int)) (hnm : n ≤ m) (b2 : i.bytes * m ≤ 281474976710656) (b3 : m ≤ maxLen)
    (hK : ∀ w', w'.ownsRow w.heap.size e 1 (.slice (some ⟨w.heap.size, 0, none⟩) n m) n (List.replicate n z) → w'.heap[w.heap.size]? = some (.cells (List.replicate m z).toArray e) → w.grownBy w' none → wpList P ops Q rest (a.put o.dst (.slice (some ⟨w.heap.size, 0, none⟩) n m)) w') :
    wpList P ops Q (o :: rest) a w := by
  refine wpList_plain hg fun K hK' => ?_
  have h63 : (m : Int) ≤ 9223372036854775807 := by have := b3; unfold maxLen at this; omega
  have hb' : (i.bytes : Int) * (m : Int) ≤ 281474976710656 := by
    have h : ((i.bytes * m : Nat) : Int) ≤ 281474976710656 := by omega
    rwa [Int.natCast_mul] at h
  have hr := run_make (P := P) w t e i z h1 h2 h3 kl kc n m (by omega) (by omega) hb' h63
  simp only [Int.toNat_natCast] at hr
  have hcells : madeCells z.cells (m * i.size) = (List.replicate m z).toArray := by
    rw [h4, h5, Nat.mul_one]
    apply Array.ext'
    rw [toList_madeCells_one]
  rw [hcells] at hr
  subst hL
  subst hC
  unfold Oper.wp
  simp [execOp, hop, hl, hc, hr, Result.andThen]
  refine hK' _ _ (hK _ ?_ (heap_alloc_new w _) (World.grownBy_alloc w _ none))
  refine ⟨by simp, .inr ⟨w.heap.size, m, _, rfl, Nat.le_refl _, heap_alloc_new w _, hnm, b3, by simp, ?_⟩⟩
  simp [List.take_replicate, Nat.min_eq_left hnm]

/-- A slice that came in: nil, or it leads to a row of 'n' elements. -/
def InRow (w : World) (a : Option Addr) (n c : Nat) (xs : List Int) : Prop :=
  xs.length = n ∧ ((a = none ∧ n = 0 ∧ c = 0) ∨ ∃ x, a = some x ∧ ∀ i, i < n → w.cell? (x.add i) = some (by8 (xs.getD i 0)))

theorem InRow.at {w : World} {a : Option Addr} {n c : Nat} {xs : List Int} (h : InRow w a n c xs) (k : Nat) (hk : k < n) : ∃ b off, a = some ⟨b, off, none⟩ ∧ w.cell? ⟨b, off + k, none⟩ = some (by8 (xs.getD k 0)) := by
  obtain ⟨_, h | ⟨x, rfl, hc⟩⟩ := h
  · omega
  · obtain ⟨b, off, spot⟩ := x
    have hspot : spot = none := by simpa [Addr.add] using World.cell?_spot (hc 0 (by omega))
    subst hspot
    have := hc k hk
    rw [add_plain] at this
    exact ⟨b, off, rfl, this⟩

theorem InRow.below {w w' : World} {a : Option Addr} {n c : Nat} {xs : List Int} (h : InRow w a n c xs) (hb : Below w.heap.size w w') : InRow w' a n c xs := by
  refine ⟨h.1, ?_⟩
  rcases h.2 with h2 | ⟨x, hx, hc⟩
  · exact .inl h2
  · refine .inr ⟨x, hx, fun i hi => ?_⟩
    rw [← hc i hi]
    exact hb.cell (World.block_lt_of_cell? w _ (hc i hi))

/-- A row of the call's own, handed to a callee that reads it. -/
theorem InRow.ofOwn {w : World} {B n c : Nat} {a : Option Addr} {xs : List Int} (h : w.ownsRow B 5 1 (.slice a n c) n (xs.map by8)) : InRow w a n c xs := by
  have hl : xs.length = n := by have := h.1; simpa using this
  refine ⟨hl, ?_⟩
  rcases h.2 with ⟨h', _⟩ | ⟨g, cap, cur, hv, hb, hg, hnc, _⟩
  · simp at h'; exact .inl ⟨h'.1, h'.2.1, h'.2.2⟩
  · simp only [Value.slice.injEq] at hv
    obtain ⟨rfl, _, rfl⟩ := hv
    refine .inr ⟨_, rfl, fun i hi => ?_⟩
    rw [add_plain, Nat.zero_add]
    refine own_cell h i _ ?_
    simp [show i < xs.length by omega]

theorem below_trans {a b c : World} (h : Below a.heap.size a b) (k : Below b.heap.size b c) : Below a.heap.size a c := h.trans (k.mono h.size)

theorem belowDrewN {B : Nat} {a w : World} (h : Below B a w) (n : Nat) : Below B a (w.drewN n) := h.trans ⟨rfl, rfl, rfl, Nat.le_refl _, fun _ _ => rfl⟩

end Go.Proofs.Qxb6001556a
