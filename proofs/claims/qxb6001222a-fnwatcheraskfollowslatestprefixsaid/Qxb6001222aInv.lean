/-
  Seat b6001222a: what lies in memory for a watcher: her own block, the row of runs, the row of live places; frames.
-/
import Derived.Test.Qxb6001222aPref
import Derived.Deep.AppendLies
import Derived.OneCell
namespace Go.Proofs.Qxb6001222a
open Go.RowKit Go.WideShapes

/-! ### small laws on rows -/
theorem ownsRow_same {w w' : World} {base e size n : Nat} {v : Value} {xs : List Value} (h : w.ownsRow base e size v n xs) (hb : ∀ g, v.ownBlock = some g → w'.heap[g]? = w.heap[g]?) : w'.ownsRow base e size v n xs := by
  obtain ⟨h1, h2⟩ := h
  refine ⟨h1, ?_⟩
  rcases h2 with h2 | ⟨g, cap, cur, hv, hg, hh, r⟩
  · exact Or.inl h2
  · refine Or.inr ⟨g, cap, cur, hv, hg, ?_, r⟩
    rw [hb g (by rw [hv]; rfl)]; exact hh

theorem ownsRow_kind {w : World} {base e size n : Nat} {v : Value} {xs : List Value} (h : w.ownsRow base e size v n xs) : ∀ g, v.ownBlock = some g → ∃ c, w.heap[g]? = some (.cells c e (0, 0)) := by
  intro g hg
  rcases h.2 with ⟨rfl, _⟩ | ⟨g', cap, cur, rfl, _, hgg, _⟩
  · simp [Value.ownBlock] at hg
  · simp [Value.ownBlock] at hg
    subst hg
    exact ⟨cur, hgg⟩

/-- A row's block is no block of another type. -/
theorem ownsRow_ne {w : World} {base e size n : Nat} {v : Value} {xs : List Value} (h : w.ownsRow base e size v n xs) {k t : Nat} {c : Array Value} {fr : Nat × Nat} (hk : w.heap[k]? = some (.cells c t fr)) (ht : t ≠ e) : some k ≠ v.ownBlock := by
  intro e1
  obtain ⟨c', h'⟩ := ownsRow_kind h k e1.symm
  rw [hk] at h'
  simp only [Option.some.injEq, Obj.cells.injEq] at h'
  exact ht h'.2.1

theorem ownsRow_form {w : World} {base e size n : Nat} {a : Option Addr} {c : Nat} {xs : List Value} (h : w.ownsRow base e size (.slice a n c) n xs) (hn : 0 < n) : ∃ g, a = some ⟨g, 0, none⟩ ∧ base ≤ g ∧ g < w.heap.size := by
  obtain ⟨g, cap, hv, hb, hl⟩ := h.form hn
  simp only [Value.slice.injEq] at hv
  exact ⟨g, hv.1, hb, hl⟩

/-- Behind 'append(xs, x)': the one-element block, a draw, the append: another block is as it was. -/
theorem far_heap {wr w1 : World} {o : Obj} {row : Option Nat} {n b : Nat} (hg : ((wr.alloc o).drewN n).grownBy w1 row) (hb : b < wr.heap.size) (hne : some b ≠ row) : w1.heap[b]? = wr.heap[b]? := by
  rw [hg.block b (by simp; omega) hne]
  exact Below.heap_alloc wr o b hb

theorem far_cell {wr w1 : World} {o : Obj} {row : Option Nat} {n b : Nat} (hg : ((wr.alloc o).drewN n).grownBy w1 row) (hb : b < wr.heap.size) (hne : some b ≠ row) (j : Nat) : w1.cell? ⟨b, j, none⟩ = wr.cell? ⟨b, j, none⟩ :=
  World.cell?_of_block (far_heap hg hb hne)

theorem far_free {wr w1 : World} {o : Obj} {row : Option Nat} {n b : Nat} (hg : ((wr.alloc o).drewN n).grownBy w1 row) (hb : b < wr.heap.size) (hne : some b ≠ row) (j : Nat) : w1.frozen? ⟨b, j, none⟩ = wr.frozen? ⟨b, j, none⟩ :=
  World.frozen?_of_block (far_heap hg hb hne)

/-! ### a watcher's own block -/
def WBlk (w : World) (wb : Nat) (L : List Value) : Prop := ∃ c0 r, w.heap[wb]? = some (.cells (c0 :: (L ++ r)).toArray 75 (0, 0))

theorem WBlk.cell {w : World} {wb : Nat} {L : List Value} (h : WBlk w wb L) (j : Nat) (v : Value) (hj : L[j]? = some v) : w.cell? ⟨wb, j + 1, none⟩ = some v := by
  obtain ⟨c0, r, hb⟩ := h
  have hl : j < L.length := by
    rcases Nat.lt_or_ge j L.length with h' | h'
    · exact h'
    · rw [List.getElem?_eq_none h'] at hj; cases hj
  rw [cell_of_row w wb _ _ 75 (0, 0) hb, List.getElem?_toArray, List.getElem?_cons_succ, List.getElem?_append_left hl, hj]

theorem WBlk.free {w : World} {wb : Nat} {L : List Value} (h : WBlk w wb L) (j : Nat) : w.frozen? ⟨wb, j, none⟩ = false := by
  obtain ⟨c0, r, hb⟩ := h
  exact frozen_of_row w wb j _ 75 hb

theorem WBlk.lt {w : World} {wb : Nat} {L : List Value} (h : WBlk w wb L) : wb < w.heap.size := by
  obtain ⟨c0, r, hb⟩ := h
  exact lt_of_block hb

theorem WBlk.set {w : World} {wb : Nat} {L : List Value} (h : WBlk w wb L) (j : Nat) (v : Value) (hj : j < L.length) : WBlk (w.setCell ⟨wb, j + 1, none⟩ v) wb (L.set j v) := by
  obtain ⟨c0, r, hb⟩ := h
  refine ⟨c0, r, ?_⟩
  rw [heap_setCell_same w wb (j + 1) _ 75 v hb, List.setIfInBounds_toArray, List.set_cons_succ, List.set_append_left _ _ hj]

theorem WBlk.same {w w' : World} {wb : Nat} {L : List Value} (h : WBlk w wb L) (hb : w'.heap[wb]? = w.heap[wb]?) : WBlk w' wb L := by
  obtain ⟨c0, r, hh⟩ := h
  exact ⟨c0, r, hb.trans hh⟩

/-! ### runs -/
def runCells (r : Run) : List Value := [.string r.p, .int .i64 r.a, .int .u64 r.lo, .int .u64 r.wh, .int .u64 0, .string ByteArray.empty, .int .i64 0, .slice none 0 0]

def flat (rs : List Run) : List Value := rs.flatMap runCells

theorem flat_length (rs : List Run) : (flat rs).length = rs.length * 8 := by
  induction rs with
  | nil => rfl
  | cons r rs ih => simp only [flat, List.flatMap_cons, List.length_append, List.length_cons] at *; simp only [runCells, List.length_cons, List.length_nil]; omega

theorem flat_snoc (rs : List Run) (r : Run) : flat (rs ++ [r]) = flat rs ++ runCells r := by simp [flat]

theorem flat_at : ∀ (rs : List Run) (n j : Nat) (_ : n < rs.length) (_ : j < 8), (flat rs)[n * 8 + j]? = (runCells (rs.getD n run0))[j]?
  | r :: rs, 0, j, _, hj => by
    simp only [flat, List.flatMap_cons]
    rw [List.getElem?_append_left (by simp [runCells]; omega)]
    simp
  | r :: rs, n + 1, j, hn, hj => by
    have ih := flat_at rs n j (by simpa using hn) hj
    simp only [flat, List.flatMap_cons] at *
    have hl : (runCells r).length = 8 := rfl
    rw [List.getElem?_append_right (by rw [hl]; omega), hl, show (n + 1) * 8 + j - 8 = n * 8 + j by omega, ih]
    simp

/-! ### the watcher whole -/
structure WInv (w : World) (B wb : Nat) (p : ByteArray) (fr at' gn : Int) (ra : Option Addr) (rc : Nat) (la : Option Addr) (lc : Nat) (rs : List Run) (live : List Nat) : Prop where
  base : B ≤ wb
  blk : WBlk w wb [.string p, .int .u64 fr, .int .i64 at', .int .u64 gn, .slice ra rs.length rc, .slice la live.length lc]
  runs : w.ownsRow B 79 8 (.slice ra rs.length rc) rs.length (flat rs)
  liv : w.ownsRow B 3 1 (.slice la live.length lc) live.length (live.map fun n : Nat => Value.int .i64 (n : Int))
  ok : ∀ n ∈ live, n < rs.length

def blkOf (a : Option Addr) : Option Nat := a.map (·.block)

theorem ownBlock_slice (a : Option Addr) (n c : Nat) : (Value.slice a n c).ownBlock = blkOf a := by cases a <;> rfl

theorem WInv.wb_ne_ra {w : World} {B wb : Nat} {p : ByteArray} {fr at' gn : Int} {ra la : Option Addr} {rc lc : Nat} {rs : List Run} {live : List Nat} (h : WInv w B wb p fr at' gn ra rc la lc rs live) : some wb ≠ blkOf ra := by
  obtain ⟨c0, r, hb⟩ := h.blk
  rw [← ownBlock_slice]; exact ownsRow_ne h.runs hb (by decide)

theorem WInv.wb_ne_la {w : World} {B wb : Nat} {p : ByteArray} {fr at' gn : Int} {ra la : Option Addr} {rc lc : Nat} {rs : List Run} {live : List Nat} (h : WInv w B wb p fr at' gn ra rc la lc rs live) : some wb ≠ blkOf la := by
  obtain ⟨c0, r, hb⟩ := h.blk
  rw [← ownBlock_slice]; exact ownsRow_ne h.liv hb (by decide)

theorem WInv.ra_ne_la {w : World} {B wb : Nat} {p : ByteArray} {fr at' gn : Int} {ra la : Option Addr} {rc lc : Nat} {rs : List Run} {live : List Nat} (h : WInv w B wb p fr at' gn ra rc la lc rs live) : ∀ k, blkOf ra = some k → blkOf la ≠ some k := by
  intro k hk hk'
  obtain ⟨c, hc⟩ := ownsRow_kind h.runs k (by rw [ownBlock_slice]; exact hk)
  exact ownsRow_ne h.liv hc (by decide) (by rw [ownBlock_slice, hk'])

theorem WInv.same {w w' : World} {B wb : Nat} {p : ByteArray} {fr at' gn : Int} {ra la : Option Addr} {rc lc : Nat} {rs : List Run} {live : List Nat} (h : WInv w B wb p fr at' gn ra rc la lc rs live)
    (hw : w'.heap[wb]? = w.heap[wb]?) (hr : ∀ k, blkOf ra = some k → w'.heap[k]? = w.heap[k]?) (hl : ∀ k, blkOf la = some k → w'.heap[k]? = w.heap[k]?) : WInv w' B wb p fr at' gn ra rc la lc rs live :=
  ⟨h.base, h.blk.same hw, ownsRow_same h.runs (fun g hg => hr g (by rw [← ownBlock_slice]; exact hg)), ownsRow_same h.liv (fun g hg => hl g (by rw [← ownBlock_slice]; exact hg)), h.ok⟩

theorem WInv.drewN {w : World} {B wb : Nat} {p : ByteArray} {fr at' gn : Int} {ra la : Option Addr} {rc lc : Nat} {rs : List Run} {live : List Nat} (h : WInv w B wb p fr at' gn ra rc la lc rs live) (n : Nat) : WInv (w.drewN n) B wb p fr at' gn ra rc la lc rs live :=
  h.same rfl (fun _ _ => rfl) (fun _ _ => rfl)

theorem WInv.ra_lt {w : World} {B wb : Nat} {p : ByteArray} {fr at' gn : Int} {ra la : Option Addr} {rc lc : Nat} {rs : List Run} {live : List Nat} (h : WInv w B wb p fr at' gn ra rc la lc rs live) : ∀ k, blkOf ra = some k → B ≤ k ∧ k < w.heap.size :=
  fun k hk => h.runs.lt k (by rw [ownBlock_slice]; exact hk)

theorem WInv.la_lt {w : World} {B wb : Nat} {p : ByteArray} {fr at' gn : Int} {ra la : Option Addr} {rc lc : Nat} {rs : List Run} {live : List Nat} (h : WInv w B wb p fr at' gn ra rc la lc rs live) : ∀ k, blkOf la = some k → B ≤ k ∧ k < w.heap.size :=
  fun k hk => h.liv.lt k (by rw [ownBlock_slice]; exact hk)

theorem WInv.alloc {w : World} {B wb : Nat} {p : ByteArray} {fr at' gn : Int} {ra la : Option Addr} {rc lc : Nat} {rs : List Run} {live : List Nat} (h : WInv w B wb p fr at' gn ra rc la lc rs live) (o : Obj) : WInv (w.alloc o) B wb p fr at' gn ra rc la lc rs live :=
  h.same (Below.heap_alloc _ _ _ h.blk.lt) (fun k hk => Below.heap_alloc _ _ _ (h.ra_lt k hk).2) (fun k hk => Below.heap_alloc _ _ _ (h.la_lt k hk).2)

/-- The k-th live place, and the cells of the run there. -/
theorem WInv.liveAt {w : World} {B wb : Nat} {p : ByteArray} {fr at' gn : Int} {ra la : Option Addr} {rc lc : Nat} {rs : List Run} {live : List Nat} (h : WInv w B wb p fr at' gn ra rc la lc rs live) (k : Nat) (hk : k < live.length) :
    ∃ gl, la = some ⟨gl, 0, none⟩ ∧ w.cell? ⟨gl, k, none⟩ = some (.int .i64 (live.getD k 0 : Nat)) ∧ live.getD k 0 < rs.length := by
  obtain ⟨gl, hla, _, _⟩ := ownsRow_form h.liv (by omega)
  refine ⟨gl, hla, ?_, ?_⟩
  · have hv := h.liv
    rw [hla] at hv
    rw [hv.cellAt k (by omega)]
    simp [hk]
  · have e : live.getD k 0 = live[k] := by simp [hk]
    rw [e]; exact h.ok _ (List.getElem_mem _)

theorem WInv.runAt {w : World} {B wb : Nat} {p : ByteArray} {fr at' gn : Int} {ra la : Option Addr} {rc lc : Nat} {rs : List Run} {live : List Nat} (h : WInv w B wb p fr at' gn ra rc la lc rs live) (n : Nat) (hn : n < rs.length) :
    ∃ gr, ra = some ⟨gr, 0, none⟩ ∧ ∀ j, j < 8 → w.cell? ⟨gr, n * 8 + j, none⟩ = (runCells (rs.getD n run0))[j]? := by
  obtain ⟨gr, hra, _, _⟩ := ownsRow_form h.runs (by omega)
  refine ⟨gr, hra, fun j hj => ?_⟩
  have hv := h.runs
  rw [hra] at hv
  rw [hv.cellAt _ (by omega), flat_at rs n j hn hj]

/-- What may have turned from w to w': the watcher's block, her two rows; new blocks. -/
structure Fr (wb : Nat) (ra la : Option Addr) (w w' : World) : Prop where
  os : w'.os = w.os
  tape : w'.tape = w.tape
  output : w'.output = w.output
  size : w.heap.size ≤ w'.heap.size
  block : ∀ k, k < w.heap.size → k ≠ wb → some k ≠ blkOf ra → some k ≠ blkOf la → w'.heap[k]? = w.heap[k]?

/-- A row's address is the old one, or lies in a block from S on. -/
def New (S : Nat) (a a' : Option Addr) : Prop := ∀ k, blkOf a' = some k → blkOf a = some k ∨ S ≤ k

theorem New.refl (S : Nat) (a : Option Addr) : New S a a := fun _ h => .inl h

theorem New.trans {S S' : Nat} {a b c : Option Addr} (h : New S a b) (k : New S' b c) (hS : S ≤ S') : New S a c := by
  intro x hx
  rcases k x hx with h1 | h1
  · exact h x h1
  · exact .inr (by omega)

theorem Fr.refl (wb : Nat) (ra la : Option Addr) (w : World) : Fr wb ra la w w := ⟨rfl, rfl, rfl, Nat.le_refl _, fun _ _ _ _ _ => rfl⟩

theorem Fr.trans {wb : Nat} {ra la ra1 la1 : Option Addr} {w w1 w2 : World} (h : Fr wb ra la w w1) (k : Fr wb ra1 la1 w1 w2) (hr : New w.heap.size ra ra1) (hl : New w.heap.size la la1) : Fr wb ra la w w2 := by
  refine ⟨k.os.trans h.os, k.tape.trans h.tape, k.output.trans h.output, Nat.le_trans h.size k.size, fun x hx h1 h2 h3 => ?_⟩
  have := h.size
  rw [k.block x (by omega) h1 (fun e => ?_) (fun e => ?_), h.block x hx h1 h2 h3]
  · rcases hr x e.symm with h4 | h4
    · exact h2 h4.symm
    · omega
  · rcases hl x e.symm with h4 | h4
    · exact h3 h4.symm
    · omega

theorem Fr.drewN {wb : Nat} {ra la : Option Addr} {w w' : World} (h : Fr wb ra la w w') (n : Nat) : Fr wb ra la w (w'.drewN n) := ⟨h.os, h.tape, h.output, h.size, h.block⟩

theorem Fr.alloc {wb : Nat} {ra la : Option Addr} {w w' : World} (h : Fr wb ra la w w') (o : Obj) : Fr wb ra la w (w'.alloc o) :=
  ⟨h.os, h.tape, h.output, by have := h.size; simp; omega, fun x hx h1 h2 h3 => by have := h.size; rw [Below.heap_alloc w' o x (by omega)]; exact h.block x hx h1 h2 h3⟩

theorem Fr.setW {wb : Nat} {ra la : Option Addr} {w w' : World} (h : Fr wb ra la w w') (j : Nat) (v : Value) : Fr wb ra la w (w'.setCell ⟨wb, j, none⟩ v) :=
  ⟨h.os, h.tape, h.output, by have := h.size; simp [World.setCell]; omega, fun x hx h1 h2 h3 => by rw [heap_setCell_other w' _ x v (by simpa using h1)]; exact h.block x hx h1 h2 h3⟩

theorem Fr.grown {wb : Nat} {ra la : Option Addr} {w w' w2 : World} {row : Option Nat} (h : Fr wb ra la w w') (hg : w'.grownBy w2 row) (hr : ∀ k, row = some k → some k = blkOf ra ∨ some k = blkOf la ∨ w.heap.size ≤ k) : Fr wb ra la w w2 := by
  refine ⟨hg.os.trans h.os, hg.tape.trans h.tape, hg.output.trans h.output, Nat.le_trans h.size hg.size, fun x hx h1 h2 h3 => ?_⟩
  have := h.size
  rw [hg.block x (by omega) (fun e => ?_), h.block x hx h1 h2 h3]
  rcases hr x e.symm with h4 | h4 | h4
  · exact h2 h4
  · exact h3 h4
  · omega

/-- Below B nothing turns. -/
theorem Fr.below {wb B : Nat} {ra la : Option Addr} {w w' : World} (h : Fr wb ra la w w') (hB : B ≤ w.heap.size) (hw : B ≤ wb) (hr : ∀ k, blkOf ra = some k → B ≤ k) (hl : ∀ k, blkOf la = some k → B ≤ k) : Below B w w' :=
  ⟨h.os, h.tape, h.output, h.size, fun k hk => h.block k (by omega) (by omega) (fun e => by have := hr k e.symm; omega) (fun e => by have := hl k e.symm; omega)⟩

end Go.Proofs.Qxb6001222a
