/-
  Seat b6001222a: what 'w.f = append(w.f, x)' does to a watcher in memory. No walk.
-/
import Derived.Test.Qxb6001222aInv
namespace Go.Proofs.Qxb6001222a
open Go.RowKit Go.WideShapes

/-- What 'w.f = append(w.f, x)' leaves (w1: behind the append; then the store into the watcher's field j + 1). -/
structure Pushed (wr w2 : World) (B wb j : Nat) (L : List Value) (e size : Nat) (row v' : Value) (n' : Nat) (xs' : List Value) : Prop where
  os : w2.os = wr.os
  tape : w2.tape = wr.tape
  output : w2.output = wr.output
  size' : wr.heap.size ≤ w2.heap.size
  blk : WBlk w2 wb (L.set j v')
  own : w2.ownsRow B e size v' n' xs'
  rest : ∀ k, k < wr.heap.size → k ≠ wb → some k ≠ row.ownBlock → w2.heap[k]? = wr.heap[k]?

theorem pushed {wr w1 : World} {B wb j : Nat} {L : List Value} {e size n n' m : Nat} {row v' : Value} {xs xs' : List Value} {o : Obj} (hB : WBlk wr wb L) (hj : j < L.length) (hrow : wr.ownsRow B e size row m xs) (he : e ≠ 75)
    (hg : ((wr.alloc o).drewN n).grownBy w1 row.ownBlock) (hown : w1.ownsRow B e size v' n' xs') : Pushed wr (w1.setCell ⟨wb, j + 1, none⟩ v') B wb j L e size row v' n' xs' := by
  have hwb := hB.lt
  have hne : some wb ≠ row.ownBlock := by
    obtain ⟨c0, r, hb⟩ := hB
    exact ownsRow_ne hrow hb (fun h => he h.symm)
  have hB1 : WBlk w1 wb L := hB.same (far_heap hg hwb hne)
  have hs := hg.size
  refine ⟨hg.os, hg.tape, hg.output, ?_, hB1.set j v' hj, ?_, ?_⟩
  · simp at hs
    simp [World.setCell]; omega
  · refine ownsRow_setCell_other hown ?_ _
    obtain ⟨c0, r, hb⟩ := hB1
    exact fun h => ownsRow_ne hown hb (fun h => he h.symm) h.symm
  · intro k hk h1 h2
    rw [heap_setCell_other w1 _ k v' (by simpa using h1)]
    exact far_heap hg hk h2

theorem Pushed.fr {wr w2 w : World} {B wb j : Nat} {L : List Value} {e size n' : Nat} {row v' : Value} {xs' : List Value} {ra la : Option Addr} (h : Pushed wr w2 B wb j L e size row v' n' xs') (hF : Fr wb ra la w wr)
    (hr : ∀ k, row.ownBlock = some k → some k = blkOf ra ∨ some k = blkOf la ∨ w.heap.size ≤ k) : Fr wb ra la w w2 := by
  refine ⟨h.os.trans hF.os, h.tape.trans hF.tape, h.output.trans hF.output, Nat.le_trans hF.size h.size', fun k hk h1 h2 h3 => ?_⟩
  have := hF.size
  rw [h.rest k (by omega) h1 (fun e => ?_), hF.block k hk h1 h2 h3]
  rcases hr k e.symm with h4 | h4 | h4
  · exact h2 h4
  · exact h3 h4
  · omega

/-- A row's address behind an append. -/
theorem new_of_lies {S H g n c : Nat} {a : Option Addr} (hat : (Value.slice a n c).ownBlock = some g ∨ g = H) (hS : S ≤ H) : New S a (some ⟨g, 0, none⟩) := by
  intro k hk
  have hk' : g = k := by simpa [blkOf] using hk
  subst hk'
  rcases hat with h | h
  · left; rw [← ownBlock_slice a n c]; exact h
  · right; omega

end Go.Proofs.Qxb6001222a
