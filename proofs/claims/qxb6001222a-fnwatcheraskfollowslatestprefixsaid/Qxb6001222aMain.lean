/-
  Seat b6001222a: what both laws on ask carry along. No walk.
-/
import Derived.Test.Qxb6001222aBytes
import Derived.Test.Qxb6001222aLaw
namespace Go.Proofs.Qxb6001222a
open Go.RowKit Go.WideShapes

theorem InRow.below {α : Type} {f : α → Value} {d : α} {w w' : World} {a : Option Addr} {n c : Nat} {xs : List α} (h : InRow f d w a n c xs) (hb : Below w.heap.size w w') : InRow f d w' a n c xs := by
  refine ⟨h.1, ?_⟩
  rcases h.2 with h2 | ⟨x, hx, hc⟩
  · exact .inl h2
  · refine .inr ⟨x, hx, fun i hi => ?_⟩
    rw [← hc i hi]
    exact hb.cell (World.block_lt_of_cell? w _ (hc i hi))

theorem ownsRow_below {w w' : World} {B e size n : Nat} {v : Value} {xs : List Value} (h : w.ownsRow B e size v n xs) (hb : Below w.heap.size w w') : w'.ownsRow B e size v n xs :=
  ownsRow_same h fun g hg => hb.block g (h.lt g hg).2

theorem below_trans {a b c : World} (h : Below a.heap.size a b) (k : Below b.heap.size b c) : Below a.heap.size a c := h.trans (k.mono h.size)

theorem belowDrewN {B : Nat} {a w : World} (h : Below B a w) (n : Nat) : Below B a (w.drewN n) := h.trans ⟨rfl, rfl, rfl, Nat.le_refl _, fun _ _ => rfl⟩

theorem WInv.lower {w : World} {B B' wb : Nat} {p : ByteArray} {fr at' gn : Int} {ra la : Option Addr} {rc lc : Nat} {rs : List Run} {live : List Nat} (h : WInv w B' wb p fr at' gn ra rc la lc rs live) (hB : B ≤ B') : WInv w B wb p fr at' gn ra rc la lc rs live :=
  ⟨Nat.le_trans hB h.base, h.blk, ownsRow_base h.runs hB, ownsRow_base h.liv hB, h.ok⟩

theorem WInv.frBelow {w w' : World} {B wb : Nat} {p : ByteArray} {fr at' gn : Int} {ra la : Option Addr} {rc lc : Nat} {rs : List Run} {live : List Nat} (h : WInv w B wb p fr at' gn ra rc la lc rs live) (hF : Fr wb ra la w w') : Below B w w' :=
  hF.below (by have := h.base; have := h.blk.lt; omega) h.base (fun k hk => (h.ra_lt k hk).1) (fun k hk => (h.la_lt k hk).1)

/-- The state of a script behind k watches. -/
structure Sc (w wr : World) (wb k : Nat) (p : ByteArray) (fr at' gn : Int) (ra : Option Addr) (rc : Nat) (la : Option Addr) (lc : Nat) (rs : List Run) (live : List Nat)
    (ka : Option Addr) (kc : Nat) (ks : List ByteArray) (va : Option Addr) (vc : Nat) (vs : List Int) (sa : Option Addr) (sc : Nat) (ss : List Bool) (ga : Option Addr) (gc : Nat) (gs : List Int) : Prop where
  inv : WInv wr w.heap.size wb p fr at' gn ra rc la lc rs live
  scr : Scr wr w.heap.size ka kc ks va vc vs sa sc ss ga gc gs
  bel : Below w.heap.size w wr
  lr : rs.length ≤ 257 * k
  ll : live.length ≤ k

theorem WInv.below {w w' : World} {B wb : Nat} {p : ByteArray} {fr at' gn : Int} {ra la : Option Addr} {rc lc : Nat} {rs : List Run} {live : List Nat} (h : WInv w B wb p fr at' gn ra rc la lc rs live) (hb : Below w.heap.size w w') : WInv w' B wb p fr at' gn ra rc la lc rs live :=
  h.same (hb.block _ h.blk.lt) (fun k hk => hb.block k (h.ra_lt k hk).2) (fun k hk => hb.block k (h.la_lt k hk).2)

/-- A row of ints of the call's own, made behind the watcher, stands behind an ask. -/
theorem row_fr {w w' : World} {B wb S n m c : Nat} {p : ByteArray} {fr at' gn : Int} {ra la : Option Addr} {rc lc : Nat} {rs : List Run} {live : List Nat} {xs : List Value} (h : WInv w B wb p fr at' gn ra rc la lc rs live)
    (ho : w.ownsRow S 3 1 (.slice (some ⟨S, 0, none⟩) n c) m xs) (hS : ∀ k, blkOf la = some k → k < S) (hF : Fr wb ra la w w') : w'.ownsRow S 3 1 (.slice (some ⟨S, 0, none⟩) n c) m xs := by
  refine ownsRow_same ho fun g hg => ?_
  have hgS : S = g := by simpa [Value.ownBlock] using hg
  subst hgS
  obtain ⟨cs, hc⟩ := ownsRow_kind ho S rfl
  refine hF.block S (lt_of_block hc) (fun e => ?_) ?_ (fun e => ?_)
  · obtain ⟨c0, r, hb⟩ := h.blk
    subst e
    rw [hc] at hb
    simp at hb
  · rw [← ownBlock_slice]; exact ownsRow_ne h.runs hc (by decide)
  · have := hS S e.symm
    omega

theorem own_live {w : World} {B g n c : Nat} {live : List Nat} (h : w.ownsRow B 3 1 (.slice (some ⟨g, 0, none⟩) n c) n (live.map fun n : Nat => Value.int .i64 (n : Int))) : ∀ j, j < n → w.cell? ⟨g, j, none⟩ = some (.int .i64 (live.getD j 0 : Nat)) := by
  intro j hj
  have hl : live.length = n := by have := h.1; simpa using this
  rw [h.cellAt j (by omega)]
  simp [show j < live.length by omega]

theorem below_ask {w w' : World} {B wb : Nat} {p : ByteArray} {fr at' gn : Int} {ra la : Option Addr} {rc lc : Nat} {rs : List Run} {live : List Nat} {o : Obj} (h : WInv w B wb p fr at' gn ra rc la lc rs live) (hF : Fr wb ra la (w.alloc o) w') : Below B w w' := by
  have hB : B ≤ w.heap.size := by have := h.base; have := h.blk.lt; omega
  exact ((Below.refl B w).alloc hB o).trans ((h.alloc o).frBelow hF)

theorem sc_start {w w1 w2 w3 w4 w5 : World} {ka va sa ga : Option Addr} {kc vc sc gc : Nat} {ks : List ByteArray} {vs gs : List Int} {ss : List Bool}
    (o1 : w1.ownsRow w.heap.size 9 1 (.slice ka ks.length kc) ks.length (ks.map Value.string)) (b1 : Below w.heap.size w w1)
    (o2 : w2.ownsRow w1.heap.size 38 1 (.slice va vs.length vc) vs.length (vs.map (Value.int .u64))) (b2 : Below w1.heap.size w1 w2)
    (o3 : w3.ownsRow w2.heap.size 4 1 (.slice sa ss.length sc) ss.length (ss.map Value.bool)) (b3 : Below w2.heap.size w2 w3)
    (o4 : w4.ownsRow w3.heap.size 38 1 (.slice ga gs.length gc) gs.length (gs.map (Value.int .u64))) (b4 : Below w3.heap.size w3 w4)
    (h5 : WInv w5 w4.heap.size w4.heap.size ByteArray.empty 0 0 0 none 0 none 0 [] []) (b5 : Below w4.heap.size w4 w5) :
    Sc w w5 w4.heap.size 0 ByteArray.empty 0 0 0 none 0 none 0 [] [] ka kc ks va vc vs sa sc ss ga gc gs := by
  have s1 := b1.size
  have s2 := b2.size
  have s3 := b3.size
  have s4 := b4.size
  refine ⟨h5.lower (by omega), ⟨?_, ?_, ?_, ?_⟩, below_trans (below_trans (below_trans (below_trans b1 b2) b3) b4) b5, by simp, by simp⟩
  · exact ownsRow_below (ownsRow_below (ownsRow_below (ownsRow_below o1 b2) b3) b4) b5
  · exact ownsRow_base (ownsRow_below (ownsRow_below (ownsRow_below o2 b3) b4) b5) (by omega)
  · exact ownsRow_base (ownsRow_below (ownsRow_below o3 b4) b5) (by omega)
  · exact ownsRow_base (ownsRow_below o4 b5) (by omega)

theorem Sc.next {w wr w2 : World} {wb k : Nat} {p key : ByteArray} {fr at' gn lo i g : Int} {ra la ra2 la2 : Option Addr} {rc lc rc2 lc2 : Nat} {rs : List Run} {live : List Nat} {ka va sa ga : Option Addr} {kc vc sc gc : Nat} {ks : List ByteArray} {vs gs : List Int} {ss : List Bool} {A : List Run × List Nat}
    (h : Sc w wr wb k p fr at' gn ra rc la lc rs live ka kc ks va vc vs sa sc ss ga gc gs) (hk : k < 257) (hA : askF rs live key i lo g = A)
    (hI : WInv w2 w.heap.size wb key lo i 0 ra2 rc2 la2 lc2 A.1 A.2) (hS : Scr w2 w.heap.size ka kc ks va vc vs sa sc ss ga gc gs) (hF : Fr wb ra la wr w2) :
    Sc w w2 wb (k + 1) key lo i 0 ra2 rc2 la2 lc2 A.1 A.2 ka kc ks va vc vs sa sc ss ga gc gs ∧ Und key A ∧ hasKey A key = true := by
  have hlen := askF_len rs live key i lo g
  rw [hA] at hlen
  have h1 := h.lr
  have h2 := h.ll
  have hu := askF_under (key := key) (i := i) (lo := lo) (gone := g) h.inv.ok
  rw [hA] at hu
  exact ⟨⟨hI, hS, h.bel.trans (h.inv.frBelow hF), by omega, by omega⟩, hu⟩

end Go.Proofs.Qxb6001222a
