/-
  Seat b6001222a: what ask's first loop holds in memory. No walk.
-/
import Derived.Test.Qxb6001222aBegin
import Derived.Test.Qxb6001222aPlainB
namespace Go.Proofs.Qxb6001222a
open Go.RowKit Go.WideShapes

def loF (st : Bool) (rev : Int) : Int := if st = true then wu (rev + 1) else max rev 1

/-- The first loop of ask: w: the world when ask began; live1, begun: what has been gathered. -/
structure L1 (w wr : World) (wb : Nat) (key : ByteArray) (lo i : Int) (ra : Option Addr) (rc : Nat) (rs : List Run) (la1 : Option Addr) (lc1 : Nat) (live1 : List Nat) (ba : Option Addr) (bc : Nat) (begun : List Run) : Prop where
  blk : WBlk wr wb [.string key, .int .u64 lo, .int .i64 i, .int .u64 0, .slice ra rs.length rc, .slice la1 live1.length lc1]
  liv : wr.ownsRow w.heap.size 3 1 (.slice la1 live1.length lc1) live1.length (live1.map fun n : Nat => Value.int .i64 (n : Int))
  beg : wr.ownsRow w.heap.size 79 8 (.slice ba begun.length bc) begun.length (flat begun)
  fr : Fr wb none none w wr

theorem L1.start {w : World} {B wb : Nat} {p key : ByteArray} {fr at' gn lo i : Int} {ra la : Option Addr} {rc lc : Nat} {rs : List Run} {live : List Nat} (h : WInv w B wb p fr at' gn ra rc la lc rs live) :
    L1 w (((((w.setCell ⟨wb, 1, none⟩ (.string key)).setCell ⟨wb, 2, none⟩ (.int .u64 lo)).setCell ⟨wb, 3, none⟩ (.int .i64 i)).setCell ⟨wb, 4, none⟩ (.int .u64 0)).setCell ⟨wb, 6, none⟩ (.slice none 0 0)) wb key lo i ra rc rs none 0 [] none 0 [] :=
  ⟨((((h.blk.set 0 _ (by simp)).set 1 _ (by simp)).set 2 _ (by simp)).set 3 _ (by simp)).set 5 _ (by simp), World.ownsRow_nil _ _ _ _, World.ownsRow_nil _ _ _ _,
    (((((Fr.refl wb none none w).setW 1 _).setW 2 _).setW 3 _).setW 4 _).setW 6 _⟩

theorem L1.old {w wr : World} {wb : Nat} {key : ByteArray} {lo i : Int} {ra la1 ba : Option Addr} {rc lc1 bc : Nat} {rs begun : List Run} {live1 : List Nat} (h : L1 w wr wb key lo i ra rc rs la1 lc1 live1 ba bc begun) {b : Nat} {o : Nat} {v : Value}
    (hc : w.cell? ⟨b, o, none⟩ = some v) (hne : b ≠ wb) : wr.cell? ⟨b, o, none⟩ = some v := by
  rw [← hc]
  exact World.cell?_of_block (h.fr.block b (World.block_lt_of_cell? w _ hc) hne (by simp [blkOf]) (by simp [blkOf]))

theorem L1.same {w wr wr' : World} {wb : Nat} {key : ByteArray} {lo i : Int} {ra la1 ba : Option Addr} {rc lc1 bc : Nat} {rs begun : List Run} {live1 : List Nat} (h : L1 w wr wb key lo i ra rc rs la1 lc1 live1 ba bc begun)
    (hos : wr'.os = wr.os) (ht : wr'.tape = wr.tape) (ho : wr'.output = wr.output) (hs : wr.heap.size ≤ wr'.heap.size) (hb : ∀ k, k < wr.heap.size → wr'.heap[k]? = wr.heap[k]?) : L1 w wr' wb key lo i ra rc rs la1 lc1 live1 ba bc begun :=
  ⟨h.blk.same (hb _ h.blk.lt), ownsRow_same h.liv (fun g hg => hb g (h.liv.lt g hg).2), ownsRow_same h.beg (fun g hg => hb g (h.beg.lt g hg).2),
    ⟨hos.trans h.fr.os, ht.trans h.fr.tape, ho.trans h.fr.output, Nat.le_trans h.fr.size hs, fun k hk h1 h2 h3 => (hb k (by have := h.fr.size; omega)).trans (h.fr.block k hk h1 h2 h3)⟩⟩

theorem L1.alloc {w wr : World} {wb : Nat} {key : ByteArray} {lo i : Int} {ra la1 ba : Option Addr} {rc lc1 bc : Nat} {rs begun : List Run} {live1 : List Nat} (h : L1 w wr wb key lo i ra rc rs la1 lc1 live1 ba bc begun) (o : Obj) : L1 w (wr.alloc o) wb key lo i ra rc rs la1 lc1 live1 ba bc begun :=
  h.same rfl rfl rfl (by simp) (fun k hk => Below.heap_alloc wr o k hk)

theorem L1.drewN {w wr : World} {wb : Nat} {key : ByteArray} {lo i : Int} {ra la1 ba : Option Addr} {rc lc1 bc : Nat} {rs begun : List Run} {live1 : List Nat} (h : L1 w wr wb key lo i ra rc rs la1 lc1 live1 ba bc begun) (n : Nat) : L1 w (wr.drewN n) wb key lo i ra rc rs la1 lc1 live1 ba bc begun :=
  h.same rfl rfl rfl (Nat.le_refl _) (fun _ _ => rfl)

/-- One run more has begun. -/
theorem L1.more {w wr w1 : World} {wb : Nat} {key : ByteArray} {lo i : Int} {ra la1 ba : Option Addr} {rc lc1 bc : Nat} {rs begun : List Run} {live1 : List Nat} (h : L1 w wr wb key lo i ra rc rs la1 lc1 live1 ba bc begun) {o : Obj} {n gg cap : Nat} {r : Run}
    (hown : w1.ownsRow w.heap.size 79 8 (.slice (some ⟨gg, 0, none⟩) (begun.length + 1) cap) (begun.length + 1) (flat begun ++ runCells r))
    (hg : ((wr.alloc o).drewN n).grownBy w1 (Value.slice ba begun.length bc).ownBlock) : L1 w w1 wb key lo i ra rc rs la1 lc1 live1 (some ⟨gg, 0, none⟩) cap (begun ++ [r]) := by
  have hs := hg.size
  have hs0 := h.fr.size
  simp at hs
  refine ⟨h.blk.same (far_heap hg h.blk.lt ?_), ownsRow_same h.liv (fun g hg' => far_heap hg (h.liv.lt g hg').2 ?_), ?_, ⟨hg.os.trans h.fr.os, hg.tape.trans h.fr.tape, hg.output.trans h.fr.output, by omega, fun k hk h1 h2 h3 => ?_⟩⟩
  · obtain ⟨c0, rr, hb⟩ := h.blk
    exact ownsRow_ne h.beg hb (by decide)
  · obtain ⟨c, hc⟩ := ownsRow_kind h.liv g hg'
    exact ownsRow_ne h.beg hc (by decide)
  · rw [flat_snoc]
    simpa using hown
  · rw [far_heap hg (by omega) (fun e => ?_), h.fr.block k hk h1 h2 h3]
    have := (h.beg.lt k e.symm).1
    omega

/-- One live place more. -/
theorem L1.lives {w wr w1 : World} {wb : Nat} {key : ByteArray} {lo i : Int} {ra la1 ba : Option Addr} {rc lc1 bc : Nat} {rs begun : List Run} {live1 : List Nat} (h : L1 w wr wb key lo i ra rc rs la1 lc1 live1 ba bc begun) {o : Obj} {n gg cap m : Nat}
    (hown : w1.ownsRow w.heap.size 3 1 (.slice (some ⟨gg, 0, none⟩) (live1.length + 1) cap) (live1.length + 1) ((live1.map fun n : Nat => Value.int .i64 (n : Int)) ++ [.int .i64 m]))
    (hg : ((wr.alloc o).drewN n).grownBy w1 (Value.slice la1 live1.length lc1).ownBlock) :
    L1 w (w1.setCell ⟨wb, 6, none⟩ (.slice (some ⟨gg, 0, none⟩) (live1.length + 1) cap)) wb key lo i ra rc rs (some ⟨gg, 0, none⟩) cap (live1 ++ [m]) ba bc begun := by
  have hp := pushed (j := 5) h.blk (by simp) h.liv (by decide) hg hown
  have hs0 := h.fr.size
  refine ⟨?_, ?_, ownsRow_same h.beg (fun g hg' => hp.rest g (h.beg.lt g hg').2 (fun e => ?_) (fun e => ?_)), hp.fr h.fr ?_⟩
  · have := hp.blk
    simpa using this
  · have := hp.own
    simpa using this
  · subst e
    obtain ⟨c0, rr, hb⟩ := h.blk
    exact ownsRow_ne h.beg hb (by decide) hg'.symm
  · obtain ⟨c, hc⟩ := ownsRow_kind h.beg g hg'
    exact ownsRow_ne h.liv hc (by decide) e
  · intro k hk
    exact .inr (.inr (h.liv.lt k hk).1)

theorem L1_ne {w wr : World} {wb : Nat} {key : ByteArray} {lo i : Int} {ra la1 ba : Option Addr} {rc lc1 bc : Nat} {rs begun : List Run} {live1 : List Nat} (h : L1 w wr wb key lo i ra rc rs la1 lc1 live1 ba bc begun) : some wb ≠ (Value.slice la1 live1.length lc1).ownBlock := by
  obtain ⟨c0, rr, hb⟩ := h.blk
  exact ownsRow_ne h.liv hb (by decide)

theorem news2 (wr : World) (o : Obj) (cs : Array Value) (t n : Nat) : ∀ j u, cs.toList[j]? = some u → (((wr.alloc o).alloc (.cells cs t)).drewN n).cell? ((⟨wr.heap.size + 1, 0, none⟩ : Addr).add j) = some u := by
  have h := heap_alloc_new (wr.alloc o) (.cells cs t)
  have e : (wr.alloc o).heap.size = wr.heap.size + 1 := by simp
  rw [e] at h
  exact World.news_of_block (w := ((wr.alloc o).alloc (.cells cs t)).drewN n) (fr := (0, 0)) h

theorem news3 (W : World) (cs : Array Value) (t S : Nat) (hS : W.heap.size = S) : ∀ j u, cs.toList[j]? = some u → (W.alloc (.cells cs t)).cell? ((⟨S, 0, none⟩ : Addr).add j) = some u := by
  have h := heap_alloc_new W (.cells cs t)
  rw [hS] at h
  exact World.news_of_block (fr := (0, 0)) h

/-- The local copy of a run, its watched text turned. -/
theorem L1.box {w wr : World} {wb : Nat} {key : ByteArray} {lo i : Int} {ra la1 ba : Option Addr} {rc lc1 bc : Nat} {rs begun : List Run} {live1 : List Nat} (h : L1 w wr wb key lo i ra rc rs la1 lc1 live1 ba bc begun) (o : Obj) (n j : Nat) (v : Value) :
    L1 w (((wr.alloc o).drewN n).setCell ⟨wr.heap.size, j, none⟩ v) wb key lo i ra rc rs la1 lc1 live1 ba bc begun :=
  h.same rfl rfl rfl (by simp [World.setCell]) (fun k hk => by rw [heap_setCell_other _ _ k v (by simp; omega)]; exact Below.heap_alloc wr o k hk)

theorem ownsRow_base {w : World} {B B' e size n : Nat} {v : Value} {xs : List Value} (h : w.ownsRow B' e size v n xs) (hB : B ≤ B') : w.ownsRow B e size v n xs := by
  obtain ⟨h1, h2⟩ := h
  refine ⟨h1, ?_⟩
  rcases h2 with h2 | ⟨g, cap, cur, hv, hg, r⟩
  · exact Or.inl h2
  · exact Or.inr ⟨g, cap, cur, hv, Nat.le_trans hB hg, r⟩

/-- The second loop of ask: w: the world when ask began. -/
structure L2 (w wr : World) (B wb : Nat) (key : ByteArray) (lo i : Int) (ra ra' : Option Addr) (rc' : Nat) (la' : Option Addr) (lc' : Nat) (st : List Run × List Nat) (ba : Option Addr) (bc : Nat) (begun : List Run) : Prop where
  inv : WInv wr B wb key lo i 0 ra' rc' la' lc' st.1 st.2
  beg : wr.ownsRow w.heap.size 79 8 (.slice ba begun.length bc) begun.length (flat begun)
  fr : Fr wb ra none w wr
  nr : New w.heap.size ra ra'
  nl : New w.heap.size none la'
  ne : ∀ k, blkOf ba = some k → blkOf ra' ≠ some k

theorem Fr.wide {wb : Nat} {ra la2 : Option Addr} {w w' : World} (h : Fr wb ra none w w') : Fr wb ra la2 w w' := ⟨h.os, h.tape, h.output, h.size, fun k hk h1 h2 _ => h.block k hk h1 h2 (by simp [blkOf])⟩

theorem New.wide {S : Nat} {a a' : Option Addr} (h : New S none a') : New S a a' := fun k hk => by
  rcases h k hk with h1 | h1
  · simp [blkOf] at h1
  · exact .inr h1

theorem L2.start {w wr : World} {B wb : Nat} {p key : ByteArray} {fr at' gn lo i : Int} {ra la la1 ba : Option Addr} {rc lc lc1 bc : Nat} {rs begun : List Run} {live live1 : List Nat} (h : WInv w B wb p fr at' gn ra rc la lc rs live)
    (hL : L1 w wr wb key lo i ra rc rs la1 lc1 live1 ba bc begun) (hok : ∀ n ∈ live1, n < rs.length) : L2 w wr B wb key lo i ra ra rc la1 lc1 (rs, live1) ba bc begun := by
  have hwb := h.blk.lt
  have hB : B ≤ w.heap.size := by have := h.base; omega
  refine ⟨⟨h.base, hL.blk, ownsRow_same h.runs (fun g hg => ?_), ownsRow_base hL.liv hB, hok⟩, hL.beg, ⟨hL.fr.os, hL.fr.tape, hL.fr.output, hL.fr.size, fun k hk h1 _ _ => hL.fr.block k hk h1 (by simp [blkOf]) (by simp [blkOf])⟩, New.refl _ _, fun k hk => .inr ?_, fun k hk e => ?_⟩
  · rw [ownBlock_slice] at hg
    refine hL.fr.block g (h.ra_lt g hg).2 (fun e => ?_) (by simp [blkOf]) (by simp [blkOf])
    subst e; exact h.wb_ne_ra hg.symm
  · exact (hL.liv.lt k (by rw [ownBlock_slice]; exact hk)).1
  · have h1 := (h.ra_lt k e).2
    have h2 := (hL.beg.lt k (by rw [ownBlock_slice]; exact hk)).1
    omega

theorem L2.drewN {w wr : World} {B wb : Nat} {key : ByteArray} {lo i : Int} {ra ra' la' ba : Option Addr} {rc' lc' bc : Nat} {st : List Run × List Nat} {begun : List Run} (h : L2 w wr B wb key lo i ra ra' rc' la' lc' st ba bc begun) (n : Nat) : L2 w (wr.drewN n) B wb key lo i ra ra' rc' la' lc' st ba bc begun :=
  ⟨h.inv.drewN n, ownsRow_same h.beg (fun _ _ => rfl), h.fr.drewN n, h.nr, h.nl, h.ne⟩

theorem L2.step {w wr w2 : World} {B wb : Nat} {key : ByteArray} {lo i : Int} {ra ra' la' ra2 la2 ba : Option Addr} {rc' lc' rc2 lc2 bc : Nat} {st st2 : List Run × List Nat} {begun : List Run} {o : Obj} (h : L2 w wr B wb key lo i ra ra' rc' la' lc' st ba bc begun)
    (hI : WInv w2 B wb key lo i 0 ra2 rc2 la2 lc2 st2.1 st2.2) (hF : Fr wb ra' la' (wr.alloc o) w2) (hr : New (wr.alloc o).heap.size ra' ra2) (hl : New (wr.alloc o).heap.size la' la2) : L2 w w2 B wb key lo i ra ra2 rc2 la2 lc2 st2 ba bc begun := by
  have hs := h.fr.size
  have hsa : (wr.alloc o).heap.size = wr.heap.size + 1 := by simp
  refine ⟨hI, ownsRow_same h.beg (fun g hg => ?_), (h.fr.alloc o).trans hF h.nr h.nl, h.nr.trans hr (by omega), h.nl.trans hl (by omega), fun k hk e => ?_⟩
  · have hlt := (h.beg.lt g hg).2
    rw [hF.block g (by omega) (fun e => ?_) (fun e => ?_) (fun e => ?_)]
    · exact Below.heap_alloc wr o g hlt
    · subst e
      obtain ⟨c0, rr, hb⟩ := h.inv.blk
      exact ownsRow_ne h.beg hb (by decide) hg.symm
    · rw [ownBlock_slice] at hg
      exact h.ne g hg e.symm
    · obtain ⟨c, hc⟩ := ownsRow_kind h.beg g hg
      exact ownsRow_ne h.inv.liv hc (by decide) (by rw [ownBlock_slice]; exact e)
  · have hlt := (h.beg.lt k (by rw [ownBlock_slice]; exact hk)).2
    rcases hr k e with h1 | h1
    · exact h.ne k hk h1
    · omega

theorem L2.begAt {w wr : World} {B wb : Nat} {key : ByteArray} {lo i : Int} {ra ra' la' ba : Option Addr} {rc' lc' bc : Nat} {st : List Run × List Nat} {begun : List Run} (h : L2 w wr B wb key lo i ra ra' rc' la' lc' st ba bc begun) (n : Nat) (hn : n < begun.length) :
    ∃ gb, ba = some ⟨gb, 0, none⟩ ∧ ∀ j, j < 8 → wr.cell? ⟨gb, n * 8 + j, none⟩ = (runCells (begun.getD n run0))[j]? := by
  obtain ⟨gb, hba, _, _⟩ := ownsRow_form h.beg (by omega)
  refine ⟨gb, hba, fun j hj => ?_⟩
  have hv := h.beg
  rw [hba] at hv
  rw [hv.cellAt _ (by omega), flat_at begun n j hn hj]

theorem ask_end {wb : Nat} {ra la ra' la' ra2 la2 : Option Addr} {w wr w2 : World} (h : Fr wb ra none w wr) (hr : New w.heap.size ra ra') (hl : New w.heap.size none la') (hF : Fr wb ra' la' wr w2) (hr2 : New wr.heap.size ra' ra2) (hl2 : New wr.heap.size la' la2) :
    Fr wb ra la w w2 ∧ New w.heap.size ra ra2 ∧ New w.heap.size la la2 :=
  ⟨(h.trans hF hr hl).wide, hr.trans hr2 h.size, (hl.trans hl2 h.size).wide⟩

end Go.Proofs.Qxb6001222a
