/-
  Seat b6001222a: zzAskStep (28).
-/
import Derived.Test.Qxb6001222aClones
namespace Go.Proofs.Qxb6001222a
open Go.RowKit Go.WideShapes

theorem own_at {w : World} {B e n c : Nat} {a : Option Addr} {α : Type} {f : α → Value} {xs : List α} (h : w.ownsRow B e 1 (.slice a n c) n (xs.map f)) (d : α) (k : Nat) (hk : k < n) :
    ∃ g, a = some ⟨g, 0, none⟩ ∧ w.cell? ⟨g, k, none⟩ = some (f (xs.getD k d)) := by
  obtain ⟨g, rfl, _, _⟩ := ownsRow_form h (by omega)
  refine ⟨g, rfl, ?_⟩
  have hl : xs.length = n := by have := h.1; simpa using this
  rw [h.cellAt k (by omega)]
  simp [show k < xs.length by omega]

/-- The four cloned arguments, as rows of the call's own. -/
structure Scr (w : World) (B : Nat) (ka : Option Addr) (kc : Nat) (ks : List ByteArray) (va : Option Addr) (vc : Nat) (vs : List Int) (sa : Option Addr) (sc : Nat) (ss : List Bool) (ga : Option Addr) (gc : Nat) (gs : List Int) : Prop where
  keys : w.ownsRow B 9 1 (.slice ka ks.length kc) ks.length (ks.map Value.string)
  revs : w.ownsRow B 38 1 (.slice va vs.length vc) vs.length (vs.map (Value.int .u64))
  starts : w.ownsRow B 4 1 (.slice sa ss.length sc) ss.length (ss.map Value.bool)
  gones : w.ownsRow B 38 1 (.slice ga gs.length gc) gs.length (gs.map (Value.int .u64))

section
variable {w w' : World} {B : Nat} {ka va sa ga : Option Addr} {kc vc sc gc : Nat} {ks : List ByteArray} {vs gs : List Int} {ss : List Bool}

/-- Blocks of the types 9, 38 and 4 stand: so do the rows. -/
theorem Scr.same (h : Scr w B ka kc ks va vc vs sa sc ss ga gc gs) (hb : ∀ (k : Nat) (c : Array Value) (t : Nat), w.heap[k]? = some (Obj.cells c t (0, 0)) → t = 9 ∨ t = 38 ∨ t = 4 → w'.heap[k]? = w.heap[k]?) : Scr w' B ka kc ks va vc vs sa sc ss ga gc gs := by
  refine ⟨ownsRow_same h.keys (fun g hg => ?_), ownsRow_same h.revs (fun g hg => ?_), ownsRow_same h.starts (fun g hg => ?_), ownsRow_same h.gones (fun g hg => ?_)⟩
  · obtain ⟨c, hc⟩ := ownsRow_kind h.keys g hg; exact hb g c 9 hc (by simp)
  · obtain ⟨c, hc⟩ := ownsRow_kind h.revs g hg; exact hb g c 38 hc (by simp)
  · obtain ⟨c, hc⟩ := ownsRow_kind h.starts g hg; exact hb g c 4 hc (by simp)
  · obtain ⟨c, hc⟩ := ownsRow_kind h.gones g hg; exact hb g c 38 hc (by simp)

theorem Scr.alloc (h : Scr w B ka kc ks va vc vs sa sc ss ga gc gs) (o : Obj) : Scr (w.alloc o) B ka kc ks va vc vs sa sc ss ga gc gs :=
  h.same fun _ _ _ hc _ => Below.heap_alloc _ _ _ (lt_of_block hc)

theorem Scr.drewN (h : Scr w B ka kc ks va vc vs sa sc ss ga gc gs) (n : Nat) : Scr (w.drewN n) B ka kc ks va vc vs sa sc ss ga gc gs :=
  h.same fun _ _ _ _ _ => rfl

theorem Scr.setW (h : Scr w B ka kc ks va vc vs sa sc ss ga gc gs) {wb : Nat} {L : List Value} (hw : WBlk w wb L) (j : Nat) (v : Value) : Scr (w.setCell ⟨wb, j, none⟩ v) B ka kc ks va vc vs sa sc ss ga gc gs := by
  refine h.same fun k c t hc ht => ?_
  refine heap_setCell_other w _ k v (fun e => ?_)
  obtain ⟨c0, r, hb⟩ := hw
  simp at e; subst e
  rw [hc] at hb
  simp only [Option.some.injEq, Obj.cells.injEq] at hb
  rcases ht with h | h | h <;> (rw [h] at hb; exact absurd hb.2.1 (by decide))

theorem Scr.fr (h : Scr w B ka kc ks va vc vs sa sc ss ga gc gs) {B' wb : Nat} {p : ByteArray} {fr at' gn : Int} {ra la : Option Addr} {rc lc : Nat} {rs : List Run} {live : List Nat} (hI : WInv w B' wb p fr at' gn ra rc la lc rs live) (hF : Fr wb ra la w w') : Scr w' B ka kc ks va vc vs sa sc ss ga gc gs := by
  refine h.same fun k c t hc ht => ?_
  refine hF.block k (lt_of_block hc) (fun e => ?_) ?_ ?_
  · obtain ⟨c0, r, hb⟩ := hI.blk
    subst e
    rw [hc] at hb
    simp only [Option.some.injEq, Obj.cells.injEq] at hb
    rcases ht with h | h | h <;> (rw [h] at hb; exact absurd hb.2.1 (by decide))
  · rw [← ownBlock_slice]; exact ownsRow_ne hI.runs hc (by rcases ht with h | h | h <;> (rw [h]; decide))
  · rw [← ownBlock_slice]; exact ownsRow_ne hI.liv hc (by rcases ht with h | h | h <;> (rw [h]; decide))
end

def opCells (key : ByteArray) (rev : Int) (st : Bool) : Array Value :=
  #[.int .i64 0, .string ⟨#[87, 97, 116, 99, 104]⟩, .string key, .string ⟨#[]⟩, .string ⟨#[]⟩, .bool false, .int .u64 0, .int .i64 0, .bool false, .bool false, .int .u64 0, .int .u64 rev, .bool st, .string ⟨#[]⟩, .int .i64 0, .slice none 0 0, .bool false, .int .i64 0, .int .i64 0, .string ⟨#[]⟩]

theorem op_block (w : World) (key : ByteArray) (rev : Int) (st : Bool) : (w.alloc (.cells (opCells key rev st) 46)).heap[w.heap.size]? = some (.cells (opCells key rev st) 46) := heap_alloc_new w _

theorem op_cell (w : World) (key : ByteArray) (rev : Int) (st : Bool) : (w.alloc (.cells (opCells key rev st) 46)).cell? ⟨w.heap.size, 2, none⟩ = some (.string key) ∧
    (w.alloc (.cells (opCells key rev st) 46)).cell? ⟨w.heap.size, 11, none⟩ = some (.int .u64 rev) ∧ (w.alloc (.cells (opCells key rev st) 46)).cell? ⟨w.heap.size, 12, none⟩ = some (.bool st) := by
  refine ⟨?_, ?_, ?_⟩ <;> (rw [cell_of_row _ _ _ _ _ _ (op_block w key rev st)]; rfl)

theorem ret3 {s s' : ByteArray} {a a' : Int} {b b' : Bool} (h1 : s = s') (h2 : a = a') (h3 : b = b') : Ending.returned (.tuple #[.string s, .int .u64 a, .bool b]) = .returned (.tuple #[.string s', .int .u64 a', .bool b']) := by rw [h1, h2, h3]

set_option maxRecDepth 1000000 in
set_option maxHeartbeats 1000000 in
theorem askStep_any (B wb k : Nat) (p key : ByteArray) (fr at' gn rev lo g : Int) (st : Bool) (ra : Option Addr) (rc : Nat) (la : Option Addr) (lc : Nat) (rs : List Run) (live : List Nat)
    (ka va sa ga : Option Addr) (kc vc sc gc : Nat) (ks : List ByteArray) (vs gs : List Int) (ss : List Bool) (w : World)
    (h : WInv w B wb p fr at' gn ra rc la lc rs live) (hr : rs.length ≤ 400000) (hl : live.length ≤ 400000)
    (hS : Scr w B ka kc ks va vc vs sa sc ss ga gc gs) (hk : k < ks.length)
    (hkey : Hid (ks.getD k ByteArray.empty = key)) (hrev : Hid (vs.getD k 0 = rev)) (hst : Hid (ss.getD k false = st)) (hg : Hid (gs.getD k 0 = g)) (hlo : Hid (loF st rev = lo)) :
    Calls Try.prog 28 #[.pointer (some ⟨wb, 0, none⟩), .slice ka ks.length kc, .slice va vs.length vc, .slice sa ss.length sc, .slice ga gs.length gc, .int .i64 k] w fun e w' => e = .returned (.tuple #[.string key, .int .u64 rev, .bool st]) ∧
      ∃ ra' rc' la' lc', WInv w' B wb key lo k 0 ra' rc' la' lc' (askF rs live key k lo g).1 (askF rs live key k lo g).2 ∧ Scr w' B ka kc ks va vc vs sa sc ss ga gc gs ∧ Fr wb ra la w w' ∧ New w.heap.size ra ra' ∧ New w.heap.size la la' := by
  obtain ⟨gk, rfl, ck⟩ := own_at hS.keys ByteArray.empty k hk
  rw [hkey.out] at ck
  have H := hid h
  have HS := hid hS
  clear h hS
  go_enter Try.func28, Try.ntmps28
  go_upto_if 22 with fail
  go_cut [15] from 19 to 26 (fun s wx => s = .int .u64 g ∧ wx = w)
  case first =>
    by_cases hlt : k < gs.length
    · obtain ⟨gg, rfl, cg⟩ := own_at HS.out.gones 0 k hlt
      rw [hg.out] at cg
      go_wp2_with fail
      go_meet
      exact ⟨rfl, rfl⟩
    · have h0 := hid (show (0 : Int) = g by rw [← hg.out]; simp [List.getElem?_eq_none (show gs.length ≤ k by omega)])
      go_wp2_with fail
      go_meet
      exact ⟨congrArg (Value.int .u64) h0.out, rfl⟩
  case rest =>
    obtain ⟨rfl, rfl⟩ := hcut
    go_wp2_with fail
    refine (setGone g H.out).mono ?_
    rintro e w1 ⟨rfl, hw1⟩
    have HS1 := hid (HS.out.setW H.out.blk 4 (.int .u64 g))
    have H1 := hid (H.out.setGone g)
    have HF1 := hid ((Fr.refl wb ra la wc).setW 4 (.int .u64 g))
    rw [← hw1] at HS1 H1 HF1
    obtain ⟨gk', hgk', ck1⟩ := own_at HS1.out.keys ByteArray.empty k hk
    obtain rfl : gk = gk' := by simpa using hgk'
    rw [hkey.out] at ck1
    have hs1 : w1.heap.size = wc.heap.size := by rw [hw1]; simp [World.setCell]
    have HSZ := hid hs1
    clear hw1 ck HS hgk' hs1
    go_upto_if 33 with fail
    go_cut [16] from 27 to 37 (fun s wx => s = .int .u64 rev ∧ wx = w1)
    case first =>
      by_cases hlt : k < vs.length
      · obtain ⟨gg, rfl, cg⟩ := own_at HS1.out.revs 0 k hlt
        rw [hrev.out] at cg
        go_wp2_with fail
        go_meet
        exact ⟨rfl, rfl⟩
      · have h0 := hid (show (0 : Int) = rev by rw [← hrev.out]; simp [List.getElem?_eq_none (show vs.length ≤ k by omega)])
        go_wp2_with fail
        go_meet
        exact ⟨congrArg (Value.int .u64) h0.out, rfl⟩
    case rest =>
      obtain ⟨rfl, hwx⟩ := hcut
      subst hwx
      go_upto_if 41 with fail
      go_cut [17] from 38 to 45 (fun s wx => s = .bool st ∧ wx = wc)
      case first =>
        by_cases hlt : k < ss.length
        · obtain ⟨gg, rfl, cg⟩ := own_at HS1.out.starts false k hlt
          rw [hst.out] at cg
          go_wp2_with fail
          go_meet
          exact ⟨rfl, rfl⟩
        · have h0 := hid (show false = st by rw [← hst.out]; simp [List.getElem?_eq_none (show ss.length ≤ k by omega)])
          go_wp2_with fail
          go_meet
          exact ⟨congrArg Value.bool h0.out, rfl⟩
      case rest =>
        obtain ⟨rfl, hwx⟩ := hcut
        subst hwx
        have HO := hid (op_cell wc key rev st)
        have HOB := hid (op_block wc key rev st)
        go_wp2_with fail
        refine (zzAsk_any wc.heap.size key rev k lo st (H1.out.alloc _) hr hl (by exact HO.out.1) (by exact HO.out.2.1) (by exact HO.out.2.2) ⟨_, _, by exact HOB.out⟩ hlo).mono ?_
        rintro e w2 ⟨rfl, ra2, rc2, la2, lc2, hI2, hF2, hn1, hn2⟩
        have HI2 := hid hI2
        have HS2 := hid ((HS1.out.alloc _).fr (H1.out.alloc _) hF2)
        have HF2 := hid ((HF1.out.alloc _).trans hF2 (New.refl _ _) (New.refl _ _))
        have HN1 := hid hn1
        have HN2 := hid hn2
        obtain ⟨gk', hgk', ck2⟩ := own_at HS2.out.keys ByteArray.empty k hk
        obtain rfl : gk = gk' := by simpa using hgk'
        rw [hkey.out] at ck2
        clear hI2 hF2 hn1 hn2 HO HOB ck1 hgk'
        go_wp2_with fail
        go_ret3
        refine ⟨rfl, ra2, rc2, la2, lc2, HI2.out, HS2.out, HF2.out, ?_, ?_⟩
        · exact fun x hx => by rcases HN1.out x hx with h | h; exact .inl h; exact .inr (by have := HSZ.out; simp at h; omega)
        · exact fun x hx => by rcases HN2.out x hx with h | h; exact .inl h; exact .inr (by have := HSZ.out; simp at h; omega)

end Go.Proofs.Qxb6001222a
