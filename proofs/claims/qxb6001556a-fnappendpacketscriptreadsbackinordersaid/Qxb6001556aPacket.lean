/-
  Seat b6001556a: lenwire.AppendPacket (9).
-/
import Derived.Test.Qxb6001556aParts
namespace Go.Proofs.Qxb6001556a
open Go.RowKit Go.WideShapes

def hdr (n : Nat) (seq : Int) : List Int := [(n : Int) % 256, (n : Int) / 256 % 256, (n : Int) / 65536, seq]

/-- Behind AppendPacket's own growing: dst has the room. -/
structure PS (w wx : World) (B : Nat) (da : Option Addr) (nd dc : Nat) (xs : List Int) (pa : Option Addr) (np pc : Nat) (ys : List Int) (g cap : Nat) : Prop where
  room : nd + 4 + np ≤ cap
  capb : cap ≤ dc ∨ cap ≤ 2 * (nd + 4 + np)
  own : wx.ownsRow B 5 1 (.slice (some ⟨g, 0, none⟩) nd cap) nd (xs.map by8)
  pay : wx.ownsRow B 5 1 (.slice pa np pc) np (ys.map by8)
  ne : blkOf pa ≠ some g
  old : wx.ownsRow B 5 1 (.slice da nd dc) nd (xs.map by8)
  gr : w.grownBy wx (blkOf da)
  lies : (da = some ⟨g, 0, none⟩ ∧ dc = cap) ∨ w.heap.size ≤ g
  bs : B ≤ wx.heap.size
  dlt : ∀ k, blkOf da = some k → k < w.heap.size

/-- What AppendPacket leaves. -/
structure Packed (w w' : World) (B : Nat) (da : Option Addr) (nd dc : Nat) (xs : List Int) (pa : Option Addr) (np pc : Nat) (ys : List Int) (seq : Int) (g cap : Nat) : Prop where
  capb : cap ≤ dc ∨ cap ≤ 2 * (nd + 4 + np)
  own : w'.ownsRow B 5 1 (.slice (some ⟨g, 0, none⟩) (nd + 4 + np) cap) (nd + 4 + np) ((xs ++ (hdr np seq ++ ys)).map by8)
  pay : w'.ownsRow B 5 1 (.slice pa np pc) np (ys.map by8)
  old : w'.ownsRow B 5 1 (.slice da nd dc) nd (xs.map by8)
  gr : w.grownBy w' (blkOf da)
  lies : blkOf da = some g ∨ w.heap.size ≤ g

theorem size5 : (Try.prog.info? 5).map (·.size) = some 1 := by kernel_rfl

theorem grown_of_below {w w' : World} {row : Option Nat} (h : Below w.heap.size w w') : w.grownBy w' row := ⟨h.os, h.tape, h.output, h.size, fun k hk _ => h.block k hk⟩

theorem below_make {w w1 : World} (h : w.grownBy w1 none) : Below w.heap.size w w1 := (Below.refl _ _).grown h (Nat.le_refl _) (by intro k h; cases h)

theorem by8_one (xs : List Int) : ∀ v ∈ xs.map by8, v.oneCell' = true := by
  intro v hv
  rw [List.mem_map] at hv
  obtain ⟨x, _, rfl⟩ := hv
  rfl

/-- Where the copied bytes lie. -/
theorem cp_src {w w1 : World} {B nd dc : Nat} {da : Option Addr} {xs : List Int} (hD : w.ownsRow B 5 1 (.slice da nd dc) nd (xs.map by8)) (hb : Below w.heap.size w w1) (hn : 0 < xs.length) :
    ∃ ad, da = some ad ∧ ∀ j v, (xs.map by8)[j]? = some v → w1.cell? (ad.add j) = some v := by
  have hl : xs.length = nd := by have := hD.1; simpa using this
  have hc := ownsRow_cap hD
  obtain ⟨g, rfl, _, hlt, _⟩ := ownsRow_form hD (by omega)
  refine ⟨_, rfl, fun j v hv => ?_⟩
  rw [add_plain, Nat.zero_add]
  exact (hb.cell (by exact hlt)).trans (own_cell hD j v hv)

theorem pay_form {w : World} {B n c : Nat} {a : Option Addr} {xs : List Value} (h : w.ownsRow B 5 1 (.slice a n c) n xs) : (a = none ∧ n = 0 ∧ c = 0) ∨ ∃ g, a = some ⟨g, 0, none⟩ ∧ n ≤ c := by
  rcases h.2 with ⟨h', _⟩ | ⟨g, cap, cur, hv, hb, hg, hnc, _⟩
  · simp at h'; exact .inl ⟨h'.1, h'.2.1, h'.2.2⟩
  · simp only [Value.slice.injEq] at hv
    obtain ⟨rfl, _, rfl⟩ := hv
    exact .inr ⟨g, rfl, hnc⟩

theorem ps_grow {w w2 : World} {B : Nat} {da : Option Addr} {nd dc : Nat} {xs : List Int} {pa : Option Addr} {np pc : Nat} {ys : List Int} {m : Nat} (hD : w.ownsRow B 5 1 (.slice da nd dc) nd (xs.map by8)) (hP : w.ownsRow B 5 1 (.slice pa np pc) np (ys.map by8)) (hB : B ≤ w.heap.size)
    (hm : nd + 4 + np ≤ m) (hc : m ≤ dc ∨ m ≤ 2 * (nd + 4 + np)) (hx : m ≤ maxLen) (hb : Below w.heap.size w w2) (hh : w2.heap[w.heap.size]? = some (.cells (splice (List.replicate m (by8 0)) 0 (xs.map by8)).toArray 5 (0, 0))) :
    PS w w2 B da nd dc xs pa np pc ys w.heap.size m := by
  have hl : xs.length = nd := by have := hD.1; simpa using this
  have hs := hb.size
  refine ⟨hm, hc, ?_, ownsRow_below hP hb, fun e => ?_, ownsRow_below hD hb, grown_of_below hb, .inr (Nat.le_refl _), by omega, fun k hk => (hD.lt k (by rw [ownBlock_slice]; exact hk)).2⟩
  · refine ⟨by simp [hl], .inr ⟨w.heap.size, m, _, rfl, hB, hh, by omega, hx, ?_, ?_⟩⟩
    · simp [splice]; omega
    · simp [splice, hl]
  · have := (hP.lt w.heap.size (by rw [ownBlock_slice]; exact e)).2
    omega

theorem pay_after {wr w1 : World} {B n c g : Nat} {a : Option Addr} {xs : List Value} {o : Obj} (h : wr.ownsRow B 5 1 (.slice a n c) n xs) (hg : (wr.alloc o).grownBy w1 (some g)) (hne : blkOf a ≠ some g) : w1.ownsRow B 5 1 (.slice a n c) n xs := by
  refine (h.alloc o).kept hg ?_
  rw [ownBlock_slice]
  exact .inr hne

theorem packed_of {w wr w1 w2 : World} {B : Nat} {da : Option Addr} {nd dc : Nat} {xs : List Int} {pa : Option Addr} {np pc : Nat} {ys : List Int} {seq : Int} {g cap : Nat} {o : Obj} (hS : PS w wr B da nd dc xs pa np pc ys g cap)
    (h1 : w1.ownsRow B 5 1 (.slice (some ⟨g, 0, none⟩) (nd + 4) cap) (nd + 4) (xs.map by8 ++ (hdr np seq).map by8)) (g1 : (wr.alloc o).grownBy w1 (some g))
    (h2 : w2.ownsRow B 5 1 (.slice (some ⟨g, 0, none⟩) (nd + 4 + np) cap) (nd + 4 + np) (xs.map by8 ++ ((hdr np seq).map by8 ++ ys.map by8))) (g2 : w1.grownBy w2 (some g)) : Packed w w2 B da nd dc xs pa np pc ys seq g cap := by
  have hl : xs.length = nd := by have := hS.own.1; simpa using this
  have s1 := g1.size
  have s0 := hS.gr.size
  simp at s1
  have hblk : ∀ k, k < wr.heap.size → k ≠ g → w2.heap[k]? = wr.heap[k]? := by
    intro k hk hne
    rw [g2.block k (by omega) (by simpa using hne), g1.block k (by simp; omega) (by simpa using hne)]
    exact Below.heap_alloc wr o k hk
  have hcut : w2.ownsRow B 5 1 (.slice (some ⟨g, 0, none⟩) nd cap) nd (xs.map by8) := by
    rw [Nat.add_assoc] at h2
    exact ownsRow_cut h2 (by simp [hl])
  refine ⟨hS.capb, ?_, ?_, ?_, ?_, ?_⟩
  · simpa using h2
  · exact (pay_after hS.pay g1 hS.ne).kept g2 (by rw [ownBlock_slice]; exact .inr hS.ne)
  · rcases hS.lies with ⟨rfl, rfl⟩ | hle
    · exact hcut
    · refine ownsRow_same hS.old fun k hk => hblk k (hS.old.lt k hk).2 (fun e => ?_)
      subst e
      rw [ownBlock_slice] at hk
      exact absurd hle (by have := hS.dlt k hk; omega)
  · refine ⟨(g2.os.trans g1.os).trans hS.gr.os, (g2.tape.trans g1.tape).trans hS.gr.tape, (g2.output.trans g1.output).trans hS.gr.output, by have := g2.size; omega, fun k hk hne => ?_⟩
    rw [hblk k (by omega) (fun e => ?_), hS.gr.block k hk hne]
    rcases hS.lies with ⟨rfl, _⟩ | hle
    · exact hne (by rw [e]; rfl)
    · omega
  · rcases hS.lies with ⟨rfl, _⟩ | hle
    · exact .inl rfl
    · exact .inr hle

set_option maxRecDepth 1000000 in
set_option maxHeartbeats 1000000 in
theorem appendPacket (B : Nat) (da : Option Addr) (nd dc : Nat) (xs : List Int) (pa : Option Addr) (np pc : Nat) (ys : List Int) (seq : Int) (w : World)
    (hD : w.ownsRow B 5 1 (.slice da nd dc) nd (xs.map by8)) (hP : w.ownsRow B 5 1 (.slice pa np pc) np (ys.map by8)) (hne : ∀ k, blkOf da = some k → blkOf pa ≠ some k)
    (hB : B ≤ w.heap.size) (hd : dc ≤ 16777216) (hp : np ≤ 1048576) :
    Calls Try.prog 9 #[.slice da nd dc, .int .u8 seq, .slice pa np pc] w fun e w' => ∃ g cap, e = .returned (.slice (some ⟨g, 0, none⟩) (nd + 4 + np) cap) ∧ Packed w w' B da nd dc xs pa np pc ys seq g cap := by
  obtain rfl : xs.length = nd := by have := hD.1; simpa using this
  have hnd := ownsRow_cap hD
  have HD := hid hD
  have HP := hid hP
  have HNE := hid hne
  clear hD hP hne
  go_enter Try.func9, Try.ntmps9
  go_upto_if 23 with (go_at_call 14; refine (packetCount_one np _ (by omega)).mono ?_; rintro e w' ⟨rfl, rfl⟩)
  go_cut [0] from 17 to 39 (fun s wx => ∃ g cap, s = .slice (some ⟨g, 0, none⟩) xs.length cap ∧ PS w' wx B da xs.length dc xs pa np pc ys g cap)
  case first =>
    by_cases hroom : xs.length + 4 + np ≤ dc
    · obtain ⟨g, rfl, hg1, hg2, _⟩ := ownsRow_form HD.out (by omega)
      go_wp2_with fail
      go_meet
      exact ⟨g, dc, rfl, hroom, .inl (Nat.le_refl _), HD.out, HP.out, HNE.out g rfl, HD.out, World.grownBy.refl _ _, .inl ⟨rfl, rfl⟩, hB, fun k hk => (HD.out.lt k (by rw [ownBlock_slice]; exact hk)).2⟩
    · obtain ⟨i0, hi, hz0, hz1, hz2⟩ := info_parts Try.info5
      by_cases hmx : 2 * dc ≤ xs.length + (np + 4)
      · obtain ⟨m, hm1, hm2⟩ : ∃ m, m ≤ xs.length + (np + 4) ∧ xs.length + (np + 4) ≤ m := ⟨_, Nat.le_refl _, Nat.le_refl _⟩
        go_upto_region 4 with (at_make; go_must (refine wpList_make_room _ rfl _ _ 22 rfl 5 i0 (.int .u8 0) Try.underlying22 hi hz0 hz1 rfl _ _ _ _ xs.length m rfl rfl rfl (by omega) (by omega) (by rw [hz2]; omega) (by unfold maxLen; omega) ?_; intro w1 hown1 hheap1 hgr1))
        go_wp2_with (refine wpList_copy_splice rfl _ _ 22 22 rfl 5 Try.underlying22 size5 (some ⟨w'.heap.size, 0, none⟩) da xs.length m xs.length dc rfl rfl w'.heap.size 0 (List.replicate m (.int .u8 0)) 5 hheap1 (xs.map by8) (by simp) (fun h => ⟨rfl, cp_src HD.out (below_make hgr1) (by simpa using h)⟩) (by simp; omega) (by8_one xs) w'.heap.size w' (below_make hgr1) (Nat.le_refl _) ?_; intro w2 HG2 hb2)
        go_meet
        exact ⟨_, _, rfl, ps_grow HD.out HP.out hB (by omega) (by omega) (by unfold maxLen; omega) hb2 HG2.out⟩
      · obtain ⟨m, hm1, hm2⟩ : ∃ m, m ≤ 2 * dc ∧ 2 * dc ≤ m := ⟨_, Nat.le_refl _, Nat.le_refl _⟩
        go_upto_region 4 with (at_make; go_must (refine wpList_make_room _ rfl _ _ 22 rfl 5 i0 (.int .u8 0) Try.underlying22 hi hz0 hz1 rfl _ _ _ _ xs.length m rfl rfl rfl (by omega) (by omega) (by rw [hz2]; omega) (by unfold maxLen; omega) ?_; intro w1 hown1 hheap1 hgr1))
        go_wp2_with (refine wpList_copy_splice rfl _ _ 22 22 rfl 5 Try.underlying22 size5 (some ⟨w'.heap.size, 0, none⟩) da xs.length m xs.length dc rfl rfl w'.heap.size 0 (List.replicate m (.int .u8 0)) 5 hheap1 (xs.map by8) (by simp) (fun h => ⟨rfl, cp_src HD.out (below_make hgr1) (by simpa using h)⟩) (by simp; omega) (by8_one xs) w'.heap.size w' (below_make hgr1) (Nat.le_refl _) ?_; intro w2 HG2 hb2)
        go_meet
        exact ⟨_, _, rfl, ps_grow HD.out HP.out hB (by omega) (by omega) (by unfold maxLen; omega) hb2 HG2.out⟩
  case rest =>
    obtain ⟨g, cap, rfl, hS⟩ := hcut
    have hroom := hS.room
    have HS := hid hS
    clear hS
    go_wp2
    go_loopw [0, 1, 2, 9] (fun s0 s1 s2 _ wr => s0 = .slice (some ⟨g, 0, none⟩) xs.length cap ∧ s1 = .int .u8 seq ∧ s2 = .slice pa np pc ∧ wr = wc) (fun _ _ _ _ _ => 0)
    case atStart => exact ⟨rfl, rfl, rfl, rfl⟩
    case round =>
      obtain ⟨rfl, rfl, rfl, rfl⟩ := hrel
      obtain ⟨i0, hi, hz0, hz1, hz2⟩ := info_parts Try.info5
      rcases pay_form HS.out.pay with ⟨rfl, hn0, hc0⟩ | ⟨gp, rfl, hpc⟩
      · have HN0 := hid hn0
        have HC0 := hid hc0
        have hpc : np ≤ pc := by omega
        clear hn0 hc0
        go_wp2_with (at_builtin; go_must (refine wpList_append_fits _ rfl (.tmp 43) (.tmp 53) 22 rfl B 5 i0 1 Try.underlying22 hi hz1 g xs.length cap (xs.map by8) rfl (by exact HS.out.own.alloc _) ⟨wr.heap.size, 0, none⟩ 4 4 ((hdr np seq).map by8) rfl rfl (by exact World.news_of_block (cs := ((hdr np seq).map by8).toArray) (t := 5) (fr := (0, 0)) (heap_alloc_new wr _)) (by8_one _) (by omega) ?_))
        intro w1 hown1 hgrow1
        have O1 := hid hown1
        have P1 := hid (pay_after HS.out.pay hgrow1 HS.out.ne)
        have G1 := hid hgrow1
        clear hown1 hgrow1
        go_wp2_with (at_builtin; go_must (refine wpList_append_fits_any _ rfl (.tmp 55) (.tmp 58) 22 rfl B 5 i0 1 Try.underlying22 hi hz1 g (xs.length + 4) cap _ rfl O1.out _ np pc (ys.map by8) rfl (by simpa using P1.out.1) (fun _ => ⟨HN0.out, HC0.out⟩) (fun ad h => by cases h) (by8_one _) (by omega) ?_))
        intro w2 hown2 hgrow2
        have R := hid (packed_of HS.out O1.out G1.out hown2 hgrow2)
        clear hown2 hgrow2 O1 P1 G1 hi hz0 hz1 hz2
        have hlt : (np : Int) < 16777215 := by omega
        go_wp2
        go_ret
        exact ⟨_, _, rfl, R.out⟩
      · go_wp2_with (at_builtin; go_must (refine wpList_append_fits _ rfl (.tmp 43) (.tmp 53) 22 rfl B 5 i0 1 Try.underlying22 hi hz1 g xs.length cap (xs.map by8) rfl (by exact HS.out.own.alloc _) ⟨wr.heap.size, 0, none⟩ 4 4 ((hdr np seq).map by8) rfl rfl (by exact World.news_of_block (cs := ((hdr np seq).map by8).toArray) (t := 5) (fr := (0, 0)) (heap_alloc_new wr _)) (by8_one _) (by omega) ?_))
        intro w1 hown1 hgrow1
        have O1 := hid hown1
        have P1 := hid (pay_after HS.out.pay hgrow1 HS.out.ne)
        have G1 := hid hgrow1
        clear hown1 hgrow1
        go_wp2_with (at_builtin; go_must (refine wpList_append_fits_any _ rfl (.tmp 55) (.tmp 58) 22 rfl B 5 i0 1 Try.underlying22 hi hz1 g (xs.length + 4) cap _ rfl O1.out _ np pc (ys.map by8) rfl (by simpa using P1.out.1) (fun h => by cases h) (fun ad h j u hu => by cases h; rw [add_plain, Nat.zero_add]; exact own_cell P1.out j u hu) (by8_one _) (by omega) ?_))
        intro w2 hown2 hgrow2
        have R := hid (packed_of HS.out O1.out G1.out hown2 hgrow2)
        clear hown2 hgrow2 O1 P1 G1 hi hz0 hz1 hz2
        have hlt : (np : Int) < 16777215 := by omega
        go_wp2
        go_ret
        exact ⟨_, _, rfl, R.out⟩

end Go.Proofs.Qxb6001556a
