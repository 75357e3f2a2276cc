/-
  Seat b6001556a: FnAppendPacketIsDstAndRoomIndependent (4): the walk.
-/
import Derived.Test.Qxb6001556aPacket
namespace Go.Proofs.Qxb6001556a
open Go.RowKit Go.WideShapes

theorem rd_own {w : World} {B n c : Nat} {a : Option Addr} {xs : List Int} (h : w.ownsRow B 5 1 (.slice a n c) n (xs.map by8)) : ∀ i, i < n → ∃ b off, a = some ⟨b, off, none⟩ ∧ w.cell? ⟨b, off + i, none⟩ = some (by8 (xs.getD i 0)) :=
  fun i hi => (InRow.ofOwn h).at i hi

theorem rd_tail {w : World} {B g n m c : Nat} {xs zs : List Int} (h : w.ownsRow B 5 1 (.slice (some ⟨g, 0, none⟩) (n + m) c) (n + m) ((xs ++ zs).map by8)) (hx : xs.length = n) : ∀ i, i < m → ∃ b off, (some ⟨g, n, none⟩ : Option Addr) = some ⟨b, off, none⟩ ∧ w.cell? ⟨b, off + i, none⟩ = some (by8 (zs.getD i 0)) := by
  intro i hi
  have hl : xs.length + zs.length = n + m := by have := h.1; simpa using this
  refine ⟨g, n, rfl, own_cell h _ _ ?_⟩
  rw [List.getElem?_map, List.getElem?_append_right (by omega), hx, Nat.add_sub_cancel_left]
  simp [show i < zs.length by omega]

theorem rd_head {w : World} {B g n m c : Nat} {xs zs : List Int} (h : w.ownsRow B 5 1 (.slice (some ⟨g, 0, none⟩) (n + m) c) (n + m) ((xs ++ zs).map by8)) (hx : xs.length = n) : ∀ i, i < n → ∃ b off, (some ⟨g, 0, none⟩ : Option Addr) = some ⟨b, off, none⟩ ∧ w.cell? ⟨b, off + i, none⟩ = some (by8 (xs.getD i 0)) := by
  rw [List.map_append] at h
  exact rd_own (ownsRow_cut h (by simpa using hx))

theorem kept_grown {w w' : World} {B n c : Nat} {a d : Option Addr} {xs : List Value} (h : w.ownsRow B 5 1 (.slice a n c) n xs) (hg : w.grownBy w' (blkOf d)) (hne : ∀ k, blkOf a = some k → blkOf d ≠ some k) : w'.ownsRow B 5 1 (.slice a n c) n xs := by
  refine ownsRow_same h fun k hk => hg.block k (h.lt k hk).2 (fun e => ?_)
  rw [ownBlock_slice] at hk
  exact hne k hk e.symm

/-- The nil slice as dst. -/
theorem appendPacket_nil (B : Nat) (pa : Option Addr) (np pc : Nat) (ys : List Int) (seq : Int) (w : World) (hP : w.ownsRow B 5 1 (.slice pa np pc) np (ys.map by8)) (hB : B ≤ w.heap.size) (hp : np ≤ 1048576) :
    Calls Try.prog 9 #[.slice none 0 0, .int .u8 seq, .slice pa np pc] w fun e w' => ∃ g cap, e = .returned (.slice (some ⟨g, 0, none⟩) (4 + np) cap) ∧
      w'.ownsRow B 5 1 (.slice (some ⟨g, 0, none⟩) (4 + np) cap) (4 + np) ((hdr np seq ++ ys).map by8) ∧ Below w.heap.size w w' ∧ w.heap.size ≤ g := by
  refine (appendPacket B none 0 0 [] pa np pc ys seq w (World.ownsRow_nil _ _ _ _) hP (by simp [blkOf]) hB (by omega) hp).mono ?_
  rintro e w' ⟨g, cap, rfl, h⟩
  refine ⟨g, cap, by simp, by simpa using h.own, ⟨h.gr.os, h.gr.tape, h.gr.output, h.gr.size, fun k hk => h.gr.block k hk (by simp [blkOf])⟩, ?_⟩
  rcases h.lies with h1 | h1
  · simp [blkOf] at h1
  · exact h1

/-- What lies in memory behind the two calls of AppendPacket. -/
structure IFin (w5 : World) (B : Nat) (xs ys : List Int) (seq : Int) (da : Option Addr) (dc : Nat) (wa : Option Addr) (wc : Nat) (ga ca go co : Nat) : Prop where
  dst : w5.ownsRow B 5 1 (.slice da xs.length dc) xs.length (xs.map by8)
  want : w5.ownsRow B 5 1 (.slice wa xs.length wc) xs.length (xs.map by8)
  alone : w5.ownsRow B 5 1 (.slice (some ⟨ga, 0, none⟩) (4 + ys.length) ca) (4 + ys.length) ((hdr ys.length seq ++ ys).map by8)
  out : w5.ownsRow B 5 1 (.slice (some ⟨go, 0, none⟩) (xs.length + (4 + ys.length)) co) (xs.length + (4 + ys.length)) ((xs ++ (hdr ys.length seq ++ ys)).map by8)

theorem da_pa_ne {w1 w2 : World} {B n m c d : Nat} {pa da : Option Addr} {xs ys : List Value} (o1 : w1.ownsRow B 5 1 (.slice pa n c) n ys) (o2 : w2.ownsRow w1.heap.size 5 1 (.slice da m d) m xs) {k : Nat} (hk : blkOf da = some k) (e : blkOf pa = some k) : False := by
  have h1 := (o2.lt k (by rw [ownBlock_slice]; exact hk)).1
  have h2 := (o1.lt k (by rw [ownBlock_slice]; exact e)).2
  omega

theorem packed_below {w w' : World} {B : Nat} {da pa : Option Addr} {nd dc np pc : Nat} {xs ys : List Int} {seq : Int} {g cap : Nat} (p : Packed w w' B da nd dc xs pa np pc ys seq g cap) (hB : B ≤ w.heap.size) (hD : w.ownsRow B 5 1 (.slice da nd dc) nd (xs.map by8)) : Below B w w' :=
  ⟨p.gr.os, p.gr.tape, p.gr.output, p.gr.size, fun k hk => p.gr.block k (by omega) (fun e => by have := (hD.lt k (by rw [ownBlock_slice]; exact e.symm)).1; omega)⟩

theorem ifin_of {w w1 w2 w3 w4 w5 : World} {xs ys : List Int} {seq : Int} {pa da wa : Option Addr} {pc dc wc ga ca go co : Nat}
    (b1 : Below w.heap.size w w1)
    (o2 : w2.ownsRow w1.heap.size 5 1 (.slice da xs.length dc) xs.length (xs.map by8)) (b2 : Below w1.heap.size w1 w2)
    (o3 : w3.ownsRow w2.heap.size 5 1 (.slice wa xs.length wc) xs.length (xs.map by8)) (b3 : Below w2.heap.size w2 w3)
    (o4 : w4.ownsRow w.heap.size 5 1 (.slice (some ⟨ga, 0, none⟩) (4 + ys.length) ca) (4 + ys.length) ((hdr ys.length seq ++ ys).map by8)) (b4 : Below w3.heap.size w3 w4) (g4 : w3.heap.size ≤ ga)
    (p5 : Packed w4 w5 w.heap.size da xs.length dc xs pa ys.length pc ys seq go co) : IFin w5 w.heap.size xs ys seq da dc wa wc ga ca go co := by
  have s1 := b1.size
  have s2 := b2.size
  have s3 := b3.size
  have hda : ∀ k, blkOf da = some k → k < w2.heap.size := fun k hk => (o2.lt k (by rw [ownBlock_slice]; exact hk)).2
  refine ⟨p5.old, ownsRow_base (kept_grown (ownsRow_below o3 b4) p5.gr (fun k hk e => ?_)) (by omega), kept_grown o4 p5.gr (fun k hk e => ?_), ?_⟩
  · have h1 := (o3.lt k (by rw [ownBlock_slice]; exact hk)).1
    have h2 := hda k e
    omega
  · have h1 : ga = k := by simpa [blkOf] using hk
    have h2 := hda k e
    omega
  · rw [← Nat.add_assoc]; exact p5.own

set_option maxRecDepth 1000000 in
set_option maxHeartbeats 1000000 in
theorem indep_walk (a0 a4 : Option Addr) (n0 c0 n4 c4 : Nat) (xs ys : List Int) (room seq : Int) (ex : Bool) (w : World) (h0 : InRow w a0 n0 c0 xs) (h4 : InRow w a4 n4 c4 ys) (r0 : 0 ≤ room) (r1 : room ≤ 65535)
    (m0 : n0 ≤ 524288) (m4 : n4 ≤ 524288) :
    Calls Try.prog 4 #[.slice a0 n0 c0, .int .u16 room, .bool ex, .int .u8 seq, .slice a4 n4 c4] w fun e w' => e = .returned (.bool true) ∧ Below w.heap.size w w' := by
  have H := hid (zzBytes12 a0 a4 n0 c0 n4 c4 room seq ex w (by unfold maxLen; omega) (by unfold maxLen; omega))
  obtain rfl := h0.1
  obtain rfl := h4.1
  have H0 := hid h0
  have H4 := hid h4
  clear h0 h4
  go_enter Try.func4, Try.ntmps4
  go_wp2_with fail
  refine H.out.mono ?_
  rintro e w' ⟨rfl | rfl, rfl⟩
  · clear H
    go_wp2_with fail
    refine (copyRoom_any a4 ys.length c4 0 ys _ H4.out (by omega) (by omega)).mono ?_
    rintro e w1 ⟨pa, pc, rfl, hpc, o1, b1⟩
    have O1 := hid o1
    have B1 := hid b1
    clear o1 b1
    go_wp2_with fail
    refine (spare_any room ex ys.length _ r0 r1 (by omega)).mono ?_
    rintro e w1' ⟨sp, rfl, hsp, rfl⟩
    go_wp2_with fail
    refine (copyRoom_any a0 xs.length c0 sp xs _ (H0.out.below B1.out) (by omega) (by omega)).mono ?_
    rintro e w2 ⟨da, dc, rfl, hdc, o2, b2⟩
    have O2 := hid o2
    have B2 := hid b2
    clear o2 b2
    go_wp2_with fail
    refine (copyRoom_any da xs.length dc 0 xs _ (InRow.ofOwn O2.out) (by omega) (by omega)).mono ?_
    rintro e w3 ⟨wa, wc, rfl, hwc, o3, b3⟩
    have O3 := hid o3
    have B3 := hid b3
    clear o3 b3
    have P3 := hid (ownsRow_below (ownsRow_below O1.out B2.out) B3.out)
    have S3 := hid (show w'.heap.size ≤ w3.heap.size by have := B1.out.size; have := B2.out.size; have := B3.out.size; omega)
    go_wp2_with fail
    refine (appendPacket_nil w'.heap.size pa ys.length pc ys seq _ P3.out S3.out (by omega)).mono ?_
    rintro e w4 ⟨ga, ca, rfl, o4, b4, g4⟩
    have O4 := hid o4
    have B4 := hid b4
    have G4 := hid g4
    clear o4 b4 g4
    have D4 := hid (ownsRow_base (ownsRow_below (ownsRow_below O2.out B3.out) B4.out) B1.out.size)
    have P4 := hid (ownsRow_below P3.out B4.out)
    have NE := hid (fun k (hk : blkOf da = some k) (e : blkOf pa = some k) => da_pa_ne O1.out O2.out hk e)
    have S4 := hid (Nat.le_trans S3.out B4.out.size)
    go_wp2_with fail
    refine (appendPacket w'.heap.size da xs.length dc xs pa ys.length pc ys seq _ D4.out P4.out NE.out S4.out (by omega) (by omega)).mono ?_
    rintro e w5 ⟨go, co, rfl, p5⟩
    have F := hid (ifin_of B1.out O2.out B2.out O3.out B3.out O4.out B4.out G4.out p5)
    have BE := hid ((below_trans (below_trans (below_trans B1.out B2.out) B3.out) B4.out).trans (packed_below p5 S4.out D4.out))
    have hco : xs.length + (4 + ys.length) ≤ co := ownsRow_cap F.out.out
    clear p5 B1 O1 B2 O2 B3 O3 B4 O4 G4 P3 P4 D4 NE S3 S4 H0 H4
    rw [Nat.add_assoc]
    go_wp2_with fail
    refine (same_yes _ _ _ _ _ (fun i => xs.getD i 0) _ (by omega) (rd_own F.out.dst) (rd_own F.out.want)).mono ?_
    rintro e w6 ⟨rfl, nq, rfl⟩
    go_wp2_with fail
    refine (same_yes _ _ _ _ _ (fun i => xs.getD i 0) _ (by omega) (by exact rd_head F.out.out rfl) (by exact rd_own F.out.want)).mono ?_
    rintro e w7 ⟨rfl, nq2, rfl⟩
    go_wp2_with fail
    refine (same_yes _ _ _ _ _ (fun i => (hdr ys.length seq ++ ys).getD i 0) _ (by omega) (by exact rd_tail F.out.out rfl) (by exact rd_own F.out.alone)).mono ?_
    rintro e w8 ⟨rfl, nq3, rfl⟩
    go_wp2_with fail
    go_ret
    exact ⟨rfl, belowDrewN BE.out _⟩
  · go_wp2_with fail
    go_ret
    exact ⟨rfl, Below.refl _ _⟩

set_option maxRecDepth 1000000 in
set_option maxHeartbeats 1000000 in
theorem indep_big (a0 a4 : Option Addr) (n0 c0 n4 c4 : Nat) (room seq : Int) (ex : Bool) (w : World) (m0 : n0 ≤ maxLen) (m4 : n4 ≤ maxLen) (hb : ¬ (n0 ≤ 524288 ∧ n4 ≤ 524288)) :
    Calls Try.prog 4 #[.slice a0 n0 c0, .int .u16 room, .bool ex, .int .u8 seq, .slice a4 n4 c4] w fun e w' => e = .returned (.bool true) ∧ Below w.heap.size w w' := by
  have H := hid (zzBytes12 a0 a4 n0 c0 n4 c4 room seq ex w m0 m4)
  unfold maxLen at m0 m4
  by_cases h0 : n0 ≤ 524288
  · have h1 : 524288 < n4 := by omega
    clear hb
    go_enter Try.func4, Try.ntmps4
    go_wp2_with fail
    refine H.out.mono ?_
    rintro e w' ⟨rfl | rfl, rfl⟩
    all_goals
      go_wp2_with fail
      go_ret
      exact ⟨rfl, Below.refl _ _⟩
  · have h1 : 524288 < n0 := by omega
    clear hb
    go_enter Try.func4, Try.ntmps4
    go_wp2_with fail
    refine H.out.mono ?_
    rintro e w' ⟨rfl | rfl, rfl⟩
    all_goals
      go_wp2_with fail
      go_ret
      exact ⟨rfl, Below.refl _ _⟩

end Go.Proofs.Qxb6001556a
