/-
  Seat b6001556a: FnAppendPacketReadsBackAsOnePacket (3): the walk.
-/
import Derived.Test.Qxb6001556aDecode
namespace Go.Proofs.Qxb6001556a
open Go.RowKit Go.WideShapes

theorem enc_one (seq : Int) (ys : List Int) : enc [(seq, ys)] = hdr ys.length seq ++ ys := by simp [enc]

theorem rd_later {w w' : World} {a : Option Addr} {n : Nat} {f : Nat → Int} (h : ∀ i, i < n → ∃ g off, a = some ⟨g, off, none⟩ ∧ w.cell? ⟨g, off + i, none⟩ = some (by8 (f i))) (hb : Below w.heap.size w w') : ∀ i, i < n → ∃ g off, a = some ⟨g, off, none⟩ ∧ w'.cell? ⟨g, off + i, none⟩ = some (by8 (f i)) := by
  intro i hi
  obtain ⟨g, off, ha, hc⟩ := h i hi
  exact ⟨g, off, ha, (hb.cell (by exact cell_lt hc)).trans hc⟩

theorem one_of {w w1 w2 w3 w4 : World} {xs ys : List Int} {seq : Int} {pa da wa : Option Addr} {pc dc wc go co : Nat}
    (b1 : Below w.heap.size w w1)
    (o2 : w2.ownsRow w1.heap.size 5 1 (.slice da xs.length dc) xs.length (xs.map by8)) (b2 : Below w1.heap.size w1 w2)
    (o3 : w3.ownsRow w2.heap.size 5 1 (.slice wa xs.length wc) xs.length (xs.map by8))
    (p4 : Packed w3 w4 w.heap.size da xs.length dc xs pa ys.length pc ys seq go co) :
    w4.ownsRow w.heap.size 5 1 (.slice wa xs.length wc) xs.length (xs.map by8) ∧ w4.ownsRow w.heap.size 5 1 (.slice pa ys.length pc) ys.length (ys.map by8) ∧
    w4.ownsRow w.heap.size 5 1 (.slice (some ⟨go, 0, none⟩) (xs.length + (4 + ys.length)) co) (xs.length + (4 + ys.length)) ((xs ++ (hdr ys.length seq ++ ys)).map by8) := by
  have s1 := b1.size
  have s2 := b2.size
  refine ⟨ownsRow_base (kept_grown o3 p4.gr (fun k hk e => ?_)) (by omega), p4.pay, ?_⟩
  · have h1 := (o3.lt k (by rw [ownBlock_slice]; exact hk)).1
    have h2 := (o2.lt k (by rw [ownBlock_slice]; exact e)).2
    omega
  · rw [← Nat.add_assoc]; exact p4.own

set_option maxRecDepth 1000000 in
set_option maxHeartbeats 1000000 in
theorem one_walk (a0 a4 : Option Addr) (n0 c0 n4 c4 : Nat) (xs ys : List Int) (room seq : Int) (ex : Bool) (w : World) (h0 : InRow w a0 n0 c0 xs) (h4 : InRow w a4 n4 c4 ys) (r0 : 0 ≤ room) (r1 : room ≤ 65535)
    (m0 : n0 ≤ 524288) (m4 : n4 ≤ 524288) :
    Calls Try.prog 3 #[.slice a0 n0 c0, .int .u16 room, .bool ex, .int .u8 seq, .slice a4 n4 c4] w fun e w' => e = .returned (.bool true) ∧ Below w.heap.size w w' := by
  have H := hid (zzBytes6 a0 a4 n0 c0 n4 c4 room seq ex w (by unfold maxLen; omega) (by unfold maxLen; omega))
  obtain rfl := h0.1
  obtain rfl := h4.1
  have H0 := hid h0
  have H4 := hid h4
  clear h0 h4
  go_enter Try.func3, Try.ntmps3
  go_wp2_with fail
  refine H.out.mono ?_
  rintro e w' ⟨rfl | rfl, rfl⟩
  · clear H
    go_wp2_with fail
    refine (copyRoom_any a4 ys.length c4 0 ys _ H4.out (by omega) (by omega)).mono ?_
    rintro e w1 ⟨pa, pc, rfl, hpc, o1, b1⟩
    have O1 := hid o1
    have B1 := hid b1
    clear o1 b1
    go_wp2_with fail
    refine (spare_any room ex ys.length _ r0 r1 (by omega)).mono ?_
    rintro e w1' ⟨sp, rfl, hsp, rfl⟩
    go_wp2_with fail
    refine (copyRoom_any a0 xs.length c0 sp xs _ (H0.out.below B1.out) (by omega) (by omega)).mono ?_
    rintro e w2 ⟨da, dc, rfl, hdc, o2, b2⟩
    have O2 := hid o2
    have B2 := hid b2
    clear o2 b2
    go_wp2_with fail
    refine (copyRoom_any da xs.length dc 0 xs _ (InRow.ofOwn O2.out) (by omega) (by omega)).mono ?_
    rintro e w3 ⟨wa, wc, rfl, hwc, o3, b3⟩
    have O3 := hid o3
    have B3 := hid b3
    clear o3 b3
    have P3 := hid (ownsRow_below (ownsRow_below O1.out B2.out) B3.out)
    have S3 := hid (show w'.heap.size ≤ w3.heap.size by have := B1.out.size; have := B2.out.size; have := B3.out.size; omega)
    have D3 := hid (ownsRow_base (ownsRow_below O2.out B3.out) B1.out.size)
    have NE := hid (fun k (hk : blkOf da = some k) (e : blkOf pa = some k) => da_pa_ne O1.out O2.out hk e)
    go_wp2_with fail
    refine (appendPacket w'.heap.size da xs.length dc xs pa ys.length pc ys seq _ D3.out P3.out NE.out S3.out (by omega) (by omega)).mono ?_
    rintro e w4 ⟨go, co, rfl, p4⟩
    have F := hid (one_of B1.out O2.out B2.out O3.out p4)
    have BE := hid ((below_trans (below_trans B1.out B2.out) B3.out).trans (packed_below p4 S3.out D3.out))
    have hco : xs.length + (4 + ys.length) ≤ co := ownsRow_cap F.out.2.2
    have RT := hid (show ∀ i, i < 4 + ys.length → ∃ b off, (some ⟨go, xs.length, none⟩ : Option Addr) = some ⟨b, off, none⟩ ∧ w4.cell? ⟨b, off + i, none⟩ = some (by8 ((enc [(seq, ys)]).getD i 0)) by rw [enc_one]; exact rd_tail F.out.2.2 rfl)
    clear p4 B1 O1 B2 O2 B3 O3 P3 D3 NE S3 H0 H4
    rw [Nat.add_assoc]
    go_wp2_with fail
    refine (same_yes _ _ _ _ _ (fun i => xs.getD i 0) _ (by omega) (by exact rd_head F.out.2.2 rfl) (by exact rd_own F.out.1)).mono ?_
    rintro e w5 ⟨rfl, nq, rfl⟩
    go_wp2_with fail
    refine (decode_any _ _ _ [(seq, ys)] _ (by rw [enc_one]; simp [hdr_length]) (by omega) (by omega) (by exact RT.out)).mono ?_
    rintro e w6 ⟨ia, ic, bda, bdc, rfl, oi, vals, ov, hok, b6⟩
    obtain ⟨gi, rfl, _, _, _⟩ := ownsRow_form oi (by have := ownsRow_cap oi; simp at this; omega)
    obtain ⟨gb, rfl, _, _, _⟩ := ownsRow_form ov (by have := ownsRow_cap ov; simp at this; omega)
    obtain ⟨ba, bc, hv, hrd⟩ := hok 0 (by simp)
    have hvl : vals.length = 1 := by have := ov.1; simpa using this
    have ci : w6.cell? ⟨gi, 0, none⟩ = some (.int .u8 seq) := own_cell oi 0 _ (by simp)
    have cb : w6.cell? ⟨gb, 0, none⟩ = some (.slice ba ys.length bc) := own_cell ov 0 _ (by
      rw [List.getElem?_eq_getElem (by omega)]
      rw [List.getD_eq_getElem?_getD, List.getElem?_eq_getElem (by omega)] at hv
      exact congrArg some hv)
    have RB := hid (rd_later hrd b6)
    have RP := hid (rd_own (ownsRow_below (w := w4.drewN nq) (by exact F.out.2.1) b6))
    have BF := hid ((belowDrewN BE.out nq).trans (b6.mono (by exact BE.out.size)))
    simp only [List.length_cons, List.length_nil, Nat.zero_add]
    clear oi ov hok b6 hv hrd hvl F BE RT
    go_wp2_with fail
    refine (same_yes _ _ _ _ _ (fun i => ys.getD i 0) _ (by omega) (by exact RB.out) (by exact RP.out)).mono ?_
    rintro e w7 ⟨rfl, nq2, rfl⟩
    go_wp2_with fail
    go_ret
    exact ⟨rfl, belowDrewN BF.out _⟩
  · go_wp2_with fail
    go_ret
    exact ⟨rfl, Below.refl _ _⟩

set_option maxRecDepth 1000000 in
set_option maxHeartbeats 1000000 in
theorem one_big (a0 a4 : Option Addr) (n0 c0 n4 c4 : Nat) (room seq : Int) (ex : Bool) (w : World) (m0 : n0 ≤ maxLen) (m4 : n4 ≤ maxLen) (hb : ¬ (n0 ≤ 524288 ∧ n4 ≤ 524288)) :
    Calls Try.prog 3 #[.slice a0 n0 c0, .int .u16 room, .bool ex, .int .u8 seq, .slice a4 n4 c4] w fun e w' => e = .returned (.bool true) ∧ Below w.heap.size w w' := by
  have H := hid (zzBytes6 a0 a4 n0 c0 n4 c4 room seq ex w m0 m4)
  unfold maxLen at m0 m4
  by_cases h0 : n0 ≤ 524288
  · have h1 : 524288 < n4 := by omega
    clear hb
    go_enter Try.func3, Try.ntmps3
    go_wp2_with fail
    refine H.out.mono ?_
    rintro e w' ⟨rfl | rfl, rfl⟩
    all_goals
      go_wp2_with fail
      go_ret
      exact ⟨rfl, Below.refl _ _⟩
  · have h1 : 524288 < n0 := by omega
    clear hb
    go_enter Try.func3, Try.ntmps3
    go_wp2_with fail
    refine H.out.mono ?_
    rintro e w' ⟨rfl | rfl, rfl⟩
    all_goals
      go_wp2_with fail
      go_ret
      exact ⟨rfl, Below.refl _ _⟩

end Go.Proofs.Qxb6001556a
