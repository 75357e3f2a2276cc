/-
  Seat b6001556a: the script's later loops in memory (no walk), and zzBytes_FnAppendPacketScriptReadsBackInOrder (13).
-/
import Derived.Test.Qxb6001556aScriptP
namespace Go.Proofs.Qxb6001556a
open Go.RowKit Go.WideShapes

theorem all_succ {P : Nat → Prop} {k : Nat} (h : ∀ j, j < k → P j) (hk : P k) : ∀ j, j < k + 1 → P j := by
  intro j hj
  by_cases e : j = k
  · subst e; exact hk
  · exact h j (by omega)

/-- The copies of all payloads. -/
structure Cps (w wr : World) (qa : Option Addr) (qc : Nat) (vals : List Value) (bs : List (List Int)) : Prop where
  row : wr.ownsRow w.heap.size 22 1 (.slice qa bs.length qc) bs.length vals
  cps : ∀ t, t < bs.length → Copy wr w.heap.size (vals.getD t (.slice none 0 0)) (bs.getD t [])
  bel : Below w.heap.size w wr

theorem Cps.nil (w : World) : Cps w w none 0 [] [] := ⟨World.ownsRow_nil _ _ _ _, fun t h => by simp at h, Below.refl _ _⟩

theorem CS.full {w wr : World} {S : Nat} {vals : List Value} {bs : List (List Int)} (h : CS w wr S bs.length bs.length vals bs) : Cps w wr (some ⟨S, 0, none⟩) bs.length vals bs := by
  refine ⟨ownsRow_base ?_ h.base, h.cps, h.bel⟩
  have := h.row
  simpa using this

/-- Behind i packets. -/
structure S3 (w wr : World) (qa : Option Addr) (qc : Nat) (vals : List Value) (bs : List (List Int)) (seq : Int) (i : Nat) (oa : Option Addr) (L oc : Nat) : Prop where
  c : Cps w wr qa qc vals bs
  len : (enc ((pksFrom seq bs).take i)).length = L
  out : wr.ownsRow w.heap.size 5 1 (.slice oa L oc) L ((enc ((pksFrom seq bs).take i)).map by8)
  ne : ∀ t, t < bs.length → ∀ a n c, vals.getD t (.slice none 0 0) = .slice a n c → ∀ k, blkOf oa = some k → blkOf a ≠ some k
  cap : oc ≤ 2 * L

theorem S3.start {w wr : World} {qa : Option Addr} {qc : Nat} {vals : List Value} {bs : List (List Int)} (seq : Int) (h : Cps w wr qa qc vals bs) : S3 w wr qa qc vals bs seq 0 none 0 0 :=
  ⟨h, rfl, World.ownsRow_nil _ _ _ _, fun _ _ _ _ _ _ k hk => by simp [blkOf] at hk, by omega⟩

theorem S3.next {w wr w1 : World} {qa oa a : Option Addr} {qc oc L c g cap i : Nat} {vals : List Value} {bs : List (List Int)} {seq : Int} (h : S3 w wr qa qc vals bs seq i oa L oc) (hi : i < bs.length)
    (p : Packed wr w1 w.heap.size oa L oc (enc ((pksFrom seq bs).take i)) a (bs.getD i []).length c (bs.getD i []) ((seq + i) % 256) g cap) :
    S3 w w1 qa qc vals bs seq (i + 1) (some ⟨g, 0, none⟩) (L + 4 + (bs.getD i []).length) cap := by
  have hle := enc_take_len seq bs i hi
  have hB : w.heap.size ≤ wr.heap.size := h.c.bel.size
  have hcap := h.cap
  refine ⟨⟨?_, fun t ht => ?_, h.c.bel.trans (packed_below p hB h.out)⟩, by rw [hle, h.len], ?_, fun t ht a' n' c' hv' k hk => ?_, ?_⟩
  · refine ownsRow_same h.c.row fun k hk => p.gr.block k (h.c.row.lt k hk).2 ?_
    obtain ⟨cs, hc⟩ := ownsRow_kind h.c.row k hk
    rw [← ownBlock_slice oa L oc]
    exact ownsRow_ne h.out hc (by decide)
  · obtain ⟨a', c', hv', ho'⟩ := h.c.cps t ht
    exact ⟨a', c', hv', kept_grown ho' p.gr (fun k hk e => h.ne t ht a' _ c' hv' k e hk)⟩
  · rw [enc_take_succ seq bs i hi]; exact p.own
  · have hk' : g = k := by simpa [blkOf] using hk
    subst hk'
    obtain ⟨a2, c2, hv2, ho2⟩ := h.c.cps t ht
    rw [hv2] at hv'
    simp only [Value.slice.injEq] at hv'
    obtain ⟨rfl, _, _⟩ := hv'
    rcases p.lies with h1 | h1
    · exact h.ne t ht a2 _ c2 hv2 g h1
    · intro e
      have := (ho2.lt g (by rw [ownBlock_slice]; exact e)).2
      omega
  · rcases p.capb with h1 | h1 <;> omega

/-- What the last loop reads. -/
structure Fin4 (wr : World) (ia bda qa : Option Addr) (bs : List (List Int)) (seq : Int) : Prop where
  i : ∀ r, r < bs.length → ∃ g, ia = some ⟨g, 0, none⟩ ∧ wr.cell? ⟨g, r, none⟩ = some (.int .u8 ((seq + r) % 256))
  b : ∀ r, r < bs.length → ∃ g a c, bda = some ⟨g, 0, none⟩ ∧ wr.cell? ⟨g, r, none⟩ = some (.slice a (bs.getD r []).length c) ∧ ∀ t, t < (bs.getD r []).length → ∃ g' off, a = some ⟨g', off, none⟩ ∧ wr.cell? ⟨g', off + t, none⟩ = some (by8 ((bs.getD r []).getD t 0))
  p : ∀ r, r < bs.length → ∃ g a c, qa = some ⟨g, 0, none⟩ ∧ wr.cell? ⟨g, r, none⟩ = some (.slice a (bs.getD r []).length c) ∧ ∀ t, t < (bs.getD r []).length → ∃ g' off, a = some ⟨g', off, none⟩ ∧ wr.cell? ⟨g', off + t, none⟩ = some (by8 ((bs.getD r []).getD t 0))

theorem Fin4.drewN {wr : World} {ia bda qa : Option Addr} {bs : List (List Int)} {seq : Int} (h : Fin4 wr ia bda qa bs seq) (n : Nat) : Fin4 (wr.drewN n) ia bda qa bs seq := ⟨h.i, h.b, h.p⟩

theorem fin4_of {w w3 w4 : World} {qa oa ia bda : Option Addr} {qc oc L ic bdc : Nat} {vals vs2 : List Value} {bs : List (List Int)} {seq : Int} {i : Nat} (h : S3 w w3 qa qc vals bs seq i oa L oc)
    (oi : w4.ownsRow w3.heap.size 5 1 (.slice ia (pksFrom seq bs).length ic) (pksFrom seq bs).length ((pksFrom seq bs).map fun p => by8 p.1))
    (ov : w4.ownsRow w3.heap.size 22 1 (.slice bda (pksFrom seq bs).length bdc) (pksFrom seq bs).length vs2)
    (hok : ∀ t (ht : t < (pksFrom seq bs).length), BodyOk w3 (vs2.getD t (.slice none 0 0)) (pksFrom seq bs)[t].2) (hb : Below w3.heap.size w3 w4) : Fin4 w4 ia bda qa bs seq := by
  have hl := pks_length seq bs
  refine ⟨fun r hr => ?_, fun r hr => ?_, fun r hr => ?_⟩
  · obtain ⟨g, rfl, _⟩ := ownsRow_form oi (by have := ownsRow_cap oi; omega)
    refine ⟨g, rfl, own_cell oi r _ ?_⟩
    rw [List.getElem?_map, List.getElem?_eq_getElem (by omega), pks_at seq bs r (by omega)]
    rfl
  · obtain ⟨g, rfl, _⟩ := ownsRow_form ov (by have := ownsRow_cap ov; omega)
    obtain ⟨a, c, hv, hrd⟩ := hok r (by omega)
    rw [pks_at seq bs r (by omega)] at hv hrd
    have hvl : vs2.length = (pksFrom seq bs).length := by have := ov.1; simpa using this
    refine ⟨g, a, c, rfl, own_cell ov r _ ?_, rd_later (f := fun t => (bs.getD r []).getD t 0) hrd hb⟩
    rw [List.getElem?_eq_getElem (by omega)]
    rw [List.getD_eq_getElem?_getD, List.getElem?_eq_getElem (by omega)] at hv
    exact congrArg some hv
  · obtain ⟨g, rfl, _⟩ := ownsRow_form h.c.row (by have := ownsRow_cap h.c.row; omega)
    obtain ⟨a, c, hv, ho⟩ := h.c.cps r hr
    have hvl : vals.length = bs.length := by have := h.c.row.1; simpa using this
    refine ⟨g, a, c, rfl, own_cell (ownsRow_below h.c.row hb) r _ ?_, rd_own (ownsRow_below ho hb)⟩
    rw [List.getElem?_eq_getElem (by omega)]
    rw [List.getD_eq_getElem?_getD, List.getElem?_eq_getElem (by omega)] at hv
    exact congrArg some hv

set_option maxRecDepth 1000000 in
set_option maxHeartbeats 1000000 in
theorem zzBytes13 (pa : Option Addr) (m pc : Nat) (bs : List (List Int)) (seq : Int) (w : World) (hP : PRow w pa m pc bs) (hm : m ≤ maxLen) (hbs : ∀ r, r < m → (bs.getD r []).length ≤ maxLen) :
    Calls Try.prog 13 #[.slice pa m pc, .int .u8 seq] w fun e w' => ((e = .returned (.bool true) ∧ Hid (∀ r, r < m → (bs.getD r []).length ≤ 1048576)) ∨ e = .returned (.bool false)) ∧ w' = w := by
  have HP := hid hP
  have HB := hid hbs
  unfold maxLen at hm
  clear hP hbs
  by_cases h0 : m ≤ 1048576
  · go_enter Try.func13, Try.ntmps13
    go_wp2
    go_loop [5, 6] (fun z i => ∃ (k : Nat) (y : Int), k ≤ m ∧ i = .int .i64 k ∧ z = .int .i64 y ∧ 0 ≤ y ∧ y ≤ 1048576 ∧ Hid (∀ r, r < k → (bs.getD r []).length ≤ 1048576)) (fun _ i => m - (intOf i).toNat)
    case atStart => exact ⟨0, m, Nat.zero_le _, rfl, rfl, by omega, by omega, fun r hr => by omega⟩
    case round =>
      obtain ⟨k, y, hk, rfl, rfl, hy0, hy1, hall⟩ := hrel
      by_cases hlt : k < m
      · obtain ⟨b, off, a, c, rfl, hc, _⟩ := HP.out.at k hlt
        obtain ⟨n, hn⟩ : ∃ n, (bs.getD k []).length = n := ⟨_, rfl⟩
        have hsz : n ≤ 2 ^ 63 - 1 := by rw [← hn]; exact HB.out k hlt
        rw [hn] at hc
        have HN := hid hn
        clear hn
        by_cases hbig : n ≤ 1048576
        · go_wp2
          · go_ret
            exact ⟨.inr rfl, rfl⟩
          · go_round
            case rel => exact ⟨k + 1, y + n, by omega, by go_num, rfl, by omega, by omega, all_succ hall.out (by rw [HN.out]; exact hbig)⟩
            case measure => simp [intOf]; omega
        · go_wp2
          go_ret
          exact ⟨.inr rfl, rfl⟩
      · have hkm : k = m := by omega
        subst hkm
        go_wp2
        go_ret
        exact ⟨.inl ⟨rfl, hall⟩, rfl⟩
  · go_enter Try.func13, Try.ntmps13
    go_wp2
    go_ret
    exact ⟨.inr rfl, rfl⟩

end Go.Proofs.Qxb6001556a
