/-
  Seat b6001556a: zzDecode (11).
-/
import Derived.Test.Qxb6001556aIndep
import Derived.Test.Qxb6001556aOr
namespace Go.Proofs.Qxb6001556a
open Go.RowKit Go.WideShapes

/-- The stream of packets. -/
def enc : List (Int × List Int) → List Int
  | [] => []
  | p :: ps => hdr p.2.length p.1 ++ (p.2 ++ enc ps)

theorem enc_append (a b : List (Int × List Int)) : enc (a ++ b) = enc a ++ enc b := by
  induction a with
  | nil => rfl
  | cons p ps ih => simp [enc, ih]

theorem hdr_length (n : Nat) (s : Int) : (hdr n s).length = 4 := rfl

def pos (pks : List (Int × List Int)) (j : Nat) : Nat := (enc (pks.take j)).length

theorem pos_succ (pks : List (Int × List Int)) (j : Nat) (h : j < pks.length) : pos pks (j + 1) = pos pks j + 4 + pks[j].2.length := by
  unfold pos
  rw [List.take_succ_eq_append_getElem h, enc_append, List.length_append]
  simp [enc, hdr_length]
  omega

theorem pos_le (pks : List (Int × List Int)) (j : Nat) : pos pks j ≤ (enc pks).length := by
  have h := congrArg List.length (congrArg enc (List.take_append_drop j pks))
  rw [enc_append, List.length_append] at h
  unfold pos
  omega

theorem pos_ge (pks : List (Int × List Int)) : ∀ j, j ≤ pks.length → 4 * j ≤ pos pks j
  | 0, _ => by omega
  | j + 1, h => by
    have h1 := pos_ge pks j (by omega)
    have h2 := pos_succ pks j (by omega)
    omega

theorem pos_full (pks : List (Int × List Int)) : pos pks pks.length = (enc pks).length := by
  unfold pos; rw [List.take_length]

/-- The stream at the j-th packet. -/
theorem enc_at (pks : List (Int × List Int)) (j : Nat) (h : j < pks.length) (i : Nat) : (enc pks).getD (pos pks j + i) 0 = (hdr pks[j].2.length pks[j].1 ++ (pks[j].2 ++ enc (pks.drop (j + 1)))).getD i 0 := by
  have e : enc pks = enc (pks.take j) ++ (hdr pks[j].2.length pks[j].1 ++ (pks[j].2 ++ enc (pks.drop (j + 1)))) := by
    have := congrArg enc (List.take_append_drop j pks)
    rw [enc_append, List.drop_eq_getElem_cons h] at this
    exact this.symm
  conv => lhs; rw [e]
  unfold pos
  rw [List.getD_eq_getElem?_getD, List.getElem?_append_right (by omega), Nat.add_sub_cancel_left, ← List.getD_eq_getElem?_getD]

theorem enc_body (pks : List (Int × List Int)) (j : Nat) (h : j < pks.length) (i : Nat) (hi : i < pks[j].2.length) : (enc pks).getD (pos pks j + 4 + i) 0 = pks[j].2.getD i 0 := by
  rw [Nat.add_assoc, enc_at pks j h (4 + i), List.getD_eq_getElem?_getD, List.getElem?_append_right (by rw [hdr_length]; omega), hdr_length, Nat.add_sub_cancel_left, List.getElem?_append_left hi, ← List.getD_eq_getElem?_getD]

/-- The ids of the first j packets, as cells. -/
def idsOf (pks : List (Int × List Int)) (j : Nat) : List Value := (pks.take j).map fun p => by8 p.1

theorem idsOf_full (pks : List (Int × List Int)) : idsOf pks pks.length = pks.map fun p => by8 p.1 := by unfold idsOf; rw [List.take_length]

theorem Try.info22 : (Try.prog.info? 22).map (fun i => (i.zero, i.size, i.bytes)) = some (some (.slice none 0 0), 1, 24) := by kernel_rfl

/-- A slice value that reads as these bytes. -/
def BodyOk (w : World) (v : Value) (body : List Int) : Prop :=
  ∃ a c, v = .slice a body.length c ∧ ∀ i, i < body.length → ∃ g off, a = some ⟨g, off, none⟩ ∧ w.cell? ⟨g, off + i, none⟩ = some (by8 (body.getD i 0))

theorem kept_kind {wr w1 : World} {B n m c d e e' : Nat} {a b : Option Addr} {xs ys : List Value} {o : Obj} (h : wr.ownsRow B e 1 (.slice a n c) n xs) (h' : wr.ownsRow B e' 1 (.slice b m d) m ys) (he : e ≠ e') (hg : (wr.alloc o).grownBy w1 (Value.slice b m d).ownBlock) : w1.ownsRow B e 1 (.slice a n c) n xs := by
  refine ownsRow_same h fun k hk => ?_
  have hlt := (h.lt k hk).2
  obtain ⟨cs, hc⟩ := ownsRow_kind h k hk
  rw [hg.block k (by simp; omega) (ownsRow_ne h' hc he)]
  exact Below.heap_alloc wr o k hlt

theorem below_app {wr w1 : World} {B m d e : Nat} {b : Option Addr} {ys : List Value} {o : Obj} (hg : (wr.alloc o).grownBy w1 (Value.slice b m d).ownBlock) (h : wr.ownsRow B e 1 (.slice b m d) m ys) (hB : B ≤ wr.heap.size) : Below B wr w1 :=
  ((Below.refl B wr).alloc hB o).grown hg (by simp; omega) (fun k hk => (h.lt k hk).1)

theorem row_ne {w1 : World} {B j m c d e e' g1 : Nat} {b : Option Addr} {xs ys : List Value} (h : w1.ownsRow B e 1 (.slice (some ⟨g1, 0, none⟩) j c) j xs) (h' : w1.ownsRow B e' 1 (.slice b m d) m ys) (he : e ≠ e' := by decide) : some g1 ≠ (Value.slice b m d).ownBlock := by
  obtain ⟨cs, hc⟩ := ownsRow_kind h g1 rfl
  exact ownsRow_ne h' hc he

theorem dec_step {w w1 w2 : World} {pks : List (Int × List Int)} {j k n g off : Nat} {body : List Int} {id : Int} {vals : List Value} {g1 cap1 g2 cap2 c' : Nat} {a : Option Addr} {o : Obj} {v : Value}
    (hj : j < pks.length) (hb : pks[j].2 = body) (hi : pks[j].1 = id) (hp : pos pks j = k) (hR : ∀ i, i < n → ∃ g' off', (some ⟨g, off, none⟩ : Option Addr) = some ⟨g', off', none⟩ ∧ w.cell? ⟨g', off' + i, none⟩ = some (by8 ((enc pks).getD i 0)))
    (hvl : vals.length = j * 1) (hok : ∀ t (h : t < pks.length), t < j → BodyOk w (vals.getD t (.slice none 0 0)) pks[t].2) (hn : k + 4 + body.length ≤ n)
    (h1 : w1.ownsRow w.heap.size 5 1 (.slice (some ⟨g1, 0, none⟩) (j + 1) cap1) (j + 1) (idsOf pks j ++ [.int .u8 id]))
    (h2 : w2.ownsRow w.heap.size 22 1 (.slice (some ⟨g2, 0, none⟩) (j + 1) cap2) (j + 1) (vals ++ [Value.slice a body.length c']))
    (hg2 : (w1.alloc o).grownBy w2 v.ownBlock) (hne : some g1 ≠ v.ownBlock) (ha : 0 < body.length → a = some ⟨g, off + (k + 4), none⟩) :
    w2.ownsRow w.heap.size 5 1 (.slice (some ⟨g1, 0, none⟩) (j + 1) cap1) (j + 1) (idsOf pks (j + 1)) ∧
    w2.ownsRow w.heap.size 22 1 (.slice (some ⟨g2, 0, none⟩) (j + 1) cap2) (j + 1) (vals ++ [.slice a body.length c']) ∧
    (∀ t (h : t < pks.length), t < j + 1 → BodyOk w ((vals ++ [Value.slice a body.length c']).getD t (.slice none 0 0)) pks[t].2) := by
  have hvl' : vals.length = j := by omega
  refine ⟨?_, h2, fun t ht htj => ?_⟩
  · have e : idsOf pks (j + 1) = idsOf pks j ++ [.int .u8 id] := by
      unfold idsOf
      rw [List.take_succ_eq_append_getElem hj, List.map_append]; simp [hi]
    rw [e]
    refine ownsRow_same h1 fun k' hk' => ?_
    have hk2 : g1 = k' := by simpa [Value.ownBlock] using hk'
    subst hk2
    have hlt := (h1.lt g1 hk').2
    rw [hg2.block g1 (by simp; omega) hne]
    exact Below.heap_alloc w1 o g1 hlt
  · by_cases htj' : t < j
    · have e : (vals ++ [Value.slice a body.length c']).getD t (.slice none 0 0) = vals.getD t (.slice none 0 0) := by
        rw [List.getD_eq_getElem?_getD, List.getElem?_append_left (by omega), ← List.getD_eq_getElem?_getD]
      rw [e]; exact hok t ht htj'
    · obtain rfl : t = j := by omega
      have e : (vals ++ [Value.slice a body.length c']).getD t (.slice none 0 0) = .slice a body.length c' := by
        rw [List.getD_eq_getElem?_getD, List.getElem?_append_right (by omega), hvl', Nat.sub_self]; rfl
      rw [e, hb]
      refine ⟨a, c', rfl, fun i hi' => ⟨g, off + (k + 4), ha (by omega), ?_⟩⟩
      obtain ⟨g', off', he, hc⟩ := hR (k + 4 + i) (by omega)
      cases he
      rw [← hp, enc_body pks t hj i (by rw [hb]; exact hi'), hb, hp] at hc
      rw [Nat.add_assoc]; exact hc

set_option maxRecDepth 1000000 in
set_option maxHeartbeats 1000000 in
theorem decode_any (ba : Option Addr) (n c : Nat) (pks : List (Int × List Int)) (w : World) (hnl : (enc pks).length = n) (hn : n ≤ 2097152) (hc : n ≤ c)
    (hR : ∀ i, i < n → ∃ g off, ba = some ⟨g, off, none⟩ ∧ w.cell? ⟨g, off + i, none⟩ = some (by8 ((enc pks).getD i 0))) :
    Calls Try.prog 11 #[.slice ba n c] w fun e w' => ∃ ia ic bda bdc, e = .returned (.tuple #[.slice ia pks.length ic, .slice bda pks.length bdc, .bool true]) ∧
      w'.ownsRow w.heap.size 5 1 (.slice ia pks.length ic) pks.length (pks.map fun p => by8 p.1) ∧ ∃ vals, w'.ownsRow w.heap.size 22 1 (.slice bda pks.length bdc) pks.length vals ∧
      (∀ t (h : t < pks.length), BodyOk w (vals.getD t (.slice none 0 0)) pks[t].2) ∧ Below w.heap.size w w' := by
  have HR := hid hR
  have HNL := hid hnl
  clear hR hnl
  go_enter Try.func11, Try.ntmps11
  go_wp2
  go_loopw [5, 6, 7, 8, 9] (fun a b i _ _ wr => ∃ (j k : Nat) (ia : Option Addr) (ic : Nat) (bda : Option Addr) (bdc : Nat) (vals : List Value), j ≤ pks.length ∧ Hid (pos pks j = k) ∧ i = .int .i64 k ∧ a = .slice ia j ic ∧ b = .slice bda j bdc ∧
      wr.ownsRow w.heap.size 5 1 (.slice ia j ic) j (idsOf pks j) ∧ wr.ownsRow w.heap.size 22 1 (.slice bda j bdc) j vals ∧
      Hid (∀ t (h : t < pks.length), t < j → BodyOk w (vals.getD t (.slice none 0 0)) pks[t].2) ∧ Below w.heap.size w wr) (fun _ _ i _ _ _ => n - (intOf i).toNat)
  case atStart => exact ⟨0, 0, none, 0, none, 0, [], Nat.zero_le _, rfl, rfl, rfl, rfl, World.ownsRow_nil _ _ _ _, World.ownsRow_nil _ _ _ _, fun t _ h => by omega, Below.refl _ _⟩
  case round =>
    obtain ⟨j, k, ia, ic, bda, bdc, vals, hj, hpos, rfl, rfl, rfl, hI, hV, hok, hbel⟩ := hrel
    by_cases hlt : j < pks.length
    · have hps := pos_succ pks j hlt
      have hpl := pos_le pks (j + 1)
      rw [HNL.out, hps, hpos.out] at hpl
      obtain ⟨body, hbody⟩ : ∃ body, pks[j].2 = body := ⟨_, rfl⟩
      obtain ⟨id, hid'⟩ : ∃ id, pks[j].1 = id := ⟨_, rfl⟩
      rw [hbody] at hpl
      obtain ⟨g, off, rfl, _⟩ := HR.out k (by omega)
      have rd : ∀ i, i < 4 → wr.cell? ⟨g, off + (k + i), none⟩ = some (by8 ((hdr body.length id).getD i 0)) := by
        intro i hi
        obtain ⟨g', off', he, hc'⟩ := HR.out (k + i) (by omega)
        cases he
        rw [← hpos.out, enc_at pks j hlt i, hbody, hid', List.getD_eq_getElem?_getD, List.getElem?_append_left (by rw [hdr_length]; omega), ← List.getD_eq_getElem?_getD, hpos.out] at hc'
        exact (hbel.cell (by exact cell_lt hc')).trans hc'
      have c0 : wr.cell? ⟨g, off + k, none⟩ = some (.int .u8 ((body.length : Int) % 256)) := rd 0 (by omega)
      have c1 : wr.cell? ⟨g, off + (k + 1), none⟩ = some (.int .u8 ((body.length : Int) / 256 % 256)) := rd 1 (by omega)
      have c2 : wr.cell? ⟨g, off + (k + 2), none⟩ = some (.int .u8 ((body.length : Int) / 65536)) := rd 2 (by omega)
      have c3 : wr.cell? ⟨g, off + (k + 3), none⟩ = some (.int .u8 id) := rd 3 (by omega)
      have hor := dec3 body.length (by omega)
      have HP := hid (show pos pks (j + 1) = k + 4 + body.length by rw [hps, hpos.out, hbody])
      have h1 : (k : Int) < (n : Int) := by omega
      have h2 : (k : Int) + 1 < (n : Int) := by omega
      have h3 : (k : Int) + 2 < (n : Int) := by omega
      have h4 : (k : Int) + 3 < (n : Int) := by omega
      have hjb : j ≤ 524288 := by have := pos_ge pks j hj; rw [hpos.out] at this; omega
      have HI := hid hI
      have HV := hid hV
      have HBel := hid hbel
      have HB := hid hbody
      have HID := hid hid'
      obtain ⟨i5, hi5, hz0, hz1, hz2⟩ := info_parts Try.info5
      clear rd hI hV hbel hps hbody hid'
      go_upto_region 7 with fail
      go_quiet (fail)
      go_wp2_with (at_builtin; go_must (refine wpList_append_lies _ rfl (.tmp 57) (.tmp 59) 22 rfl w.heap.size 5 i5 (.int .u8 0) 1 1 Try.underlying22 hi5 hz0 hz1 hz2 rfl (by omega) (.slice ia j ic) j _ rfl (by exact HI.out.alloc _) ⟨wr.heap.size, 0, none⟩ 1 1 [.int .u8 id] rfl rfl (by exact World.news_of_block (cs := #[.int .u8 id]) (t := 5) (fr := (0, 0)) (heap_alloc_new wr _)) (by simp [Value.oneCell']) (by omega) (by unfold maxLen; omega) (by omega) (by have := HBel.out.size; simp; omega) (wr.heap.size + 1) (by simp) ?_))
      intro g1 cap1 w1 hown1 hgrow1 hat1 hlt1
      have O1 := hid hown1
      have G1 := hid hgrow1
      clear hown1 hgrow1 hat1
      obtain ⟨i22, hi22, hy0, hy1, hy2⟩ := info_parts Try.info22
      have V1 := hid (kept_kind (wr := wr.drewN nq) (by exact HV.out) (by exact HI.out) (by decide) G1.out)
      have B1 := hid ((belowDrewN HBel.out nq).trans (below_app (wr := wr.drewN nq) G1.out (by exact HI.out) (by exact HBel.out.size)))
      clear G1 HI
      by_cases hck : c ≤ k + 4
      · have hc2 : k + 4 ≤ c := by omega
        have hcI : (c : Int) = (k : Int) + 4 := by omega
        have HCI := hid hcI
        clear hcI
        go_wp2_with (at_builtin; go_must (refine wpList_append_lies _ rfl (.tmp 61) (.tmp 68) 29 rfl w.heap.size 22 i22 (.slice none 0 0) 1 24 Try.underlying29 hi22 hy0 hy1 hy2 rfl (by omega) (.slice bda j bdc) j _ rfl (by exact V1.out.alloc _) ⟨w1.heap.size, 0, none⟩ 1 1 [.slice (some ⟨g, off, none⟩) body.length 0] rfl rfl (by exact World.news_of_block (cs := #[.slice (some ⟨g, off, none⟩) body.length 0]) (t := 22) (fr := (0, 0)) (heap_alloc_new w1 _)) (by simp [Value.oneCell']) (by omega) (by unfold maxLen; omega) (by omega) (by have := B1.out.size; simp; omega) (w1.heap.size + 1) (by simp) ?_))
        intro g2 cap2 w2 hown2 hgrow2 hat2 hlt2
        have R := hid (dec_step hlt HB.out HID.out hpos.out HR.out HV.out.1 hok.out hpl O1.out hown2 hgrow2 (row_ne O1.out V1.out) (a := some ⟨g, off, none⟩) (c' := 0) (fun h => by omega))
        have BE := hid (B1.out.trans (below_app hgrow2 V1.out B1.out.size))
        clear hown2 hgrow2 hat2 O1 V1 B1 hi22 hy0 hy1 hy2
        go_wp2
        go_roundw
        case rel => exact ⟨j + 1, k + 4 + body.length, some ⟨g1, 0, none⟩, cap1, some ⟨g2, 0, none⟩, cap2, vals ++ [Value.slice (some ⟨g, off, none⟩) body.length 0], by omega, HP.out, by go_num, rfl, rfl, R.out.1, R.out.2.1, hid R.out.2.2, BE.out⟩
        case measure => simp [intOf]; omega
      · go_wp2_with (at_builtin; go_must (refine wpList_append_lies _ rfl (.tmp 61) (.tmp 68) 29 rfl w.heap.size 22 i22 (.slice none 0 0) 1 24 Try.underlying29 hi22 hy0 hy1 hy2 rfl (by omega) (.slice bda j bdc) j _ rfl (by exact V1.out.alloc _) ⟨w1.heap.size, 0, none⟩ 1 1 [.slice (some ⟨g, off + (k + 4), none⟩) body.length (c - (k + 4))] rfl rfl (by exact World.news_of_block (cs := #[.slice (some ⟨g, off + (k + 4), none⟩) body.length (c - (k + 4))]) (t := 22) (fr := (0, 0)) (heap_alloc_new w1 _)) (by simp [Value.oneCell']) (by omega) (by unfold maxLen; omega) (by omega) (by have := B1.out.size; simp; omega) (w1.heap.size + 1) (by simp) ?_))
        intro g2 cap2 w2 hown2 hgrow2 hat2 hlt2
        have R := hid (dec_step hlt HB.out HID.out hpos.out HR.out HV.out.1 hok.out hpl O1.out hown2 hgrow2 (row_ne O1.out V1.out) (a := some ⟨g, off + (k + 4), none⟩) (c' := c - (k + 4)) (fun _ => rfl))
        have BE := hid (B1.out.trans (below_app hgrow2 V1.out B1.out.size))
        clear hown2 hgrow2 hat2 O1 V1 B1 hi22 hy0 hy1 hy2
        go_wp2
        go_roundw
        case rel => exact ⟨j + 1, k + 4 + body.length, some ⟨g1, 0, none⟩, cap1, some ⟨g2, 0, none⟩, cap2, vals ++ [Value.slice (some ⟨g, off + (k + 4), none⟩) body.length (c - (k + 4))], by omega, HP.out, by go_num, rfl, rfl, R.out.1, R.out.2.1, hid R.out.2.2, BE.out⟩
        case measure => simp [intOf]; omega
    · have hjl : j = pks.length := by omega
      subst hjl
      have hkn : (k : Int) = (n : Int) := by have := pos_full pks; rw [hpos.out, HNL.out] at this; omega
      have hkn' : ¬ (k : Int) < (n : Int) := by omega
      have HKN := hid hkn
      clear hkn
      rw [idsOf_full] at hI
      have HI := hid hI
      have HV := hid hV
      have HB := hid hbel
      clear hI hV hbel
      go_wp2
      go_ret3
      exact ⟨ia, ic, bda, bdc, rfl, HI.out, vals, HV.out, fun t h => hok.out t h h, HB.out⟩

end Go.Proofs.Qxb6001556a
