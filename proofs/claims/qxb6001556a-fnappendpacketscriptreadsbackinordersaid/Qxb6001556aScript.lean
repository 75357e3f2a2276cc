/-
  Seat b6001556a: FnAppendPacketScriptReadsBackInOrder (5): the walk.
-/
import Derived.Test.Qxb6001556aScriptM
namespace Go.Proofs.Qxb6001556a
open Go.RowKit Go.WideShapes

theorem n29 : ∀ (w : World) (a : Option Addr) (n c n' c' : Nat), (binOp .neq 29 (.slice a n c) (.slice none n' c')).run Try.prog w = .ok (.bool (!a.isNone)) w :=
  fun w a n c n' c' => run_neq_slice_nil_any w 29 22 a n c n' c' Try.underlying29

theorem nil_cps {w : World} {pc : Nat} {bs : List (List Int)} (h : PRow w none bs.length pc bs) : ∃ qa qc vals, (Value.slice none bs.length pc) = .slice qa bs.length qc ∧ Cps w w qa qc vals bs := by
  rcases h.2 with ⟨_, h1, rfl⟩ | ⟨x, hx, _⟩
  · obtain rfl : bs = [] := List.eq_nil_of_length_eq_zero h1
    exact ⟨none, 0, [], rfl, Cps.nil w⟩
  · cases hx

theorem CS.start {w w1 : World} {bs : List (List Int)} (ho : w1.ownsRow w.heap.size 22 1 (.slice (some ⟨w.heap.size, 0, none⟩) bs.length bs.length) bs.length (List.replicate bs.length (.slice none 0 0))) (hg : w.grownBy w1 none) : CS w w1 w.heap.size bs.length 0 [] bs :=
  ⟨by simpa using ho, rfl, fun t ht => by omega, below_make hg, Nat.le_refl _⟩

theorem S3.at {w wr : World} {qa oa : Option Addr} {qc oc L i : Nat} {vals : List Value} {bs : List (List Int)} {seq : Int} (h : S3 w wr qa qc vals bs seq i oa L oc) (hi : i < bs.length) :
    ∃ g a c, qa = some ⟨g, 0, none⟩ ∧ wr.cell? ⟨g, i, none⟩ = some (.slice a (bs.getD i []).length c) ∧ wr.ownsRow w.heap.size 5 1 (.slice a (bs.getD i []).length c) (bs.getD i []).length ((bs.getD i []).map by8) ∧ ∀ k, blkOf oa = some k → blkOf a ≠ some k := by
  obtain ⟨g, rfl, _⟩ := ownsRow_form h.c.row (by have := ownsRow_cap h.c.row; omega)
  obtain ⟨a, c, hv, ho⟩ := h.c.cps i hi
  have hvl : vals.length = bs.length := by have := h.c.row.1; simpa using this
  refine ⟨g, a, c, rfl, own_cell h.c.row i _ ?_, ho, h.ne i hi a _ c hv⟩
  rw [List.getElem?_eq_getElem (by omega)]
  rw [List.getD_eq_getElem?_getD, List.getElem?_eq_getElem (by omega)] at hv
  exact congrArg some hv

set_option maxRecDepth 1000000 in
set_option maxHeartbeats 1000000 in
theorem script_walk (pa : Option Addr) (m pc : Nat) (bs : List (List Int)) (seq : Int) (w : World) (hP : PRow w pa m pc bs) (hm : m ≤ 65536) (hbs : ∀ r, r < m → (bs.getD r []).length ≤ maxLen) (s0 : 0 ≤ seq) (s1 : seq ≤ 255) :
    Calls Try.prog 5 #[.slice pa m pc, .int .u8 seq] w fun e w' => e = .returned (.bool true) ∧ Below w.heap.size w w' := by
  have H := hid (zzBytes13 pa m pc bs seq w hP (by unfold maxLen; omega) hbs)
  obtain rfl := hP.1
  have HP := hid hP
  have q := n29
  clear hP hbs
  go_enter Try.func5, Try.ntmps5
  go_wp2_with fail
  refine H.out.mono ?_
  rintro e w' ⟨⟨rfl, hall⟩ | rfl, rfl⟩
  · clear H
    go_wp2
    go_loop [5, 6] (fun t i => ∃ (k : Nat) (y : Int), k ≤ bs.length ∧ i = .int .i64 k ∧ t = .int .i64 y ∧ Hid ((tot (bs.take k) : Int) = y) ∧ 0 ≤ y ∧ y ≤ 1048576) (fun _ i => bs.length - (intOf i).toNat)
    case atStart => exact ⟨0, 0, Nat.zero_le _, rfl, rfl, rfl, by omega, by omega⟩
    case round =>
      obtain ⟨k, y, hk, rfl, rfl, hT, hy0, hy1⟩ := hrel
      by_cases hlt : k < bs.length
      · obtain ⟨b, off, a, c, rfl, hc, _⟩ := HP.out.at k hlt
        have ht := tot_take bs k hlt
        have hn1 := hall.out k hlt
        obtain ⟨n, hn⟩ : ∃ n, (bs.getD k []).length = n := ⟨_, rfl⟩
        rw [hn] at hc ht hn1
        have HTT := hid (show (tot (bs.take (k + 1)) : Int) = y + (n + 24) by rw [ht, ← hT.out]; omega)
        clear hn ht
        by_cases hbig : y + (n + 24) ≤ 1048576
        · go_wp2
          go_round
          case rel => exact ⟨k + 1, y + (n + 24), by omega, by go_num, rfl, HTT.out, by omega, hbig⟩
          case measure => simp [intOf]; omega
        · go_wp2
          go_ret
          exact ⟨rfl, Below.refl _ _⟩
      · have htot : tot bs ≤ 1048576 := by
          have := hT.out
          rw [List.take_of_length_le (by omega)] at this
          omega
        clear hT hy0 hy1
        go_upto_if 40 with fail
        go_cut [0, 7, 8] from 41 to 58 (fun s _ _ wx => ∃ qa qc vals, s = .slice qa bs.length qc ∧ Cps w' wx qa qc vals bs)
        case first =>
          cases hb : pa.isSome with
          | false =>
            obtain rfl : pa = none := by simpa using hb
            go_wp2_with fail
            go_meet
            exact nil_cps HP.out
          | true =>
            obtain ⟨x, rfl⟩ : ∃ x, pa = some x := Option.isSome_iff_exists.mp hb
            clear hb
            obtain ⟨i22, hi22, hy0, hy1, hy2⟩ := info_parts Try.info22
            go_wp2_with (at_make; go_must (refine wpList_make_room _ rfl _ _ 29 rfl 22 i22 (.slice none 0 0) Try.underlying29 hi22 hy0 hy1 rfl _ _ _ _ bs.length bs.length rfl rfl rfl rfl (Nat.le_refl _) (by rw [hy2]; omega) (by unfold maxLen; omega) ?_))
            intro w1 hown1 _ hgr1
            have HC := hid (CS.start (bs := bs) hown1 hgr1)
            clear hown1 hgr1 hi22 hy0 hy1 hy2
            go_wp2
            go_loopw [8] (fun i wr => ∃ (k : Nat) (vals : List Value), k ≤ bs.length ∧ i = .int .i64 k ∧ CS w' wr w'.heap.size bs.length k vals bs) (fun i _ => bs.length - (intOf i).toNat)
            case atStart => exact ⟨0, [], Nat.zero_le _, rfl, HC.out⟩
            case round =>
              clear HC
              obtain ⟨k, vals, hk, rfl, hC⟩ := hrel
              by_cases hlt : k < bs.length
              · obtain ⟨b, off, a, c, hx, hc, hin⟩ := HP.out.at k hlt
                obtain rfl := Option.some.inj hx
                clear hx
                have hcr : wr.cell? ⟨b, off + k, none⟩ = some (.slice a (bs.getD k []).length c) := (hC.bel.cell (by exact cell_lt hc)).trans hc
                have HIN := hid (hin.below hC.bel)
                obtain ⟨body, hbody⟩ : ∃ body, bs.getD k [] = body := ⟨_, rfl⟩
                have hlen := hall.out k hlt
                have HCN := hid (fun w1 a' c' => hC.next (w1 := w1) (a := a') (c := c') hlt)
                have hsl := hC.slot hlt
                rw [hbody] at hcr HIN HCN hlen
                have HB := hid hbody
                have HC := hid hC
                clear hC hc hin hbody
                go_wp2_with fail
                refine (copyRoom_any a body.length c 0 body _ HIN.out (by omega) (by omega)).mono ?_
                rintro e w2 ⟨a2, c2, rfl, hc2, o2, b2⟩
                have hs2 : w2.cell? ⟨w'.heap.size, k, none⟩ = some (.slice none 0 0) := (b2.cell (by exact cell_lt hsl.1)).trans hsl.1
                have hf2 : w2.frozen? ⟨w'.heap.size, k, none⟩ = false := (b2.frozen (by exact cell_lt hsl.1)).trans hsl.2
                have HN := hid (HCN.out w2 a2 c2 b2 o2)
                clear o2 b2 hsl HCN
                go_wp2_with fail
                go_roundw
                case rel => exact ⟨k + 1, _, by omega, by go_num, HN.out⟩
                case measure => simp [intOf]; omega
              · have hkl : k = bs.length := by omega
                subst hkl
                go_wp2_with fail
                go_meet
                exact ⟨_, _, _, rfl, hC.full⟩
        case rest =>
          obtain ⟨qa, qc, vals, rfl, hC⟩ := hcut
          have HS := hid (S3.start seq hC)
          clear hC HP hall q
          go_wp2_with fail
          go_loopw [9, 10, 11] (fun o d i wr => ∃ (k : Nat) (z : Int) (oa : Option Addr) (L oc : Nat), k ≤ bs.length ∧ i = .int .i64 k ∧ d = .int .u8 z ∧ o = .slice oa L oc ∧ Hid ((seq + k) % 256 = z) ∧ S3 w' wr qa qc vals bs seq k oa L oc) (fun _ _ i _ => bs.length - (intOf i).toNat)
          case atStart => exact ⟨0, seq, none, 0, 0, Nat.zero_le _, rfl, rfl, rfl, by show (seq + ((0 : Nat) : Int)) % 256 = seq; omega, HS.out⟩
          case round =>
            clear HS
            obtain ⟨k, z, oa, L, oc, hk, rfl, rfl, rfl, hz, h3⟩ := hrel
            have H3 := hid h3
            clear h3
            by_cases hlt : k < bs.length
            · obtain ⟨g, a, c, rfl, hcell, ho, hne⟩ := H3.out.at hlt
              have hL : L ≤ 1048576 := by have := enc_take_le seq bs k; rw [H3.out.len] at this; omega
              have hcap := H3.out.cap
              have hlen : (bs.getD k []).length ≤ 1048576 := by have := tot_ge bs k hlt; omega
              have HA := hid (appendPacket w'.heap.size oa L oc (enc ((pksFrom seq bs).take k)) a (bs.getD k []).length c (bs.getD k []) z wr H3.out.out ho hne H3.out.c.bel.size (by omega) hlen)
              have HN := hid (fun w1 g' cap' => H3.out.next (w1 := w1) (a := a) (c := c) (g := g') (cap := cap') hlt)
              rw [hz.out] at HN
              obtain ⟨np, hnp⟩ : ∃ np, (bs.getD k []).length = np := ⟨_, rfl⟩
              rw [hnp] at HA HN hcell hlen
              have HZ : Hid ((seq + (k + 1 : Nat)) % 256 = (z + 1) % 256) := hid (by have := hz.out; omega)
              have hz0 : 0 ≤ z := by have := hz.out; omega
              have hz1 : z ≤ 255 := by have := hz.out; omega
              clear ho hne hnp H3 hz
              go_wp2_with fail
              refine HA.out.mono ?_
              rintro e w1 ⟨g', cap, rfl, hp⟩
              have H4 := hid (HN.out w1 g' cap hp)
              clear hp HN HA
              go_wp2_with fail
              go_roundw
              case rel => exact ⟨k + 1, (z + 1) % 256, _, _, _, by omega, by go_num, by go_num, rfl, HZ.out, H4.out⟩
              case measure => simp [intOf]; omega
            · obtain rfl : k = bs.length := by omega
              have hall2 : (pksFrom seq bs).take bs.length = pksFrom seq bs := List.take_of_length_le (by rw [pks_length]; exact Nat.le_refl _)
              have hlenL := H3.out.len
              have hout := H3.out.out
              rw [hall2] at hlenL hout
              have hL : L ≤ 1048576 := by have := enc_take_le seq bs bs.length; rw [H3.out.len] at this; omega
              have HD := hid (decode_any oa L oc (pksFrom seq bs) wr hlenL (by omega) (ownsRow_cap hout) (rd_own hout))
              clear hall2 hlenL hout hz
              go_wp2_with fail
              refine HD.out.mono ?_
              rintro e w4 ⟨ia, ic, bda, bdc, rfl, oi, vs2, ov, hok, b4⟩
              have HF := hid (fin4_of H3.out oi ov hok b4)
              have BE := hid (H3.out.c.bel.trans (b4.mono H3.out.c.bel.size))
              rw [pks_length]
              clear oi ov hok b4 HD H3
              go_wp2_with fail
              go_loopw [15] (fun i wr => ∃ (k : Nat), k ≤ bs.length ∧ i = .int .i64 k ∧ Fin4 wr ia bda qa bs seq ∧ Below w'.heap.size w' wr) (fun i _ => bs.length - (intOf i).toNat)
              case atStart => exact ⟨0, Nat.zero_le _, rfl, HF.out, BE.out⟩
              case round =>
                clear HF BE
                obtain ⟨k, hk, rfl, h4, hb4⟩ := hrel
                by_cases hlt : k < bs.length
                · obtain ⟨gi, rfl, ci⟩ := h4.i k hlt
                  obtain ⟨gb, ba, bc, rfl, cb, rb⟩ := h4.b k hlt
                  obtain ⟨gq, pa', pc', rfl, cp, rp⟩ := h4.p k hlt
                  have H4 := hid h4
                  have B4 := hid hb4
                  have HS := hid (fun nq => same_yes ba pa' (bs.getD k []).length bc pc' (fun i => (bs.getD k []).getD i 0) (wr.drewN nq) (by have := tot_ge bs k hlt; omega) (by exact rb) (by exact rp))
                  obtain ⟨np, hnp⟩ : ∃ np, (bs.getD k []).length = np := ⟨_, rfl⟩
                  rw [hnp] at HS cb cp
                  clear h4 hb4 rb rp hnp
                  obtain ⟨z, hz, hz2⟩ : ∃ z : Int, (seq + k) % 256 = z ∧ (seq + k % 256) % 256 = z := ⟨_, rfl, by omega⟩
                  rw [hz] at ci
                  go_wp2_with fail
                  go_quiet ((go_at_call 10; exact Calls.quiet_of (HS.out _)))
                  go_wp2_with fail
                  go_roundw
                  case rel => exact ⟨k + 1, by omega, by go_num, H4.out.drewN _, belowDrewN B4.out _⟩
                  case measure => simp [intOf]; omega
                · go_wp2_with fail
                  go_ret
                  exact ⟨rfl, hb4⟩
  · go_wp2_with fail
    go_ret
    exact ⟨rfl, Below.refl _ _⟩

set_option maxRecDepth 1000000 in
set_option maxHeartbeats 1000000 in
theorem script_big (pa : Option Addr) (m pc : Nat) (bs : List (List Int)) (seq : Int) (w : World) (hP : PRow w pa m pc bs) (hm : 65536 < m) (hm2 : m ≤ maxLen) (hbs : ∀ r, r < m → (bs.getD r []).length ≤ maxLen) :
    Calls Try.prog 5 #[.slice pa m pc, .int .u8 seq] w fun e w' => e = .returned (.bool true) ∧ Below w.heap.size w w' := by
  have H := hid (zzBytes13 pa m pc bs seq w hP hm2 hbs)
  unfold maxLen at hm2
  clear hP hbs
  go_enter Try.func5, Try.ntmps5
  go_wp2_with fail
  refine H.out.mono ?_
  rintro e w' ⟨⟨rfl, hall⟩ | rfl, rfl⟩
  · clear H hall
    go_wp2_with fail
    go_ret
    exact ⟨rfl, Below.refl _ _⟩
  · go_wp2_with fail
    go_ret
    exact ⟨rfl, Below.refl _ _⟩

theorem script_any (pa : Option Addr) (m pc : Nat) (bs : List (List Int)) (seq : Int) (w : World) (hP : PRow w pa m pc bs) (hm : m ≤ maxLen) (hbs : ∀ r, r < m → (bs.getD r []).length ≤ maxLen) (s0 : 0 ≤ seq) (s1 : seq ≤ 255) :
    Calls Try.prog 5 #[.slice pa m pc, .int .u8 seq] w fun e w' => e = .returned (.bool true) ∧ Below w.heap.size w w' := by
  by_cases h : m ≤ 65536
  · exact script_walk pa m pc bs seq w hP h hbs s0 s1
  · exact script_big pa m pc bs seq w hP (by omega) hm hbs

end Go.Proofs.Qxb6001556a
