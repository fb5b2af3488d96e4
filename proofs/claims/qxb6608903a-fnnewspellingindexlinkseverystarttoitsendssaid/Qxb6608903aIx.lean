/-
  newSpellingIndex (28): the walk.
-/
import Derived.Test.Qxb6608903aIy
namespace Go.Proofs.Qxb6608903a.Ix
open Go.RowKit Plain Mem Go.Sort Lk
open U hiding hid
open Cl hiding hid
open TrieW hiding hid
open TrieG hiding zzSize zzNode
set_option linter.unusedVariables false

set_option maxHeartbeats 60000000 in
set_option maxRecDepth 100000 in
theorem index_any (w : World) (b n scap : Nat) (str : Nat → ByteArray) (ch : Nat → Int) (hn : n ≤ 65536) (hstr : ∀ j, j < n → (str j).size ≤ 1048576) (hsp : SpAt w b n str ch) (htot : lenTo (tsT str n) n ≤ 1048576) :
    Calls Try.prog 28 #[.slice (some ⟨b, 0, none⟩) n scap] w fun e w' => Indexed w n str ch e w' := by
  have HSP := hid hsp
  have HSTR := hid hstr
  have HTOT : Hid (lenTo (tsT str n) (tsT str n).length ≤ 1048576) := by rw [tsT_len]; exact htot
  have HTOV : Hid (lenTo (tsV str n) (tsV str n).length ≤ 1048576) := by rw [tsV_len, lenTo_rev]; exact htot
  clear hsp hstr htot
  have hmk := run_make_row' (P := Try.prog) 22 24 (.slice none 0 0) 24 Try.underlying22 info24 rfl .i64 .i64 n (by omega) (by omega)
  go_enter Try.func28, Try.ntmps28
  go_upto_block 0 with fail
  go_cut [30] (fun _ wx => ∃ F G : Nat → Value, L1 w wx n n (tsT str n) (tsV str n) F G)
  case first =>
    as_aux_lemma =>
    go_wp2_with fail
    go_loopw [30] (fun iv wr => ∃ (k : Nat) (F G : Nat → Value), k ≤ n ∧ iv = .int .i64 k ∧ L1 w wr n k (tsT str n) (tsV str n) F G) (fun iv _ => n - (intOf iv).toNat)
    case atStart => exact ⟨0, _, _, Nat.zero_le _, rfl, L1.start w n _ _⟩
    case round =>
      as_aux_lemma =>
      clear hmk
      obtain ⟨k, F, G, hk, rfl, hL⟩ := hrel
      have HL := hid hL
      by_cases hlt : k < n
      · as_aux_lemma =>
        obtain ⟨hc0, hc1⟩ := HSP.out k hlt
        have s0 : wr.cell? ⟨b, k * 2, none⟩ = some (.string (str k)) := by rw [hL.bel.cell (old_of hc0)]; exact hc0
        have s1 : wr.cell? ⟨b, k * 2 + 1, none⟩ = some (.int .i64 (ch k)) := by rw [hL.bel.cell (old_of hc1)]; exact hc1
        have ct : wr.cell? ⟨w.heap.size, k, none⟩ = some (F k) := hL.rt.cell hlt
        have cf : wr.frozen? ⟨w.heap.size, k, none⟩ = false := hL.rt.frozen k
        generalize F k = fk at ct
        have hk0 : (0 : Int) ≤ (k : Int) := Int.natCast_nonneg _
        have hk1 : (k : Int) < (n : Int) := by omega
        obtain ⟨cap, arr, hcv, harr⟩ := conv_run (wr.alloc (.cells #[.string (str k), .int .i64 (ch k)] 40)) (str k) (HSTR.out k hlt)
        have HARR := hid harr
        have hl1 := hL.rr.lt
        have hl0 : w.heap.size < wr.heap.size := by omega
        clear hL hc0 hc1 harr
        have hrl : (runes (str k)).length ≤ 16777216 := by have := runes_len (str k); have := HSTR.out k hlt; omega
        go_wp2_with fail
        have HCL := hid (clone_any (((wr.setCell ⟨w.heap.size, k, none⟩ (.slice (some ⟨wr.heap.size + 1, 0, none⟩) (runes (str k)).length cap)).alloc (.cells #[.string (str k), .int .i64 (ch k)] 40)).alloc (.cells arr 21)).drew (wr.heap.size + 1) 0 cap (runes (str k)) hrl (fun j hj => by
          rw [Nat.zero_add]
          have e : (((wr.setCell ⟨w.heap.size, k, none⟩ (.slice (some ⟨wr.heap.size + 1, 0, none⟩) (runes (str k)).length cap)).alloc (.cells #[.string (str k), .int .i64 (ch k)] 40)).alloc (.cells arr 21)).heap[wr.heap.size + 1]? = some (.cells arr 21) := by
            have := Go.Deep.blk_alloc_new ((wr.setCell ⟨w.heap.size, k, none⟩ (.slice (some ⟨wr.heap.size + 1, 0, none⟩) (runes (str k)).length cap)).alloc (.cells #[.string (str k), .int .i64 (ch k)] 40)) (.cells arr 21)
            simpa using this
          show (((wr.setCell ⟨w.heap.size, k, none⟩ (.slice (some ⟨wr.heap.size + 1, 0, none⟩) (runes (str k)).length cap)).alloc (.cells #[.string (str k), .int .i64 (ch k)] 40)).alloc (.cells arr 21)).cell? _ = _
          unfold World.cell?
          dsimp only
          rw [e]
          exact HARR.out j hj))
        refine HCL.out.mono ?_
        rintro e w2 ⟨g2, cap2, rfl, hown, hg2, hb2⟩
        have hg2' : wr.heap.size + 2 ≤ g2 := by simpa using hg2
        have HB2 : Hid (Below (wr.heap.size + 2) (((wr.setCell ⟨w.heap.size, k, none⟩ (.slice (some ⟨wr.heap.size + 1, 0, none⟩) (runes (str k)).length cap)).alloc (.cells #[.string (str k), .int .i64 (ch k)] 40)).alloc (.cells arr 21)) w2) := by
          have hb := hb2.mono (B' := wr.heap.size + 2) (by simp)
          exact ⟨hb.os, hb.tape, hb.output, hb.size, hb.block⟩
        have hrw2 : w2.rowIs (w.heap.size + 1) 24 n G := (((HL.out.rr.setOther (a := ⟨w.heap.size, k, none⟩) (by show w.heap.size + 1 ≠ w.heap.size; omega) (.slice (some ⟨wr.heap.size + 1, 0, none⟩) (runes (str k)).length cap)).alloc (.cells #[.string (str k), .int .i64 (ch k)] 40)).alloc (.cells arr 21)).of_block (HB2.out.block _ (by omega))
        have c2 : w2.cell? ⟨w.heap.size + 1, k, none⟩ = some (G k) := hrw2.cell hlt
        have f2 : w2.frozen? ⟨w.heap.size + 1, k, none⟩ = false := hrw2.frozen k
        generalize G k = gk at c2
        have HOWN := hid hown
        clear hown hg2 hb2 hrw2 HCL hcv s0 s1 ct cf
        go_wp2_with fail
        refine (reverse_any _ g2 cap2 (runes (str k)) hrl (HOWN.out.setOther (by show g2 ≠ w.heap.size + 1; omega) _)).mono ?_
        rintro e w3 ⟨rfl, hown3, hgr3⟩
        have et := tsT_at str hlt
        have HN : Hid (∃ F G : Nat → Value, L1 w w3 n (k + 1) (tsT str n) (tsV str n) F G) := by
          have hst := HL.out.step (w2 := w2) (w3 := w3) hlt (.cells #[.string (str k), .int .i64 (ch k)] 40) arr cap g2 cap2 (tsV_at str hlt)
          rw [et] at hst
          exact ⟨_, _, hst HARR.out HB2.out hg2' hgr3 (fun j hj => by
            have := hown3.cell (c := j) (i := 0) hj (by decide)
            rw [Nat.mul_one, Nat.add_zero] at this
            exact this) hown3.lt⟩
        clear hown3 hgr3 et HL HB2 HOWN
        go_wp2
        obtain ⟨F', G', hN⟩ := HN.out
        exact ⟨⟨k + 1, F', G', by omega, by go_num, hN⟩, by simp [intOf]; omega⟩
      · as_aux_lemma =>
        obtain rfl : k = n := by omega
        have HF : Hid (∃ F G : Nat → Value, L1 w wr k k (tsT str k) (tsV str k) F G) := ⟨F, G, HL.out⟩
        clear HL hL
        go_wp2
        go_meet
        case rel => exact HF.out
  case rest =>
    as_aux_lemma =>
    clear hmk
    obtain ⟨F, G, hL⟩ := hcut
    have HL := hid hL
    clear hL
    have hTl := tsT_len str n
    have hVl := tsV_len str n
    go_wp2_with fail
    have HT1 := hid (newTrie_any (some ⟨w.heap.size, 0, none⟩) n (tsT str n) wc (by omega) HTOT.out (.inr ⟨w.heap.size, 0, rfl, fun j hj => by
      rw [hTl] at hj
      rw [Nat.zero_add]
      exact ⟨F j, HL.out.rt.cell hj, (HL.out.txt j hj).1.runesAt⟩⟩))
    rw [hTl] at HT1
    refine HT1.out.mono ?_
    rintro e w2 ⟨M, gn, cn, rfl, hbfM, hownM, hgn, hbel2⟩
    have HBM := hid hbfM
    have HOM := hid hownM
    have HB2 := hid hbel2
    clear hbfM hownM hbel2 HT1
    go_wp2_with fail
    have HT2 := hid (newTrie_any (some ⟨w.heap.size + 1, 0, none⟩) n (tsV str n) w2 (by omega) HTOV.out (.inr ⟨w.heap.size + 1, 0, rfl, fun j hj => by
      rw [hVl] at hj
      rw [Nat.zero_add]
      exact ⟨G j, fcell (HB2.out.block _ HL.out.rr.lt) (HL.out.rr.cell hj), ((HL.out.txt j hj).2.below HB2.out).runesAt⟩⟩))
    rw [hVl] at HT2
    refine HT2.out.mono ?_
    rintro e w3 ⟨N, gn', cn', rfl, hbfN, hownN, hgn', hbel3⟩
    have HFX : Hid (Fix w w3 n (tsT str n) (tsV str n) M N gn cn gn' cn' F G) := Fix.make hTl hVl HL.out HB2.out hbel3 HBM.out hbfN HOM.out hownN hgn hgn'
    have hM : M.length ≤ 1048577 := nodes_le HBM.out HTOT.out
    have hN : N.length ≤ 1048577 := nodes_le hbfN HTOV.out
    have hP : 2 * lenTo (tsT str n) n + n ≤ 2162688 := by have := HTOT.out; rw [hTl] at this; omega
    clear hbfN hownN hbel3 HT2 HBM HOM HB2 HL hgn hgn' HTOV
    have hmk : ∀ w : World, (Instr.makeSlice 24 (.int .i64 ((M.length : Int) + 1)) (.int .i64 ((M.length : Int) + 1))).run Try.prog w = .ok (.slice (some ⟨w.heap.size, 0, none⟩) (M.length + 1) (M.length + 1)) (w.alloc (.cells (madeCells #[.int .i32 0] (M.length + 1)) 21)) := fun w => by
      have h := run_make_row' (P := Try.prog) 24 21 (.int .i32 0) 4 Try.underlying24 info21 rfl .i64 .i64 (M.length + 1) (by omega) (by omega) w
      rw [show (((M.length + 1 : Nat)) : Int) = (M.length : Int) + 1 by omega] at h
      exact h
    have HTL := hid hTl
    have HVL := hid hVl
    clear hTl hVl
    have HST := hid (DS.start w3 (sl gn M.length cn) (sl gn' N.length cn') (M.length + 1))
    go_upto_block 2 with fail
    go_cut [8] (fun v8 wx => DS w3 wx (sl gn M.length cn) (sl gn' N.length cn') (sl (w3.heap.size + 1) (M.length + 1) (M.length + 1)) (.slice none 0 0) (M.length + 1) (stC (prS M N (tsT str n) ch n)) ∧ Buf wx (w3.heap.size + 2) [] v8)
    case first =>
      as_aux_lemma =>
      clear hmk
      go_wp2_with fail
      go_loopw [74, 8] (fun iv v8 wr => ∃ k : Nat, k ≤ n ∧ iv = .int .i64 k ∧ DS w3 wr (sl gn M.length cn) (sl gn' N.length cn') (sl (w3.heap.size + 1) (M.length + 1) (M.length + 1)) (.slice none 0 0) (M.length + 1) (stC (prS M N (tsT str n) ch k)) ∧ Buf wr (w3.heap.size + 2) [] v8)
        (fun iv _ _ => n - (intOf iv).toNat)
      case atStart => exact ⟨0, Nat.zero_le _, rfl, HST.out, .inl rfl⟩
      case round =>
        as_aux_lemma =>
        clear HST
        obtain ⟨k, hk, rfl, hDS, hbuf⟩ := hrel
        have HDS := hid hDS
        by_cases hlt : k < n
        · as_aux_lemma =>
          obtain ⟨hc, gx, capx, eF, hgx, hcs⟩ := HFX.out.text hDS hlt
          rw [eF] at hc
          have HCS := hid hcs
          have hk0 : (0 : Int) ≤ (k : Int) := Int.natCast_nonneg _
          have hk1 : (k : Int) < (n : Int) := by omega
          clear hDS eF hcs
          go_upto_region 16 with fail
          go_cut [8] (fun v8 wx => ∃ g8 cap8 : Nat, PB wx (w3.heap.size + 2) v8 M (tx (tsT str n) k) g8 cap8 ∧ DS w3 wx (sl gn M.length cn) (sl gn' N.length cn') (sl (w3.heap.size + 1) (M.length + 1) (M.length + 1)) (.slice none 0 0) (M.length + 1) (stC (prS M N (tsT str n) ch k)))
          case first =>
            as_aux_lemma =>
            have HLEN : Hid (lenTo (tsT str n) n ≤ 1048576) := by have := HTOT.out; rw [HTL.out] at this; exact this
            have HSZ := hid HDS.out.size
            rcases hbuf with rfl | ⟨g, len, cap, f, rfl, hg1, _, hown⟩
            · go_region_held3 (fun _ => True) (trivial) (first | (go_at_call 27; refine (HFX.out.path1 (wr := wr.drew) HDS.out.drew hM HLEN.out hlt (Nat.le_refl _) HSZ.out (World.ownsRow_nil _ _ _ _) hgx HCS.out).mono ?_; rintro e w8 ⟨g8, cap8, rfl, hown8, hb8, hat8, hgr8⟩; have H8 := hid hown8; have HG8 := hid hgr8; clear hown8 hgr8 hat8))
              all_goals go_wp2
              all_goals go_meet
              case rel => exact ⟨g8, cap8, ⟨rfl, hb8, H8.out⟩, HDS.out.drew.grown HG8.out (fun k hk => by simp [Value.ownBlock] at hk)⟩
            · as_aux_lemma =>
              have HOWN := hid (own_cut hown hg1)
              clear hown
              go_region_held3 (fun _ => True) (trivial) (first | (go_at_call 27; refine (HFX.out.path1 (wr := wr.drew) HDS.out.drew hM HLEN.out hlt (Nat.le_refl _) HSZ.out HOWN.out hgx HCS.out).mono ?_; rintro e w8 ⟨g8, cap8, rfl, hown8, hb8, hat8, hgr8⟩; have H8 := hid hown8; have HG8 := hid hgr8; clear hown8 hgr8 hat8))
              all_goals go_wp2
              all_goals go_meet
              case rel => exact ⟨g8, cap8, ⟨rfl, hb8, H8.out⟩, HDS.out.drew.grown HG8.out (fun k hk => by simp [Value.ownBlock] at hk; omega)⟩
          case rest =>
            as_aux_lemma =>
            obtain ⟨g8, cap8, hpb, hDS⟩ := hcut
            obtain rfl := hpb.e
            have HPB := hid hpb
            have HD2 := hid hDS
            have hg8 := hpb.b
            have HPN := hid (fun b' (hb : b' ≤ (tx (tsT str n) k).length + 1) => prU_len (M := M) (N := N) (C := ch) (i := k) (b := b') (T := tsT str n) (by rw [HTL.out]; exact hlt) hb)
            have HX := hid (fun b' => takeM HFX.out.bm (j := k) (by rw [HTL.out]; exact hlt) b')
            have HU := hid (prU_zero M N (tsT str n) ch k)
            have HUE := hid (prU_end M N (tsT str n) ch k)
            have HU1 := hid (fun b' hb => prU_succ_lt M N (tsT str n) ch (i := k) (b := b') hb)
            have HU2 := hid (prU_succ_end M N (tsT str n) ch k)
            have hml : (tx (tsT str n) k).length ≤ 1048576 := by
              have h0 := HTOT.out
              rw [HTL.out] at h0
              have h1 : lenTo (tsT str n) (k + 1) ≤ lenTo (tsT str n) n := lenTo_mono _ hlt
              have h2 : lenTo (tsT str n) (k + 1) = lenTo (tsT str n) k + (tx (tsT str n) k).length := rfl
              omega
            clear hpb hDS hbuf HDS HCS hc hgx
            generalize ht : tx (tsT str n) k = t at *
            have HT := hid ht
            clear ht
            go_wp2_with fail
            go_loopw [87] (fun iv wr => ∃ b' : Nat, b' ≤ t.length + 1 ∧ iv = .int .i64 b' ∧ DS w3 wr (sl gn M.length cn) (sl gn' N.length cn') (sl (w3.heap.size + 1) (M.length + 1) (M.length + 1)) (.slice none 0 0) (M.length + 1) (stC (prU M N (tsT str n) ch k b')) ∧ wc.grownBy wr (some (w3.heap.size + 1)))
              (fun iv _ => t.length + 1 - (intOf iv).toNat)
            case atStart => exact ⟨0, Nat.zero_le _, rfl, by rw [HU.out]; exact HD2.out, U.grown_refl _ _⟩
            case round =>
              as_aux_lemma =>
              clear HD2
              obtain ⟨b', hb', rfl, hD, hgr⟩ := hrel
              by_cases hbm : b' ≤ t.length
              · have hx : M.idxOf (t.take b') < M.length := List.idxOf_lt_length_of_mem (HX.out b')
                have hcn : wr.cell? ⟨g8, b', none⟩ = some (.int .i32 (M.idxOf (t.take b') : Nat)) := fcell (hgr.block g8 HPB.out.own.lt (by simp; omega)) (HPB.out.at hbm)
                generalize hxx : M.idxOf (t.take b') = x at *
                have HXX := hid hxx
                clear hxx
                have c2 : wr.cell? ⟨w3.heap.size, 2, none⟩ = some (.slice (some ⟨w3.heap.size + 1, 0, none⟩) (M.length + 1) (M.length + 1)) := hD.c2
                have cz : wr.cell? ⟨w3.heap.size + 1, x + 1, none⟩ = some (.int .i32 (stC (prU M N (tsT str n) ch k b') (x + 1) : Nat)) := hD.cs (by omega)
                have fz : wr.frozen? ⟨w3.heap.size + 1, x + 1, none⟩ = false := hD.st.frozen _
                have hz : stC (prU M N (tsT str n) ch k b') (x + 1) ≤ 2162688 := by
                  rw [stC_at]
                  have h1 := cn_le (prU M N (tsT str n) ch k b') x
                  have h2 := HPN.out b' (by omega)
                  rw [HTL.out] at h2
                  omega
                have HD := hid hD
                have HG := hid hgr
                generalize hzz : stC (prU M N (tsT str n) ch k b') (x + 1) = z at *
                have HZZ := hid hzz
                clear hzz hD hgr
                by_cases hblt : b' < t.length
                · go_wp2
                  have h1 := HD.out.count x (l1 N t (ch k) b') z HZZ.out
                  have h2 := h1.count x (l2 N t (ch k) b') (z + 1) (by rw [stC_one, if_pos rfl, HZZ.out])
                  have hU := HU1.out b' hblt
                  rw [HXX.out] at hU
                  rw [← hU] at h2
                  exact ⟨⟨b' + 1, by omega, by go_num, h2, U.grown_set (U.grown_set HG.out _ _) _ _⟩, by simp [intOf]; omega⟩
                · go_wp2
                  obtain rfl : b' = t.length := by omega
                  have h1 := HD.out.count x (l1 N t (ch k) t.length) z HZZ.out
                  have hU := HU2.out
                  rw [HXX.out] at hU
                  rw [← hU] at h1
                  exact ⟨⟨t.length + 1, by omega, by go_num, h1, U.grown_set HG.out _ _⟩, by simp only [intOf]; omega⟩
              · as_aux_lemma =>
                obtain rfl : b' = t.length + 1 := by omega
                have HD := hid hD
                have HG := hid hgr
                clear hD hgr
                go_wp2
                exact ⟨⟨k + 1, by omega, by go_num, by rw [← HUE.out]; exact HD.out, .inr ⟨g8, _, cap8, _, rfl, hg8, by simp, HPB.out.own.of_block (HG.out.block _ HPB.out.own.lt (by simp; omega))⟩⟩, by simp only [intOf]; omega⟩
        · as_aux_lemma =>
          obtain rfl : k = n := by omega
          have HB := hid hbuf
          clear hbuf hDS
          go_wp2
          go_meet
          case rel => exact ⟨HDS.out, HB.out⟩
    case rest =>
      as_aux_lemma =>
      clear hmk HST
      obtain ⟨hDS, hbuf⟩ := hcut
      have hPl : (prS M N (tsT str n) ch n).length ≤ 2162688 := by rw [prS_len]; exact hP
      have HPN : Hid (∀ p ∈ prS M N (tsT str n) ch n, p.1 < M.length) := prS_node (fun j b hj _ => takeM HFX.out.bm hj b) n (by rw [HTL.out]; exact Nat.le_refl _)
      have HDS := hid hDS
      have HBF := hid hbuf
      clear hDS hbuf hP
      generalize hPe : prS M N (tsT str n) ch n = P at *
      have HPE := hid hPe
      clear hPe
      go_upto_block 6 with fail
      go_cut [14] (fun _ wx => DS w3 wx (sl gn M.length cn) (sl gn' N.length cn') (sl (w3.heap.size + 1) (M.length + 1) (M.length + 1)) (.slice none 0 0) (M.length + 1) (blw P) ∧ wc.grownBy wx (some (w3.heap.size + 1)))
      case first =>
        as_aux_lemma =>
        go_wp2_with fail
        go_loopw [14] (fun iv wr => ∃ j : Nat, 1 ≤ j ∧ j ≤ M.length + 1 ∧ iv = .int .i64 j ∧ DS w3 wr (sl gn M.length cn) (sl gn' N.length cn') (sl (w3.heap.size + 1) (M.length + 1) (M.length + 1)) (.slice none 0 0) (M.length + 1) (stP P j) ∧ wc.grownBy wr (some (w3.heap.size + 1)))
          (fun iv _ => M.length + 1 - (intOf iv).toNat)
        case atStart => exact ⟨1, Nat.le_refl _, by omega, rfl, HDS.out.congr (fun i _ => stP_one P i), U.grown_refl _ _⟩
        case round =>
          as_aux_lemma =>
          clear HDS
          obtain ⟨j, h1j, hj, rfl, hD, hgr⟩ := hrel
          have HD := hid hD
          have HG := hid hgr
          have c2 : wr.cell? ⟨w3.heap.size, 2, none⟩ = some (.slice (some ⟨w3.heap.size + 1, 0, none⟩) (M.length + 1) (M.length + 1)) := hD.c2
          by_cases hlt : j < M.length + 1
          · as_aux_lemma =>
            obtain ⟨i, hi⟩ : ∃ i, j = i + 1 := ⟨j - 1, by omega⟩
            have cj : wr.cell? ⟨w3.heap.size + 1, j, none⟩ = some (.int .i32 (stC P j : Nat)) := by
              have := hD.cs hlt
              unfold stP at this
              rw [if_neg (by omega)] at this
              exact this
            have ci : wr.cell? ⟨w3.heap.size + 1, i, none⟩ = some (.int .i32 (blw P i : Nat)) := by
              have := hD.cs (j := i) (by omega)
              unfold stP at this
              rw [if_pos (by omega)] at this
              exact this
            have fj : wr.frozen? ⟨w3.heap.size + 1, j, none⟩ = false := hD.st.frozen _
            have hsum : blw P i + stC P j = blw P j := by
              have := stP_step P h1j
              rw [show j - 1 = i by omega] at this
              exact this
            have hle := blw_le P j
            generalize hz1 : stC P j = z1 at *
            generalize hz2 : blw P i = z2 at *
            have HSUM := hid hsum
            have hb1 : z1 + z2 ≤ 2162688 := by omega
            have hji : (j : Int) - 1 = (i : Int) := by omega
            have hi0 : (0 : Int) ≤ (i : Int) := Int.natCast_nonneg _
            have hi1 : (i : Int) < (M.length : Int) + 1 := by omega
            have hj0 : (0 : Int) ≤ (j : Int) := Int.natCast_nonneg _
            have hj1 : (j : Int) < (M.length : Int) + 1 := by omega
            have HI := hid hi
            clear hD hgr hz1 hz2 hsum hle hi
            go_wp2
            go_region
            all_goals go_wp2
            have e : ((z1 : Int) + (z2 : Int)) = ((blw P j : Nat) : Int) := by have := HSUM.out; omega
            rw [e]
            exact ⟨⟨j + 1, by omega, by omega, by go_num, HD.out.sum.drew, gr_drew (U.grown_set HG.out _ _)⟩, by simp only [intOf]; omega⟩
          · as_aux_lemma =>
            obtain rfl : j = M.length + 1 := by omega
            clear hD hgr
            go_wp2
            go_meet
            case rel => exact ⟨HD.out.congr (fun i hi => by unfold stP; rw [if_pos hi]), HG.out⟩
      case rest =>
        as_aux_lemma =>
        obtain ⟨hD, hgr⟩ := hcut
        have hbuf : Buf wc (w3.heap.size + 2) [] u8 := HBF.out.same (fun g h1 _ h3 => hgr.block g h3 (by simp; omega))
        have HBU := hid hbuf
        have HD := hid hD
        have c2 : wc.cell? ⟨w3.heap.size, 2, none⟩ = some (.slice (some ⟨w3.heap.size + 1, 0, none⟩) (M.length + 1) (M.length + 1)) := hD.c2
        have c3 : wc.cell? ⟨w3.heap.size, 3, none⟩ = some (.slice none 0 0) := hD.c3
        have f3 : wc.frozen? ⟨w3.heap.size, 3, none⟩ = false := hD.box.frozen _
        have cl : wc.cell? ⟨w3.heap.size + 1, M.length, none⟩ = some (.int .i32 (P.length : Nat)) := by
          have := hD.cs (j := M.length) (by omega)
          rw [blw_all P M.length HPN.out] at this
          exact this
        have hsz : w3.heap.size + 2 ≤ wc.heap.size := hD.size
        have hmk : ∀ w : World, (Instr.makeSlice 47 (.int .i32 (P.length : Int)) (.int .i32 (P.length : Int))).run Try.prog w = .ok (.slice (some ⟨w.heap.size, 0, none⟩) P.length P.length) (w.alloc (.cells (madeCells #[.int .u64 0] P.length) 50)) := fun w =>
          run_make_row' (P := Try.prog) 47 50 (.int .u64 0) 8 Try.underlying47 info50 rfl .i32 .i32 P.length (by omega) (by omega) w
        have hl0 : w3.heap.size < wc.heap.size := by omega
        clear hD hgr hbuf HDS HBF
        generalize wc = wb at *
        go_upto_region 29 with fail
        go_cut [144] (fun _ wx => wx = ((wb.setCell ⟨w3.heap.size, 3, none⟩ (.slice (some ⟨wb.heap.size, 0, none⟩) P.length P.length)).alloc (.cells (madeCells #[.int .u64 0] P.length) 50)).drew)
        case first =>
          as_aux_lemma =>
          go_region
          all_goals go_wp2
          all_goals go_meet
          case rel => rfl
        case rest =>
          as_aux_lemma =>
          have hDS : DS w3 wc (sl gn M.length cn) (sl gn' N.length cn') (sl (w3.heap.size + 1) (M.length + 1) (M.length + 1)) (sl wb.heap.size P.length P.length) (M.length + 1) (blw P) := by
            rw [hcut]
            exact ((HD.out.put3 _).same (((Below.refl _ _).alloc (by have := HD.out.size; simpa using this) _).drew))
          have hLN : wc.rowIs wb.heap.size 50 P.length (fun _ => .int .u64 0) := by
            rw [hcut]
            have h := World.rowIs_made (wb.setCell ⟨w3.heap.size, 3, none⟩ (.slice (some ⟨wb.heap.size, 0, none⟩) P.length P.length)) (.int .u64 0) P.length 50
            have e : (wb.setCell ⟨w3.heap.size, 3, none⟩ (.slice (some ⟨wb.heap.size, 0, none⟩) P.length P.length)).heap.size = wb.heap.size := by simp
            rw [e] at h
            exact h
          have hbuf : Buf wc (w3.heap.size + 2) [wb.heap.size] u8 := by
            rcases HBU.out with h | ⟨g, len, cap, f, e, h1, h2, h3⟩
            · exact .inl h
            · have h4 := h3.lt
              refine .inr ⟨g, len, cap, f, e, h1, by simp; omega, ?_⟩
              rw [hcut]
              exact ((h3.setOther (by show g ≠ w3.heap.size; omega) _).alloc _).drew
          have HDS := hid hDS
          have HLN := hid hLN
          have HBF := hid hbuf
          have hgl : w3.heap.size + 2 ≤ wb.heap.size := HD.out.size
          clear hcut HBU c2 c3 f3 cl hsz hmk hl0 HD
          generalize wb.heap.size = gl at *
          have c2 : wc.cell? ⟨w3.heap.size, 2, none⟩ = some (.slice (some ⟨w3.heap.size + 1, 0, none⟩) (M.length + 1) (M.length + 1)) := hDS.c2
          clear hDS hLN hbuf
          have HCL := hid (clone_any wc.drew (w3.heap.size + 1) 0 (M.length + 1) (blL P M.length) (by rw [blL_len]; omega) (fun j hj => by
            rw [blL_len] at hj
            rw [Nat.zero_add, blL_at P hj]
            exact HDS.out.drew.cs (by omega)))
          rw [blL_len] at HCL
          obtain ⟨N1, hN1⟩ : ∃ N1 : Nat, N1 = M.length + 1 := ⟨_, rfl⟩
          rw [← hN1] at c2 HCL
          have hm1 : (N1 : Int) - 1 = (M.length : Int) := by omega
          have hm2 : (0 : Int) ≤ (M.length : Int) := by omega
          have hm3 : (M.length : Int) ≤ (N1 : Int) := by omega
          have hwm := wrapN M.length (by omega)
          have HN1 := hid hN1
          clear hN1
          generalize wc = wd at *
          go_upto_region 30 with fail
          go_cut [15] (fun v15 wx => ∃ gx cx : Nat, v15 = .slice (some ⟨gx, 0, none⟩) M.length cx ∧ LS w3 wx (sl gn M.length cn) (sl gn' N.length cn') (sl (w3.heap.size + 1) (M.length + 1) (M.length + 1)) M.length P [] gl gx cx (fun _ => 0) ∧ gl < gx ∧ Buf wx (w3.heap.size + 2) [gl, gx] u8)
          case first =>
            as_aux_lemma =>
            go_region_held3 (fun w' => w'.cell? ⟨w3.heap.size, 2, none⟩ = some (.slice (some ⟨w3.heap.size + 1, 0, none⟩) N1 N1)) (go_keep) (first | (go_at_call 35; refine HCL.out.mono ?_; rintro e w8 ⟨gx, cx, rfl, hown8, hb8, hbl8⟩; have k1 := fcell (hbl8.block w3.heap.size (old_of c2)) c2; have H8 := hid hown8; have HB8 := hid hbl8; have HGX := hid hb8; clear hown8 hbl8 hb8))
            all_goals go_wp2
            all_goals go_meet
            all_goals
              rw [blL_len]
              have hlt := HLN.out.lt
              have hgx : wd.heap.size ≤ gx := HGX.out
              refine ⟨gx, cx, rfl, LS.start (wd := wd.drew) HDS.out.drew HLN.out.drew H8.out HB8.out, by omega, ?_⟩
              rcases HBF.out with h | ⟨g, len, cap, f, e, h1, h2, h3⟩
              · exact .inl h
              · have h4 := h3.lt
                exact .inr ⟨g, len, cap, f, e, h1, by simp at h2; simp; omega, h3.of_block (HB8.out.block g h4)⟩
          case rest =>
            as_aux_lemma =>
            obtain ⟨gx, cx, rfl, hLS, hlx, hbuf⟩ := hcut
            have HLS := hid hLS
            have HBU := hid hbuf
            clear hLS hbuf HDS HLN HBF HCL hm1 hm2 hm3 hwm HN1 c2
            have HFS : Hid (∀ W c d Z, DS w3 W (sl gn M.length cn) (sl gn' N.length cn') c d (M.length + 1) Z → SpAt W b n str ch) := fun W c d Z hD j hj => by
              obtain ⟨h0, h1⟩ := HSP.out j hj
              have hb : Below w.heap.size w W := HFX.out.bel.trans (hD.bel.mono (by have := HFX.out.sz; omega))
              exact ⟨by rw [hb.cell (old_of h0)]; exact h0, by rw [hb.cell (old_of h1)]; exact h1⟩
            clear HSP
            go_upto_block 8 with fail
            go_cut [174] (fun _ wx => ∃ R : Nat → Int, LS w3 wx (sl gn M.length cn) (sl gn' N.length cn') (sl (w3.heap.size + 1) (M.length + 1) (M.length + 1)) M.length P P gl gx cx R)
            case first =>
              as_aux_lemma =>
              go_wp2_with fail
              go_loopw [174, 8, 9] (fun iv v8 v9 wr => ∃ (k : Nat) (R : Nat → Int), k ≤ n ∧ iv = .int .i64 k ∧ LS w3 wr (sl gn M.length cn) (sl gn' N.length cn') (sl (w3.heap.size + 1) (M.length + 1) (M.length + 1)) M.length P (prS M N (tsT str n) ch k) gl gx cx R ∧ Buf wr (w3.heap.size + 2) [gl, gx] v8 ∧ Buf wr (w3.heap.size + 2) [gl, gx] v9 ∧ ∀ g, v8.ownBlock = some g → v9.ownBlock ≠ some g)
                (fun iv _ _ _ => n - (intOf iv).toNat)
              case atStart => exact ⟨0, _, Nat.zero_le _, rfl, HLS.out, HBU.out, .inl rfl, fun g _ => by simp [Value.ownBlock]⟩
              case round =>
                as_aux_lemma =>
                clear HLS HBU
                obtain ⟨k, R, hk, rfl, hLS, hb8, hb9, hdis⟩ := hrel
                have HLS := hid hLS
                by_cases hlt : k < n
                · as_aux_lemma =>
                  obtain ⟨hc, gt1, cap1, eF, hgt1, hcs1⟩ := HFX.out.text hLS.ds hlt
                  obtain ⟨hcb, gt2, cap2, eG, hgt2, hcs2⟩ := HFX.out.back hLS.ds hlt
                  rw [eF] at hc
                  rw [eG] at hcb
                  obtain ⟨s0, s1⟩ := HFS.out wr _ _ _ hLS.ds k hlt
                  have HCS1 := hid hcs1
                  have HCS2 := hid hcs2
                  have hk0 : (0 : Int) ≤ (k : Int) := Int.natCast_nonneg _
                  have hk1 : (k : Int) < (n : Int) := by omega
                  have HSZ := hid hLS.ds.size
                  have HGX := hid hLS.nx.lt
                  have HDIS := hid hdis
                  have HB9 := hid hb9
                  have hw0 : w.heap.size < wr.heap.size := old_of hc
                  have hw1 : w.heap.size + 1 < wr.heap.size := old_of hcb
                  have HLEN : Hid (lenTo (tsT str n) n ≤ 1048576) := by have := HTOT.out; rw [HTL.out] at this; exact this
                  have HLEV : Hid (lenTo (tsV str n) n ≤ 1048576) := by rw [lenTo_rev]; exact HLEN.out
                  clear hLS eF eG hcs1 hcs2 hdis hb9
                  have HB8 := hid hb8
                  have HGG : Hid (gl < wr.heap.size ∧ gx < wr.heap.size) := ⟨by have := HGX.out; omega, HGX.out⟩
                  clear hb8
                  go_upto_region 34 with fail
                  generalize hw4 : wr.alloc (.cells #[.string (str k), .int .i64 (ch k)] 40) = w4
                  have hz4 : w4.heap.size = wr.heap.size + 1 := by rw [← hw4]; simp
                  have hf4 : ∀ g, g < wr.heap.size → w4.heap[g]? = wr.heap[g]? := fun g hg => by rw [← hw4]; exact Below.heap_alloc _ _ _ hg
                  have HL4 : Hid (LS w3 w4 (sl gn M.length cn) (sl gn' N.length cn') (sl (w3.heap.size + 1) (M.length + 1) (M.length + 1)) M.length P (prS M N (tsT str n) ch k) gl gx cx R) := by rw [← hw4]; exact HLS.out.alloc _
                  have HB84 : Hid (Buf w4 (w3.heap.size + 2) [gl, gx, wr.heap.size] u8) := by rw [← hw4]; exact HB8.out.alloc _
                  have HB94 : Hid (Buf w4 (w3.heap.size + 2) [gl, gx, wr.heap.size] u9) := by rw [← hw4]; exact HB9.out.alloc _
                  have HGS : Hid (w4.cell? ⟨wr.heap.size, 1, none⟩ = some (.int .i64 (ch k))) := by
                    rw [← hw4]
                    have := Go.Deep.blk_alloc_new wr (.cells #[.string (str k), .int .i64 (ch k)] 40)
                    unfold World.cell?
                    dsimp only
                    rw [this]
                    rfl
                  have HGX4 : Hid (gl < w4.heap.size ∧ gx < w4.heap.size ∧ wr.heap.size < w4.heap.size) := ⟨by have := HGX.out; omega, by have := HGX.out; omega, by omega⟩
                  have hc4 : w4.cell? ⟨w.heap.size, k, none⟩ = some (.slice (some ⟨gt1, 0, none⟩) (tx (tsT str n) k).length cap1) := fcell (hf4 _ hw0) hc
                  have hcs1 : ∀ i, i < (tx (tsT str n) k).length → w4.cell? ⟨gt1, i, none⟩ = some (.int .i32 (rn (tx (tsT str n) k) i)) := fun i hi => fcell (hf4 _ (by have := HSZ.out; omega)) (HCS1.out i hi)
                  have HC4 := hid hcs1
                  have hs4 : w3.heap.size + 2 ≤ w4.heap.size := by have := HSZ.out; omega
                  generalize hgs : wr.heap.size = gs at *
                  clear hcs1 hw4 hz4 hf4 HLS HB8 HB9 hc hcb s0 s1 hw0 hw1 HCS1 HCS2 HGX hgs HSZ
                  go_cut [8] (fun v8 wx => ∃ g8 cap8 : Nat, PB wx (w3.heap.size + 2) v8 M (tx (tsT str n) k) g8 cap8 ∧ g8 ∉ [gl, gx, gs] ∧ LS w3 wx (sl gn M.length cn) (sl gn' N.length cn') (sl (w3.heap.size + 1) (M.length + 1) (M.length + 1)) M.length P (prS M N (tsT str n) ch k) gl gx cx R ∧ wx.cell? ⟨gs, 1, none⟩ = some (.int .i64 (ch k)) ∧ Buf wx (w3.heap.size + 2) [g8, gl, gx, gs] u9 ∧ gs < wx.heap.size)
                  case first =>
                    as_aux_lemma =>
                    have hav : ∀ k ∈ [gl, gx, gs], k < w4.heap.size := by intro k hk; simp at hk; have := HGX4.out; rcases hk with rfl | rfl | rfl <;> omega
                    have HAV := hid hav
                    clear hav
                    rcases HB84.out with rfl | ⟨g, len, cap, f, rfl, hg1, hg2, hown⟩
                    · as_aux_lemma =>
                      clear HB84
                      have hnw : some w.heap.size ≠ (Value.slice none 0 0).ownBlock := by simp [Value.ownBlock]
                      go_region_held3 (fun w' => w'.cell? ⟨w.heap.size, k, none⟩ = some (.slice (some ⟨gt1, 0, none⟩) (tx (tsT str n) k).length cap1)) (go_keep) (first | (go_at_call 27; refine (HFX.out.path1 (wr := w4.drew) HL4.out.ds.drew hM HLEN.out hlt (Nat.le_refl _) hs4 (World.ownsRow_nil _ _ _ _) hgt1 HC4.out).mono ?_; rintro e w8 ⟨g8, cap8, rfl, hown8, hb8, hat8, hgr8⟩; have k1 := fcell (hgr8.block w.heap.size (old_of hc4) hnw) hc4; have H8 := hid hown8; have HG8 := hid hgr8; have HAT8 := hid hat8; clear hown8 hgr8 hat8))
                      all_goals go_wp2
                      all_goals go_meet
                      all_goals
                        have hK : Kept w4.drew w8 (w3.heap.size + 2) [gl, gx, gs] g8 (.slice none 0 0) := Kept.make HG8.out HAT8.out HAV.out (fun k hk => by simp [Value.ownBlock] at hk)
                        exact ⟨g8, cap8, ⟨rfl, hb8, H8.out⟩, hK.nav, hK.ls HL4.out.drew (Nat.le_refl _) (by simp) (by simp), hK.cell (by simp) HGS.out, hK.buf HB94.out (fun g hg => by simp [Value.ownBlock] at hg), Nat.lt_of_lt_of_le HGX4.out.2.2 HG8.out.size⟩
                    · as_aux_lemma =>
                      have HOWN := hid (own_cut hown hg1)
                      have hnw : some w.heap.size ≠ (Value.slice (some ⟨g, 0, none⟩) 0 cap).ownBlock := by have := HFX.out.sz; simp [Value.ownBlock]; omega
                      clear hown HB84
                      go_region_held3 (fun w' => w'.cell? ⟨w.heap.size, k, none⟩ = some (.slice (some ⟨gt1, 0, none⟩) (tx (tsT str n) k).length cap1)) (go_keep) (first | (go_at_call 27; refine (HFX.out.path1 (wr := w4.drew) HL4.out.ds.drew hM HLEN.out hlt (Nat.le_refl _) hs4 HOWN.out hgt1 HC4.out).mono ?_; rintro e w8 ⟨g8, cap8, rfl, hown8, hb8, hat8, hgr8⟩; have k1 := fcell (hgr8.block w.heap.size (old_of hc4) hnw) hc4; have H8 := hid hown8; have HG8 := hid hgr8; have HAT8 := hid hat8; clear hown8 hgr8 hat8))
                      all_goals go_wp2
                      all_goals go_meet
                      all_goals
                        have hK : Kept w4.drew w8 (w3.heap.size + 2) [gl, gx, gs] g8 (sl g 0 cap) := Kept.make HG8.out HAT8.out HAV.out (fun k hk => by simp [Value.ownBlock] at hk; rw [← hk]; exact ⟨hg1, hg2⟩)
                        exact ⟨g8, cap8, ⟨rfl, hb8, H8.out⟩, hK.nav, hK.ls HL4.out.drew (Nat.le_refl _) (by simp) (by simp), hK.cell (by simp) HGS.out, hK.buf HB94.out (fun g' hg => HDIS.out g' (by simp [Value.ownBlock] at hg ⊢; exact hg)), Nat.lt_of_lt_of_le HGX4.out.2.2 HG8.out.size⟩
                  case rest =>
                    as_aux_lemma =>
                    obtain ⟨g8, cap8, hpb8, hn8, hLS8, hgs8, hb98, hgsl⟩ := hcut
                    obtain rfl := hpb8.e
                    obtain ⟨hcb, gt2, cap2, eG, hgt2, hcs2⟩ := HFX.out.back hLS8.ds hlt
                    rw [eG] at hcb
                    have HL4' := hid hLS8
                    have HPB8 := hid hpb8
                    have HN8 := hid hn8
                    have HGS8 := hid hgs8
                    have HB98 := hid hb98
                    have HC2 := hid hcs2
                    have hs5 : w3.heap.size + 2 ≤ wc.heap.size := hLS8.ds.size
                    clear eG hcs2 hpb8 hn8 hgs8 hb98 hLS8 HL4 HB84 HB94 HGS HGX4 HC4 hc4 hs4
                    generalize wc = w5 at *
                    go_upto_region 35 with fail
                    go_cut [9] (fun v9 wx => ∃ g9 cap9 : Nat, PB wx (w3.heap.size + 2) v9 N (tx (tsV str n) k) g9 cap9 ∧ g9 ∉ [g8, gl, gx, gs] ∧ LS w3 wx (sl gn M.length cn) (sl gn' N.length cn') (sl (w3.heap.size + 1) (M.length + 1) (M.length + 1)) M.length P (prS M N (tsT str n) ch k) gl gx cx R ∧ wx.cell? ⟨gs, 1, none⟩ = some (.int .i64 (ch k)) ∧ PB wx (w3.heap.size + 2) (sl g8 ((tx (tsT str n) k).length + 1) cap8) M (tx (tsT str n) k) g8 cap8)
                    case first =>
                      as_aux_lemma =>
                      have HAV : Hid (∀ k ∈ [g8, gl, gx, gs], k < w5.heap.size) := by
                        intro k hk
                        have h1 := HPB8.out.own.lt
                        have h2 := HL4'.out.nx.lt
                        have h3 := HL4'.out.ln.lt
                        simp at hk
                        rcases hk with rfl | rfl | rfl | rfl <;> omega
                      rcases HB98.out with rfl | ⟨g, len, cap, f, rfl, hg1, hg2, hown⟩
                      · as_aux_lemma =>
                        clear HB98
                        have hnw : some (w.heap.size + 1) ≠ (Value.slice none 0 0).ownBlock := by simp [Value.ownBlock]
                        go_region_held3 (fun w' => w'.cell? ⟨w.heap.size + 1, k, none⟩ = some (.slice (some ⟨gt2, 0, none⟩) (tx (tsV str n) k).length cap2)) (go_keep) (first | (go_at_call 27; refine (HFX.out.path2 (wr := w5.drew) HL4'.out.ds.drew hN HLEV.out hlt (Nat.le_refl _) hs5 (World.ownsRow_nil _ _ _ _) hgt2 HC2.out).mono ?_; rintro e w8 ⟨g9, cap9, rfl, hown8, hb8, hat8, hgr8⟩; have k1 := fcell (hgr8.block (w.heap.size + 1) (old_of hcb) hnw) hcb; have H8 := hid hown8; have HG8 := hid hgr8; have HAT8 := hid hat8; clear hown8 hgr8 hat8))
                        all_goals go_wp2
                        all_goals go_meet
                        all_goals
                          have hK : Kept w5.drew w8 (w3.heap.size + 2) [g8, gl, gx, gs] g9 (.slice none 0 0) := Kept.make HG8.out HAT8.out HAV.out (fun k hk => by simp [Value.ownBlock] at hk)
                          exact ⟨g9, cap9, ⟨rfl, hb8, H8.out⟩, hK.nav, hK.ls HL4'.out.drew (Nat.le_refl _) (by simp) (by simp), hK.cell (by simp) HGS8.out, hK.pb (by simp) ⟨HPB8.out.e, HPB8.out.b, HPB8.out.own⟩⟩
                      · as_aux_lemma =>
                        have HOWN := hid (own_cut hown hg1)
                        have hnw : some (w.heap.size + 1) ≠ (Value.slice (some ⟨g, 0, none⟩) 0 cap).ownBlock := by have := HFX.out.sz; simp [Value.ownBlock]; omega
                        clear hown HB98
                        go_region_held3 (fun w' => w'.cell? ⟨w.heap.size + 1, k, none⟩ = some (.slice (some ⟨gt2, 0, none⟩) (tx (tsV str n) k).length cap2)) (go_keep) (first | (go_at_call 27; refine (HFX.out.path2 (wr := w5.drew) HL4'.out.ds.drew hN HLEV.out hlt (Nat.le_refl _) hs5 HOWN.out hgt2 HC2.out).mono ?_; rintro e w8 ⟨g9, cap9, rfl, hown8, hb8, hat8, hgr8⟩; have k1 := fcell (hgr8.block (w.heap.size + 1) (old_of hcb) hnw) hcb; have H8 := hid hown8; have HG8 := hid hgr8; have HAT8 := hid hat8; clear hown8 hgr8 hat8))
                        all_goals go_wp2
                        all_goals go_meet
                        all_goals
                          have hK : Kept w5.drew w8 (w3.heap.size + 2) [g8, gl, gx, gs] g9 (sl g 0 cap) := Kept.make HG8.out HAT8.out HAV.out (fun k hk => by simp [Value.ownBlock] at hk; rw [← hk]; exact ⟨hg1, hg2⟩)
                          exact ⟨g9, cap9, ⟨rfl, hb8, H8.out⟩, hK.nav, hK.ls HL4'.out.drew (Nat.le_refl _) (by simp) (by simp), hK.cell (by simp) HGS8.out, hK.pb (by simp) ⟨HPB8.out.e, HPB8.out.b, HPB8.out.own⟩⟩
                    case rest =>
                      as_aux_lemma =>
                      obtain ⟨g9, cap9, hpb9, hn9, hLS9, hgs9, hpb8⟩ := hcut
                      obtain rfl := hpb9.e
                      obtain ⟨hct, gt3, cap3, eF, hgt3, _⟩ := HFX.out.text hLS9.ds hlt
                      rw [eF] at hct
                      have hV := tsV_at str hlt
                      rw [hV] at hpb9
                      rw [hV, List.length_reverse]
                      have HLS := hid hLS9
                      have HP8 := hid hpb8
                      have HP9 := hid hpb9
                      have HGS := hid hgs9
                      have hml : (tx (tsT str n) k).length ≤ 1048576 := by
                        have h0 := HLEN.out
                        have h1 : lenTo (tsT str n) (k + 1) ≤ lenTo (tsT str n) n := lenTo_mono _ hlt
                        have h2 : lenTo (tsT str n) (k + 1) = lenTo (tsT str n) k + (tx (tsT str n) k).length := rfl
                        omega
                      have HX := hid (fun b' => takeM HFX.out.bm (j := k) (by rw [HTL.out]; exact hlt) b')
                      have HXV := hid (fun b' => takeM HFX.out.bn (j := k) (by rw [HVL.out]; exact hlt) b')
                      rw [hV] at HXV
                      have HPI := hid (fun b' (hb : b' ≤ (tx (tsT str n) k).length + 1) => prU_in M N (tsT str n) ch (i := k) (b := b') (by rw [HTL.out]; exact hlt) hb)
                      rw [HTL.out, HPE.out] at HPI
                      have HU := hid (prU_zero M N (tsT str n) ch k)
                      have HUE := hid (prU_end M N (tsT str n) ch k)
                      have HU1 := hid (fun b' hb => prU_succ_lt M N (tsT str n) ch (i := k) (b := b') hb)
                      have HU2 := hid (prU_succ_end M N (tsT str n) ch k)
                      simp only [List.mem_cons, List.not_mem_nil, or_false, not_or] at hn9
                      have hn8 := HN8.out
                      simp only [List.mem_cons, List.not_mem_nil, or_false, not_or] at hn8
                      have HNN := hid (And.intro hn8 hn9)
                      have hgl2 : gl < gs ∧ gx < gs := HGG.out
                      clear hpb9 hpb8 hgs9 hLS9 hn9 hn8 HN8 HPB8 HGS8 HB98 HL4' hcb HC2 hs5 eF hV hgt3 HDIS
                      generalize ht : tx (tsT str n) k = t at *
                      generalize wc = wi at *
                      have HT := hid ht
                      clear ht
                      go_wp2_with fail
                      go_loopw [206] (fun iv wr => ∃ (b' : Nat) (R : Nat → Int), b' ≤ t.length + 1 ∧ iv = .int .i64 b' ∧ LS w3 wr (sl gn M.length cn) (sl gn' N.length cn') (sl (w3.heap.size + 1) (M.length + 1) (M.length + 1)) M.length P (prU M N (tsT str n) ch k b') gl gx cx R ∧ Two wi wr gl gx)
                        (fun iv _ => t.length + 1 - (intOf iv).toNat)
                      case atStart => exact ⟨0, R, Nat.zero_le _, rfl, by rw [HU.out]; exact HLS.out, Two.refl _ _ _⟩
                      case round =>
                        as_aux_lemma =>
                        clear HLS
                        obtain ⟨b', R', hb', rfl, hL, htw⟩ := hrel
                        have HL := hid hL
                        have HTW := hid htw
                        by_cases hbm : b' ≤ t.length
                        · as_aux_lemma =>
                          have hx : M.idxOf (t.take b') < M.length := List.idxOf_lt_length_of_mem (HX.out b')
                          have hcn : wr.cell? ⟨g8, b', none⟩ = some (.int .i32 (M.idxOf (t.take b') : Nat)) := fcell (htw.block g8 HP8.out.own.lt HNN.out.1.1 HNN.out.1.2.1) (HP8.out.at hbm)
                          obtain ⟨e, he⟩ : ∃ e, e = t.length - b' := ⟨_, rfl⟩
                          have hce : wr.cell? ⟨g9, e, none⟩ = some (.int .i32 (N.idxOf (t.reverse.take e) : Nat)) := fcell (htw.block g9 HP9.out.own.lt HNN.out.2.2.1 HNN.out.2.2.2.1) (HP9.out.at (by rw [List.length_reverse]; omega))
                          have hle1 : N.idxOf (t.reverse.take e) ≤ 2097153 := by have := List.idxOf_lt_length_of_mem (HXV.out e); omega
                          have hcc : wr.cell? ⟨gs, 1, none⟩ = some (.int .i64 (ch k)) := fcell (htw.block gs (old_of HGS.out) (by omega) (by omega)) HGS.out
                          have c3 : wr.cell? ⟨w3.heap.size, 3, none⟩ = some (.slice (some ⟨gl, 0, none⟩) P.length P.length) := hL.ds.c3
                          have hcx := hL.at hx
                          have hfx : wr.frozen? ⟨gx, M.idxOf (t.take b'), none⟩ = false := hL.nx.frozen _
                          have HL1 : Hid (l1 N t (ch k) b' = lnk (N.idxOf (t.reverse.take e)) false (ch k)) := by unfold l1; rw [he]; rfl
                          generalize hxx : M.idxOf (t.take b') = x at *
                          have HXX := hid hxx
                          obtain ⟨q, hq⟩ : ∃ q, blw P x + U.cn (prU M N (tsT str n) ch k b') x = q := ⟨_, rfl⟩
                          rw [hq] at hcx
                          have HQ := hid hq
                          have em : (t.length : Int) - (b' : Int) = (e : Int) := by omega
                          have hwe := wrapN e (by omega)
                          have he0 : (0 : Int) ≤ (e : Int) := Int.natCast_nonneg _
                          have he1 : (e : Int) < (t.length : Int) + 1 := by omega
                          have hq0 : (0 : Int) ≤ (q : Int) := Int.natCast_nonneg _
                          have hx0 : (0 : Int) ≤ (x : Int) := Int.natCast_nonneg _
                          have hx1 : (x : Int) < (M.length : Int) := by omega
                          have hcl : wr.cell? ⟨gl, q, none⟩ = some (.int .u64 (R' q)) ∧ q < P.length := by
                            have hqP : q < P.length := by
                              by_cases hblt : b' < t.length
                              · obtain ⟨Q, hQ⟩ := HPI.out (b' + 1) (by omega)
                                rw [HU1.out b' hblt, HXX.out, List.append_assoc] at hQ
                                have := (hL.laid.step hQ).2
                                have h2 := blw_le P (x + 1)
                                omega
                              · obtain rfl : b' = t.length := by omega
                                obtain ⟨Q, hQ⟩ := HPI.out (t.length + 1) (by omega)
                                rw [HU2.out, HXX.out] at hQ
                                have := (hL.laid.step hQ).2
                                have h2 := blw_le P (x + 1)
                                omega
                            exact ⟨hL.ln.cell hqP, hqP⟩
                          obtain ⟨hcl, hqP⟩ := hcl
                          have hq1 : (q : Int) < (P.length : Int) := by omega
                          have hfl : wr.frozen? ⟨gl, q, none⟩ = false := hL.ln.frozen _
                          have HE := hid he
                          generalize R' q = rq at hcl
                          obtain ⟨ll1, hll⟩ : ∃ ll1, l1 N t (ch k) b' = ll1 := ⟨_, rfl⟩
                          have HLL := hid hll
                          rw [HL1.out] at hll
                          generalize hee : N.idxOf (t.reverse.take e) = e1 at *
                          have HLK := hid (fun W => Lk.link_any W e1 hle1 false (ch k))
                          rw [hll] at HLK
                          clear hq hxx hee HL1 hL htw he hll
                          go_upto_region 40 with fail
                          go_cut [228] (fun _ wx => wx = (wr.setCell ⟨gl, q, none⟩ (.int .u64 ll1)).drew)
                          case first =>
                            as_aux_lemma =>
                            have n1 : ¬ (w3.heap.size = gl) := by omega
                            have n2 : ¬ (gx = gl) := by omega
                            have n3 : ¬ (g9 = gl) := HNN.out.2.2.1
                            have n4 : ¬ (gs = gl) := by omega
                            have n5 : ¬ (gl = w3.heap.size) := by omega
                            have n6 : ¬ (gl = gx) := by omega
                            have n7 : ¬ (gl = g9) := fun h => n3 h.symm
                            have n8 : ¬ (gl = gs) := by omega
                            clear HFX HTL HVL HSTR HTOT HPN HPE HFS HLEN HLEV HGG HP8 HP9 HX HXV HPI HU HUE HU1 HU2 HNN HGS HT HL HTW HXX HQ HE HLL hcn hct
                            go_region_held3 (fun w' => w'.cell? ⟨w3.heap.size, 3, none⟩ = some (.slice (some ⟨gl, 0, none⟩) P.length P.length) ∧ w'.cell? ⟨gx, x, none⟩ = some (.int .i32 (q : Nat)) ∧ w'.cell? ⟨g9, e, none⟩ = some (.int .i32 (e1 : Nat)) ∧ w'.cell? ⟨gs, 1, none⟩ = some (.int .i64 (ch k))) (go_keep)
                              (first | (go_at_call 37; refine (HLK.out _).mono ?_; rintro e w' ⟨rfl, rfl⟩))
                            all_goals go_wp2
                            all_goals go_meet
                            all_goals rfl
                          case rest =>
                            as_aux_lemma =>
                            have hcx' : wc.cell? ⟨gx, x, none⟩ = some (.int .i32 (q : Nat)) := by rw [hcut]; exact fcell (Below.heap_setCell _ _ _ _ (by show gx ≠ gl; omega)) hcx
                            have hfx' : wc.frozen? ⟨gx, x, none⟩ = false := by rw [hcut]; exact (HL.out.nx.setOther (a := ⟨gl, q, none⟩) (by show gx ≠ gl; omega) (.int .u64 ll1)).frozen x
                            have HTW2 : Hid (Two wi (wc.setCell ⟨gx, x, none⟩ (.int .i32 ((q : Int) + 1))) gl gx) := by rw [hcut]; exact ((HTW.out.set1 _ _).drew).set2 _ _
                            have HLAY : Hid (∀ Q, P = (prU M N (tsT str n) ch k b' ++ [(x, ll1)]) ++ Q → LS w3 (wc.setCell ⟨gx, x, none⟩ (.int .i32 ((q : Int) + 1))) (sl gn M.length cn) (sl gn' N.length cn') (sl (w3.heap.size + 1) (M.length + 1) (M.length + 1)) M.length P (prU M N (tsT str n) ch k b' ++ [(x, ll1)]) gl gx cx (putI R' q ll1)) := fun Q hQ => by
                              rw [hcut]
                              exact HL.out.lay hQ hx hgl (by omega) (by omega) HQ.out
                            have hgsx : gs ≠ gl ∧ gs ≠ gx := ⟨by omega, by omega⟩
                            have HQP := hid hqP
                            clear hcut HL HTW hcx hfx c3 hcc hce hcl hfl hcn hqP
                            by_cases hblt : b' < t.length
                            · as_aux_lemma =>
                              obtain ⟨Q, hQ⟩ := HPI.out (b' + 1) (by omega)
                              rw [HU1.out b' hblt, HXX.out, HLL.out] at hQ
                              have hL2 := HLAY.out ([(x, l2 N t (ch k) b')] ++ Q) (by rw [hQ]; simp)
                              obtain ⟨e2, he2⟩ : ∃ e2, e2 = t.length - b' - 1 := ⟨_, rfl⟩
                              have hce2 : (wc.setCell ⟨gx, x, none⟩ (.int .i32 ((q : Int) + 1))).cell? ⟨g9, e2, none⟩ = some (.int .i32 (N.idxOf (t.reverse.take e2) : Nat)) := fcell (HTW2.out.block g9 HP9.out.own.lt HNN.out.2.2.1 HNN.out.2.2.2.1) (HP9.out.at (by rw [List.length_reverse]; omega))
                              have hle2 : N.idxOf (t.reverse.take e2) ≤ 2097153 := by have := List.idxOf_lt_length_of_mem (HXV.out e2); omega
                              have hcc2 : (wc.setCell ⟨gx, x, none⟩ (.int .i32 ((q : Int) + 1))).cell? ⟨gs, 1, none⟩ = some (.int .i64 (ch k)) := fcell (HTW2.out.block gs (old_of HGS.out) hgsx.1 hgsx.2) HGS.out
                              have c32 : (wc.setCell ⟨gx, x, none⟩ (.int .i32 ((q : Int) + 1))).cell? ⟨w3.heap.size, 3, none⟩ = some (.slice (some ⟨gl, 0, none⟩) P.length P.length) := hL2.ds.c3
                              have hcx2 := hL2.at hx
                              have hfx2 : (wc.setCell ⟨gx, x, none⟩ (.int .i32 ((q : Int) + 1))).frozen? ⟨gx, x, none⟩ = false := hL2.nx.frozen _
                              obtain ⟨q2, hq2⟩ : ∃ q2, blw P x + U.cn (prU M N (tsT str n) ch k b' ++ [(x, ll1)]) x = q2 := ⟨_, rfl⟩
                              rw [hq2] at hcx2
                              have HQ2 := hid hq2
                              have hqP2 : q2 < P.length := by
                                have h1 := (hL2.laid.step hQ).2
                                have h2 := blw_le P (x + 1)
                                omega
                              have hcl2 : (wc.setCell ⟨gx, x, none⟩ (.int .i32 ((q : Int) + 1))).cell? ⟨gl, q2, none⟩ = some (.int .u64 (putI R' q ll1 q2)) := hL2.ln.cell hqP2
                              have hfl2 : (wc.setCell ⟨gx, x, none⟩ (.int .i32 ((q : Int) + 1))).frozen? ⟨gl, q2, none⟩ = false := hL2.ln.frozen _
                              generalize putI R' q ll1 q2 = rq2 at hcl2
                              obtain ⟨ll2, hll2⟩ : ∃ ll2, l2 N t (ch k) b' = ll2 := ⟨_, rfl⟩
                              have HLL2 := hid hll2
                              have hll2' : lnk (N.idxOf (t.reverse.take e2)) true (ch k) = ll2 := by rw [← hll2]; unfold l2; rw [he2]
                              generalize hee2 : N.idxOf (t.reverse.take e2) = e3 at *
                              have HLK2 := hid (fun W => Lk.link_any W e3 hle2 true (ch k))
                              rw [hll2'] at HLK2
                              have em2 : (e : Int) - 1 = (e2 : Int) := by have := HE.out; omega
                              have hwe2 := wrapN e2 (by omega)
                              have he20 : (0 : Int) ≤ (e2 : Int) := Int.natCast_nonneg _
                              have he21 : (e2 : Int) < (t.length : Int) + 1 := by omega
                              have hq20 : (0 : Int) ≤ (q2 : Int) := Int.natCast_nonneg _
                              have hq21 : (q2 : Int) < (P.length : Int) := by omega
                              have HL2 := hid hL2
                              have HQQ := hid hQ
                              clear hL2 hQ hq2 hll2 hll2' hee2 he2
                              go_upto_region 43 with fail
                              generalize wc.setCell ⟨gx, x, none⟩ (.int .i32 ((q : Int) + 1)) = wy at *
                              clear hcx' hfx'
                              go_cut [256] (fun _ wx => wx = (wy.setCell ⟨gl, q2, none⟩ (.int .u64 ll2)).drew)
                              case first =>
                                as_aux_lemma =>
                                have n1 : ¬ (w3.heap.size = gl) := by omega
                                have n2 : ¬ (gx = gl) := by omega
                                have n3 : ¬ (g9 = gl) := HNN.out.2.2.1
                                have n4 : ¬ (gs = gl) := by omega
                                have n5 : ¬ (gl = w3.heap.size) := by omega
                                have n6 : ¬ (gl = gx) := by omega
                                have n7 : ¬ (gl = g9) := fun h => n3 h.symm
                                have n8 : ¬ (gl = gs) := by omega
                                clear HFX HTL HVL HSTR HTOT HPN HPE HFS HLEN HLEV HGG HP8 HP9 HX HXV HPI HU HUE HU1 HU2 HNN HGS HT HL2 HTW2 HXX HQ HQ2 HE HLL HLL2 HQQ HLAY HQP HLK
                                go_region_held3 (fun w' => w'.cell? ⟨w3.heap.size, 3, none⟩ = some (.slice (some ⟨gl, 0, none⟩) P.length P.length) ∧ w'.cell? ⟨gx, x, none⟩ = some (.int .i32 (q2 : Nat)) ∧ w'.cell? ⟨g9, e2, none⟩ = some (.int .i32 (e3 : Nat)) ∧ w'.cell? ⟨gs, 1, none⟩ = some (.int .i64 (ch k))) (go_keep)
                                  (first | (go_at_call 37; refine (HLK2.out _).mono ?_; rintro e w' ⟨rfl, rfl⟩))
                                all_goals go_wp2
                                all_goals go_meet
                                all_goals rfl
                              case rest =>
                                as_aux_lemma =>
                                have hcx' : wc.cell? ⟨gx, x, none⟩ = some (.int .i32 (q2 : Nat)) := by rw [hcut]; exact fcell (Below.heap_setCell _ _ _ _ (by show gx ≠ gl; omega)) hcx2
                                have hfx' : wc.frozen? ⟨gx, x, none⟩ = false := by rw [hcut]; exact (HL2.out.nx.setOther (a := ⟨gl, q2, none⟩) (by show gx ≠ gl; omega) (.int .u64 ll2)).frozen x
                                have HTW3 : Hid (Two wi (wc.setCell ⟨gx, x, none⟩ (.int .i32 ((q2 : Int) + 1))) gl gx) := by rw [hcut]; exact ((HTW2.out.set1 _ _).drew).set2 _ _
                                have HL3 : Hid (LS w3 (wc.setCell ⟨gx, x, none⟩ (.int .i32 ((q2 : Int) + 1))) (sl gn M.length cn) (sl gn' N.length cn') (sl (w3.heap.size + 1) (M.length + 1) (M.length + 1)) M.length P (prU M N (tsT str n) ch k (b' + 1)) gl gx cx (putI (putI R' q ll1) q2 ll2)) := by
                                  rw [hcut, HU1.out b' hblt, HXX.out, HLL.out, HLL2.out]
                                  have hQ := HQQ.out
                                  rw [HLL2.out] at hQ
                                  exact HL2.out.lay hQ hx hgl (by omega) (by omega) HQ2.out
                                clear hcut HL2 HTW2 hcx2 hfx2 c32 hcc2 hce2 hcl2 hfl2
                                go_wp2
                                exact ⟨⟨b' + 1, _, by omega, by go_num, HL3.out, HTW3.out⟩, by simp only [intOf]; omega⟩
                            · as_aux_lemma =>
                              have hbe : b' = t.length := by omega
                              obtain ⟨Q, hQ⟩ := HPI.out (t.length + 1) (by omega)
                              have hU := HU2.out
                              have hxx := HXX.out
                              have hll := HLL.out
                              rw [hbe] at hxx hll
                              rw [hxx, hll, ← hbe] at hU
                              rw [← hbe, hU] at hQ
                              have hL2 := HLAY.out Q hQ
                              rw [← hU] at hL2
                              have HL2 := hid hL2
                              have HBE := hid hbe
                              clear hL2 hU hQ em hwe he0 he1 hbe hxx hll
                              go_wp2
                              exact ⟨⟨b' + 1, _, by omega, by go_num, HL2.out, HTW2.out⟩, by simp only [intOf]; omega⟩
                        · as_aux_lemma =>
                          obtain rfl : b' = t.length + 1 := by omega
                          have HBB : Hid (Buf wr (w3.heap.size + 2) [gl, gx] (sl g8 (t.length + 1) cap8) ∧ Buf wr (w3.heap.size + 2) [gl, gx] (sl g9 (t.length + 1) cap9)) := by
                            exact ⟨HP8.out.buf htw HNN.out.1.1 HNN.out.1.2.1 rfl, HP9.out.buf htw HNN.out.2.2.1 HNN.out.2.2.2.1 (by rw [List.length_reverse])⟩
                          have hL2 := HL.out
                          rw [HUE.out] at hL2
                          have HL2 := hid hL2
                          clear hL htw HL HTW hL2
                          go_wp2
                          refine ⟨⟨k + 1, R', ?_, ?_, ?_, ?_, ?_, ?_⟩, ?_⟩
                          · exact hlt
                          · go_num
                          · exact HL2.out
                          · exact HBB.out.1
                          · exact HBB.out.2
                          · exact dis_sl HNN.out.2.1
                          · clear HL2 HBB HNN
                            simp only [intOf]; omega
                · as_aux_lemma =>
                  obtain rfl : k = n := by omega
                  have HF : Hid (∃ R : Nat → Int, LS w3 wr (sl gn M.length cn) (sl gn' N.length cn') (sl (w3.heap.size + 1) (M.length + 1) (M.length + 1)) M.length P P gl gx cx R) := by
                    have := HLS.out
                    rw [HPE.out] at this
                    exact ⟨R, this⟩
                  clear HLS hLS hb8 hb9 hdis
                  go_wp2
                  go_meet
                  case rel => exact HF.out
            case rest =>
              as_aux_lemma =>
              obtain ⟨R, hLS⟩ := hcut
              have HD := hid hLS.ds
              have HLN := hid hLS.ln
              have HLA := hid hLS.laid
              have hc0 : wc.cell? ⟨w3.heap.size, 0, none⟩ = some (.slice (some ⟨gn, 0, none⟩) M.length cn) := hLS.ds.c0
              clear hLS HLS HBU HFS
              generalize wc = we at *
              go_wp2_with fail
              go_loopw [271] (fun iv wr => ∃ (j : Nat) (R' : Nat → Int), j ≤ M.length ∧ iv = .int .i64 j ∧ DS w3 wr (sl gn M.length cn) (sl gn' N.length cn') (sl (w3.heap.size + 1) (M.length + 1) (M.length + 1)) (sl gl P.length P.length) (M.length + 1) (blw P) ∧ wr.rowIs gl 50 P.length (rowU R') ∧ Upto P R R' j)
                (fun iv _ => M.length - (intOf iv).toNat)
              case atStart => exact ⟨0, R, Nat.zero_le _, rfl, HD.out, HLN.out, Upto.start _ _⟩
              case round =>
                as_aux_lemma =>
                clear HD HLN hc0
                obtain ⟨j, R', hj, rfl, hD, hLN, hup⟩ := hrel
                have HD := hid hD
                have HLN := hid hLN
                have HUP := hid hup
                by_cases hlt : j < M.length
                · as_aux_lemma =>
                  have c3 : wr.cell? ⟨w3.heap.size, 3, none⟩ = some (.slice (some ⟨gl, 0, none⟩) P.length P.length) := hD.c3
                  have c2 : wr.cell? ⟨w3.heap.size, 2, none⟩ = some (.slice (some ⟨w3.heap.size + 1, 0, none⟩) (M.length + 1) (M.length + 1)) := hD.c2
                  have ca : wr.cell? ⟨w3.heap.size + 1, j, none⟩ = some (.int .i32 (blw P j : Nat)) := hD.cs (by omega)
                  have cb : wr.cell? ⟨w3.heap.size + 1, j + 1, none⟩ = some (.int .i32 (blw P (j + 1) : Nat)) := hD.cs (by omega)
                  have hab : blw P j ≤ blw P (j + 1) := blw_mono P (Nat.le_succ j)
                  have hbL := blw_le P (j + 1)
                  have HST := hid (fun R2 (hs : Sw (blw P j) (blw P (j + 1)) R' R2) ho => hup.step HLA.out hs ho)
                  generalize blw P j = a at *
                  generalize blw P (j + 1) = b2 at *
                  have HSO := hid (fun A n cap hA hn => sort_part wr.drew gl P.length a b2 cap R' HLN.out.drew hab hbL (by omega) A hA n hn)
                  obtain ⟨N1, hN1⟩ : ∃ N1 : Nat, N1 = M.length + 1 := ⟨_, rfl⟩
                  obtain ⟨j2, hj2⟩ : ∃ j2 : Nat, j2 = j + 1 := ⟨_, rfl⟩
                  rw [← hN1] at c2
                  rw [← hj2] at cb
                  have ej : (j : Int) + 1 = (j2 : Int) := by omega
                  have hwj := wrapN j2 (by omega)
                  have hj0 : (0 : Int) ≤ (j : Int) := Int.natCast_nonneg _
                  have hj1 : (j : Int) < (N1 : Int) := by omega
                  have hj3 : (0 : Int) ≤ (j2 : Int) := Int.natCast_nonneg _
                  have hj4 : (j2 : Int) < (N1 : Int) := by omega
                  have HJ2 := hid hj2
                  have HN1 := hid hN1
                  clear hj2 hN1
                  have ha0 : (0 : Int) ≤ (a : Int) := Int.natCast_nonneg _
                  have hab1 : (a : Int) ≤ (b2 : Int) := by omega
                  have hb21 : (b2 : Int) ≤ (P.length : Int) := by omega
                  have n1 : ¬ (w3.heap.size = gl) := by omega
                  have n2 : ¬ (w3.heap.size + 1 = gl) := by omega
                  have HP0 := hid hPl
                  clear hD hLN hup HUP HPN HPE hPl
                  generalize hLL : P.length = L at *
                  have HLL := hid hLL
                  clear hLL
                  by_cases hLa : L = a
                  · as_aux_lemma =>
                    have hbe : b2 = a := by omega
                    subst hbe
                    subst hLa
                    clear hab hbL hab1 hb21
                    go_wp2_with fail
                    go_region_held3 (fun w' => w'.cell? ⟨w3.heap.size, 3, none⟩ = some (.slice (some ⟨gl, 0, none⟩) L L) ∧ w'.cell? ⟨w3.heap.size, 2, none⟩ = some (.slice (some ⟨w3.heap.size + 1, 0, none⟩) N1 N1) ∧ w'.cell? ⟨w3.heap.size + 1, j, none⟩ = some (.int .i32 (L : Nat)) ∧ w'.cell? ⟨w3.heap.size + 1, j2, none⟩ = some (.int .i32 (L : Nat))) (go_keep)
                      (first | (go_at_call 38; refine (HSO.out _ _ _ (.inl (by simp)) (by simp)).mono ?_; rintro e w' ⟨rfl, R2, hr2, hg2, hs2, ho2⟩; have k1 := fcell (hg2.block w3.heap.size (by exact old_of c3) (by simp; exact n1)) c3; have k2 := fcell (hg2.block w3.heap.size (by exact old_of c3) (by simp; exact n1)) c2; have k3 := fcell (hg2.block (w3.heap.size + 1) (by exact old_of ca) (by simp; exact n2)) ca; have k4 := fcell (hg2.block (w3.heap.size + 1) (by exact old_of ca) (by simp; exact n2)) cb; have HR2 := hid hr2; have HG2 := hid hg2; have HS2 := hid hs2; have HO2 := hid ho2; clear hr2 hg2 hs2 ho2))
                    all_goals go_wp2
                    all_goals exact ⟨⟨j2, R2, by have := HJ2.out; omega, rfl, HD.out.drew.same ((Below.refl _ _).grown HG2.out HD.out.size (fun k hk => by simp at hk; omega)), HR2.out, by have h := HST.out R2 HS2.out HO2.out; rw [← HJ2.out] at h; exact h⟩, by have := HJ2.out; simp only [intOf]; omega⟩
                  · as_aux_lemma =>
                    go_wp2_with fail
                    go_region_held3 (fun w' => w'.cell? ⟨w3.heap.size, 3, none⟩ = some (.slice (some ⟨gl, 0, none⟩) L L) ∧ w'.cell? ⟨w3.heap.size, 2, none⟩ = some (.slice (some ⟨w3.heap.size + 1, 0, none⟩) N1 N1) ∧ w'.cell? ⟨w3.heap.size + 1, j, none⟩ = some (.int .i32 (a : Nat)) ∧ w'.cell? ⟨w3.heap.size + 1, j2, none⟩ = some (.int .i32 (b2 : Nat))) (go_keep)
                      (first | (go_at_call 38; refine (HSO.out _ _ _ (.inr rfl) (by simp)).mono ?_; rintro e w' ⟨rfl, R2, hr2, hg2, hs2, ho2⟩; have k1 := fcell (hg2.block w3.heap.size (by exact old_of c3) (by simp; exact n1)) c3; have k2 := fcell (hg2.block w3.heap.size (by exact old_of c3) (by simp; exact n1)) c2; have k3 := fcell (hg2.block (w3.heap.size + 1) (by exact old_of ca) (by simp; exact n2)) ca; have k4 := fcell (hg2.block (w3.heap.size + 1) (by exact old_of ca) (by simp; exact n2)) cb; have HR2 := hid hr2; have HG2 := hid hg2; have HS2 := hid hs2; have HO2 := hid ho2; clear hr2 hg2 hs2 ho2))
                    all_goals go_wp2
                    all_goals exact ⟨⟨j2, R2, by have := HJ2.out; omega, rfl, HD.out.drew.same ((Below.refl _ _).grown HG2.out HD.out.size (fun k hk => by simp at hk; omega)), HR2.out, by have h := HST.out R2 HS2.out HO2.out; rw [← HJ2.out] at h; exact h⟩, by have := HJ2.out; simp only [intOf]; omega⟩
                · as_aux_lemma =>
                  obtain rfl : j = M.length := by omega
                  clear hD hLN hup
                  go_wp2
                  go_ret
                  refine ⟨M, N, w3.heap.size, gn, cn, gn', cn', w3.heap.size + 1, gl, R', rfl, ?_, HFX.out.bel.trans (HD.out.bel.mono (by have := HFX.out.sz; omega))⟩
                  rw [HPE.out]
                  exact ⟨HFX.out.bm, HFX.out.bn, hM, hN, HFX.out.fw HD.out, HFX.out.bw HD.out, HD.out.c2, HD.out.st, HD.out.c3, HLN.out, HUP.out.done, hPl⟩

end Go.Proofs.Qxb6608903a.Ix
