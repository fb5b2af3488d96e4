/-
  Law 6: the index links every start to its ends.
-/
import Derived.Test.Qxb6608903aLv
import Derived.Test.Qxb6608903aL5
namespace Go.Proofs.Qxb6608903a.Ix
open Go.RowKit Plain Mem Go.Sort Lk
open U hiding hid
open TrieG
open CmpW
set_option linter.unusedVariables false
attribute [local go_sem ↓] Go.wp_at_zero Go.wp_at_succ

set_option maxHeartbeats 60000000 in
set_option maxRecDepth 100000 in
theorem law6 (w : World) (ta ca : Option Addr) (tcap ccap n m : Nat) (str : Nat → ByteArray) (ch : Nat → Int) (hst : StAt w ta n str) (hin : InAt w ca m ch) :
    Calls Try.prog 6 #[.slice ta n tcap, .slice ca m ccap] w fun e w' => True5 w e w' := by
  have HST := hid hst
  have HIN := hid hin
  have HBY := hid (bytes22 w ta ca tcap m ccap n str hst)
  clear hst hin
  go_enter Try.func6, Try.ntmps6
  go_wp2_with fail
  refine HBY.out.mono ?_
  rintro e w0 ⟨bb, q, rfl, rfl⟩
  clear HBY
  cases bb with
  | false =>
    go_wp2
    go_ret
    exact ⟨rfl, dr_below _ _ _⟩
  | true =>
    have HB0 : Hid (Below w.heap.size w (w.drewN q)) := dr_below _ _ _
    have HST0 : Hid (StAt (w.drewN q) ta n str) := HST.out
    have HIN0 : Hid (InAt (w.drewN q) ca m ch) := HIN.out
    clear HST HIN
    generalize w.drewN q = w1 at *
    by_cases hn : n ≤ 65536
    · as_aux_lemma =>
      by_cases hm : m ≤ 65536
      · as_aux_lemma =>
        have hd1 : decide ((65536 : Int) < (n : Int)) = false := by simp; omega
        have hd2 : decide ((65536 : Int) < (m : Int)) = false := by simp; omega
        go_upto_block 0 with fail
        go_cut [5] (fun _ wx => wx = w1 ∧ (∀ j, j < n → (str j).size ≤ 1048576) ∧ szTo str n ≤ 1048576)
        case first =>
          as_aux_lemma =>
          go_wp2_with fail
          go_loopw [5, 6] (fun sv iv wr => ∃ i : Nat, i ≤ n ∧ iv = .int .i64 i ∧ sv = .int .i64 ((8 * m + szTo str i : Nat) : Int) ∧ 8 * m + szTo str i ≤ 1048576 ∧ wr = w1 ∧ ∀ j, j < i → (str j).size ≤ 1048576) (fun _ iv _ => n - (intOf iv).toNat)
          case atStart => exact ⟨0, Nat.zero_le _, rfl, by simp [szTo], by show 8 * m + 0 ≤ _; omega, rfl, fun j hj => by omega⟩
          case round =>
            as_aux_lemma =>
            obtain ⟨i, hi, rfl, rfl, hle, rfl, hall⟩ := hrel
            have HALL := hid hall
            clear hall
            by_cases hlt : i < n
            · rcases HST0.out with e | ⟨b, off, rfl, htx⟩
              · omega
              · have x2 : wr.cell? ⟨b, off + i, none⟩ = some (.string (str i)) := htx _ hlt
                clear htx
                obtain ⟨z, hz⟩ : ∃ z, 8 * m + szTo str i = z := ⟨_, rfl⟩
                rw [hz] at hle ⊢
                have HZ := hid hz
                clear hz
                by_cases h1 : (str i).size ≤ 4096
                · by_cases h2 : z + (16 + (str i).size) ≤ 1048576
                  · go_wp2
                    exact ⟨⟨i + 1, by omega, by go_num, by have := HZ.out; show _ = Value.int .i64 ((8 * m + (szTo str i + (16 + (str i).size)) : Nat) : Int); congr 1; omega, by have := HZ.out; show 8 * m + (szTo str i + (16 + (str i).size)) ≤ _; omega, by simp, fun j hj => by
                      by_cases e : j = i
                      · rw [e]; omega
                      · exact HALL.out j (by omega)⟩, by simp only [intOf]; omega⟩
                  · go_wp2
                    go_ret
                    exact ⟨rfl, HB0.out⟩
                · go_wp2
                  go_ret
                  exact ⟨rfl, HB0.out⟩
            · as_aux_lemma =>
              obtain rfl : i = n := by omega
              have HSZ : Hid (szTo str i ≤ 1048576) := by
                show szTo str i ≤ 1048576
                omega
              clear hle
              go_wp2
              go_meet
              case rel => exact ⟨rfl, HALL.out, HSZ.out⟩
        case rest =>
          as_aux_lemma =>
          obtain ⟨rfl, hall, hsz⟩ := hcut
          have HALL := hid hall
          have HSZ := hid hsz
          clear hall hsz
          by_cases hnm : n = m
          · as_aux_lemma =>
            subst hnm
            have hne : ((n : Int) != (n : Int)) = false := by simp
            go_upto_block 2 with fail
            go_cut [7] (fun _ wx => wx = wc)
            case first =>
              as_aux_lemma =>
              go_wp2_with fail
              go_loopw [7] (fun iv wr => ∃ i : Nat, i ≤ n ∧ iv = .int .i64 i ∧ wr = wc) (fun iv _ => n - (intOf iv).toNat)
              case atStart => exact ⟨0, Nat.zero_le _, rfl, rfl⟩
              case round =>
                as_aux_lemma =>
                obtain ⟨i, hi, rfl, hw⟩ := hrel
                have hw' := hw.symm
                subst hw'
                by_cases hlt : i < n
                · as_aux_lemma =>
                  rcases HIN0.out with e | ⟨b, off, rfl, htx⟩
                  · omega
                  · as_aux_lemma =>
                    have x2 : wc.cell? ⟨b, off + i, none⟩ = some (.int .i64 (ch i)) := htx _ hlt
                    clear htx
                    have hi0 : (0 : Int) ≤ (i : Int) := Int.natCast_nonneg _
                    have hi1 : (i : Int) < (n : Int) := by omega
                    generalize ch i = c at *
                    by_cases h1 : c < 0
                    · as_aux_lemma =>
                      have h2 : decide (c < 0) = true := by simp [h1]
                      go_wp2
                      go_ret
                      exact ⟨rfl, HB0.out⟩
                    · as_aux_lemma =>
                      have h2 : decide (c < 0) = false := by simp; omega
                      by_cases h3 : 4294967295 < c
                      · as_aux_lemma =>
                        have h4 : decide ((4294967295 : Int) < c) = true := by simp [h3]
                        go_wp2
                        go_ret
                        exact ⟨rfl, HB0.out⟩
                      · have h4 : decide ((4294967295 : Int) < c) = false := by simp; omega
                        go_wp2
                        exact ⟨⟨i + 1, by omega, by go_num, by first | trivial | rfl⟩, by simp only [intOf]; omega⟩
                · as_aux_lemma =>
                  obtain rfl : i = n := by omega
                  go_wp2
                  go_meet
                  case rel => first | trivial | rfl
            case rest =>
              as_aux_lemma =>
              have hcut' := hcut.symm
              subst hcut'
              have hmk := make38 n hn
              generalize wc = w1 at *
              have HGT := hid (SPL.start w1 n hn str ch)
              have HLEN : Hid (lenTo (tsT str n) n ≤ 1048576) := Nat.le_trans (len_sz str n n (Nat.le_refl _)) HSZ.out
              go_upto_block 4 with fail
              go_cut [9] (fun _ wx => SPL w1 wx n n str ch)
              case first =>
                as_aux_lemma =>
                go_wp2_with fail
                go_loopw [9] (fun iv wr => ∃ i : Nat, i ≤ n ∧ iv = .int .i64 i ∧ SPL w1 wr n i str ch) (fun iv _ => n - (intOf iv).toNat)
                case atStart => exact ⟨0, Nat.zero_le _, rfl, HGT.out⟩
                case round =>
                  as_aux_lemma =>
                  clear HGT hmk
                  obtain ⟨i, hi, rfl, hG⟩ := hrel
                  have HG := hid hG
                  by_cases hlt : i < n
                  · as_aux_lemma =>
                    rcases HST0.out with e | ⟨b, off, rfl, htx⟩
                    · omega
                    rcases HIN0.out with e | ⟨b2, off2, rfl, hcx⟩
                    · omega
                    have HTX := hid htx
                    have HCX := hid hcx
                    have x1 : wr.cell? ⟨b, off + i, none⟩ = some (.string (str i)) := by rw [hG.bel.cell (old_of (htx _ hlt))]; exact htx _ hlt
                    have x2 : wr.cell? ⟨b2, off2 + i, none⟩ = some (.int .i64 (ch i)) := by rw [hG.bel.cell (old_of (hcx _ hlt))]; exact hcx _ hlt
                    obtain ⟨⟨v1, hv1⟩, ⟨v2, hv2⟩, hfz⟩ := hG.g.at hlt
                    have hf1 := hfz (i * 2)
                    have hf2 := hfz (i * 2 + 1)
                    have hi0 : (0 : Int) ≤ (i : Int) := Int.natCast_nonneg _
                    have hi1 : (i : Int) < (n : Int) := by omega
                    have hgl : w1.heap.size < wr.heap.size := hG.g.lt
                    clear htx hcx hfz hG
                    go_upto_region 25 with fail
                    have nb1 : ¬ (b = w1.heap.size) := by have := old_of (HTX.out i hlt); simp at this; omega
                    have nb2 : ¬ (b2 = w1.heap.size) := by have := old_of (HCX.out i hlt); simp at this; omega
                    have nb5 : b < wr.heap.size := old_of x1
                    have nb6 : b2 < wr.heap.size := old_of x2
                    have kb : ∀ g, g < wr.heap.size → g ≠ w1.heap.size → ((((wr.setCell ⟨w1.heap.size, i * 2, none⟩ (.string (str i))).setCell ⟨w1.heap.size, i * 2 + 1, none⟩ (.int .i64 (ch i))).alloc (.cells #[.string (str i), .int .i64 (ch i)] 40))).heap[g]? = wr.heap[g]? := fun g h1 h2 => by
                      rw [Below.heap_alloc _ _ _ (by simpa using h1), Below.heap_setCell _ _ _ _ h2, Below.heap_setCell _ _ _ _ h2]
                    have k1 := fcell (kb b nb5 nb1) x1
                    have k2 := fcell (kb b2 nb6 nb2) x2
                    clear kb
                    go_region_held3 (fun w' => w'.cell? ⟨b, off + i, none⟩ = some (.string (str i)) ∧ w'.cell? ⟨b2, off2 + i, none⟩ = some (.int .i64 (ch i))) (go_keep)
                      (first | (go_at_call 17; refine (spell17 _ _ _).mono ?_; rintro e w' ⟨rfl, rfl⟩))
                    generalize hE2 : (((wr.setCell ⟨w1.heap.size, i * 2, none⟩ (.string (str i))).setCell ⟨w1.heap.size, i * 2 + 1, none⟩ (.int .i64 (ch i))).alloc (.cells #[.string (str i), .int .i64 (ch i)] 40)).drew = w2
                    have HE2 := hid hE2.symm
                    clear hE2 hv1 hv2 hf1 hf2 x1 x2 hgl nb1 nb2 nb5 nb6 k1 k2
                    have HG2 : Hid (SPL w1 w2 n (i + 1) str ch) := HG.out.step hlt _ HE2.out
                    go_wp2
                    exact ⟨⟨i + 1, hlt, by go_num, HG2.out⟩, by simp only [intOf]; omega⟩
                  · as_aux_lemma =>
                    obtain rfl : i = n := by omega
                    clear hG
                    go_wp2
                    go_meet
                    case rel => exact HG.out
              case rest =>
                as_aux_lemma =>
                have HI1 := hid (index18 wc w1.heap.size n n str ch hn HALL.out hcut.g.all HLEN.out)
                have HB1 : Hid (Below w1.heap.size w1 wc) := hcut.bel
                clear hcut HGT hmk
                go_wp2_with fail
                refine HI1.out.mono ?_
                rintro e w5 ⟨M, N, px, gn, cn, gn', cn', gs, gl, R, rfl, hIX, hb5⟩
                have HIX := hid hIX
                have HB5 : Hid (Below w1.heap.size w1 w5) := HB1.out.trans (hb5.mono HB1.out.size)
                clear hIX hb5 HI1 HB1
                have HST5 : Hid (StAt w5 ta n str) := by
                  rcases HST0.out with e | ⟨b, off, e, htx⟩
                  · exact .inl e
                  · exact .inr ⟨b, off, e, fun j hj => by rw [HB5.out.cell (old_of (htx j hj))]; exact htx j hj⟩
                have HIN5 : Hid (InAt w5 ca n ch) := by
                  rcases HIN0.out with e | ⟨b, off, e, htx⟩
                  · exact .inl e
                  · exact .inr ⟨b, off, e, fun j hj => by rw [HB5.out.cell (old_of (htx j hj))]; exact htx j hj⟩
                have HBL5 : Hid (Below w.heap.size w w5) := HB0.out.trans (HB5.out.mono HB0.out.size)
                clear HB5 HB0 HST0 HIN0
                have hmk := run_make_row' (P := Try.prog) 22 24 (.slice none 0 0) 24 Try.underlying22 info24 rfl .i64 .i64 n (by omega) (by omega)
                have HFB := hid (FB.start w5 n (tsT str n) (tsV str n))
                go_upto_block 6 with fail
                go_cut [13] (fun _ wx => ∃ F G : Nat → Value, FB w5 wx n n (tsT str n) (tsV str n) F G)
                case first =>
                  as_aux_lemma =>
                  go_wp2_with fail
                  go_loopw [13] (fun iv wr => ∃ (i : Nat) (F G : Nat → Value), i ≤ n ∧ iv = .int .i64 i ∧ FB w5 wr n i (tsT str n) (tsV str n) F G) (fun iv _ => n - (intOf iv).toNat)
                  case atStart => exact ⟨0, _, _, Nat.zero_le _, rfl, HFB.out⟩
                  case round =>
                    as_aux_lemma =>
                    clear HFB hmk
                    obtain ⟨i, F, G, hi, rfl, hF⟩ := hrel
                    have HF := hid hF
                    by_cases hlt : i < n
                    · as_aux_lemma =>
                      rcases HST5.out with e | ⟨b, off, rfl, htx⟩
                      · omega
                      have x1 : wr.cell? ⟨b, off + i, none⟩ = some (.string (str i)) := by rw [hF.bel.cell (old_of (htx _ hlt))]; exact htx _ hlt
                      have nb1 : ¬ (b = w5.heap.size) := by have := old_of (htx i hlt); simp at this; omega
                      have ct : wr.cell? ⟨w5.heap.size, i, none⟩ = some (F i) := hF.rt.cell hlt
                      have cf : wr.frozen? ⟨w5.heap.size, i, none⟩ = false := hF.rt.frozen i
                      generalize F i = fi at ct
                      have hi0 : (0 : Int) ≤ (i : Int) := Int.natCast_nonneg _
                      have hi1 : (i : Int) < (n : Int) := by omega
                      have hl1 : w5.heap.size + 1 < wr.heap.size := hF.rr.lt
                      have hl0 : w5.heap.size < wr.heap.size := by omega
                      have HT : Hid (tx (tsT str n) i = runes (str i)) := tsT_at str hlt
                      have HV : Hid (tx (tsV str n) i = (tx (tsT str n) i).reverse) := tsV_at str hlt
                      obtain ⟨cap, arr, hcv, hcap, harr⟩ := conv_run2 wr (str i) (HALL.out i hlt)
                      have hml : (runes (str i)).length ≤ 1048576 := by have h1 := runes_len (str i); have h2 := HALL.out i hlt; omega
                      have HCAP := hid hcap
                      have HARR := hid harr
                      clear htx hF hcap harr
                      go_upto_region 34 with fail
                      go_cut [140] (fun _ wx => (∀ g : Nat, wx.heap[g]? = ((wr.setCell ⟨w5.heap.size, i, none⟩ (.slice (some ⟨wr.heap.size, 0, none⟩) (runes (str i)).length cap)).alloc (.cells arr 21)).heap[g]?) ∧ wx.heap.size = wr.heap.size + 1 ∧ wx.os = wr.os ∧ wx.tape = wr.tape ∧ wx.output = wr.output)
                      case first =>
                        as_aux_lemma =>
                        go_wp2
                        go_meet
                        case rel => exact ⟨fun g => rfl, by simp, rfl, rfl, rfl⟩
                      case rest =>
                        as_aux_lemma =>
                        obtain ⟨hB, hBs, hBo⟩ := hcut
                        clear ct cf x1 hcv
                        have c1 : wc.cell? ⟨w5.heap.size, i, none⟩ = some (.slice (some ⟨wr.heap.size, 0, none⟩) (runes (str i)).length cap) := by
                          have h1 := ((HF.out.rt.set i (.slice (some ⟨wr.heap.size, 0, none⟩) (runes (str i)).length cap)).alloc (.cells arr 21)).of_block (hB _)
                          have h2 := h1.cell hlt
                          simpa using h2
                        have HC2 : Hid (∀ j, j < (runes (str i)).length → wc.cell? ⟨wr.heap.size, j, none⟩ = some (.int .i32 (rn (runes (str i)) j))) := fun j hj => by
                          have : wc.heap[wr.heap.size]? = some (.cells arr 21) := by
                            rw [hB]
                            have := Go.Deep.blk_alloc_new (wr.setCell ⟨w5.heap.size, i, none⟩ (.slice (some ⟨wr.heap.size, 0, none⟩) (runes (str i)).length cap)) (.cells arr 21)
                            simpa using this
                          unfold World.cell?
                          dsimp only
                          rw [this]
                          exact HARR.out j hj
                        have HC3 : Hid (wc.rowIs (w5.heap.size + 1) 24 n G) := ((HF.out.rr.setOther (a := ⟨w5.heap.size, i, none⟩) (by show w5.heap.size + 1 ≠ w5.heap.size; omega) (.slice (some ⟨wr.heap.size, 0, none⟩) (runes (str i)).length cap)).alloc (.cells arr 21)).of_block (hB _)
                        have HBB := hid hB
                        have HBO := hid hBo
                        have HBS := hid hBs
                        have hl2 : w5.heap.size < wc.heap.size := by omega
                        have hl3 : wr.heap.size < wc.heap.size := by omega
                        have hl4 : w5.heap.size + 1 < wc.heap.size := by omega
                        clear hB hBo hBs
                        generalize hss : str i = s at *
                        generalize hmm : (runes s).length = mm at *
                        have HSS := hid hss
                        have HMM := hid hmm
                        clear hss hmm
                        have hmk2 := run_make_row' (P := Try.prog) 24 21 (.int .i32 0) 4 Try.underlying24 TrieW.info21 rfl .i64 .i64 mm (by omega) (by omega)
                        go_wp2_with fail
                        have hrow0 : (wc.alloc (.cells (madeCells #[.int .i32 0] mm) 21)).rowIs wc.heap.size 21 mm (rvF (runes s) mm 0) := (World.rowIs_made wc (.int .i32 0) mm 21).congr (fun i hi => by unfold rvF; rw [if_neg (by omega)])
                        have hbel0 : Below wc.heap.size wc (wc.alloc (.cells (madeCells #[.int .i32 0] mm) 21)) := (Below.refl _ _).alloc (Nat.le_refl _) _
                        generalize wc.alloc (.cells (madeCells #[.int .i32 0] mm) 21) = wA at *
                        have HR0 := hid hrow0
                        have HB0 := hid hbel0
                        have C1 := hid c1
                        clear hrow0 hbel0 hmk2 c1
                        obtain ⟨wo, hwo⟩ : ∃ wo : World, wo = wr := ⟨wr, rfl⟩
                        subst hwo
                        go_loopw [16] (fun jv wr2 => ∃ j : Nat, j ≤ mm ∧ jv = .int .i64 j ∧ wr2.rowIs wc.heap.size 21 mm (rvF (runes s) mm j) ∧ Below wc.heap.size wc wr2) (fun jv _ => mm - (intOf jv).toNat)
                        case atStart => exact ⟨0, Nat.zero_le _, rfl, HR0.out, HB0.out⟩
                        case round =>
                          as_aux_lemma =>
                          clear HR0 HB0
                          obtain ⟨j, hj, rfl, hrow, hbel⟩ := hrel
                          have HROW := hid hrow
                          have HBEL := hid hbel
                          have c1 : wr.cell? ⟨w5.heap.size, i, none⟩ = some (.slice (some ⟨wo.heap.size, 0, none⟩) mm cap) := by rw [hbel.cell (old_of C1.out)]; exact C1.out
                          by_cases hjl : j < mm
                          · as_aux_lemma =>
                            obtain ⟨d, hd⟩ : ∃ d, mm - 1 - j = d := ⟨_, rfl⟩
                            have hdl : d < mm := by omega
                            have c2 : wr.cell? ⟨wo.heap.size, d, none⟩ = some (.int .i32 (rn (runes s) d)) := by
                              have := HC2.out d (by omega)
                              rw [hbel.cell (old_of this)]; exact this
                            have c3 : wr.cell? ⟨wc.heap.size, j, none⟩ = some (rvF (runes s) mm j j) := hrow.cell hjl
                            have f3 : wr.frozen? ⟨wc.heap.size, j, none⟩ = false := hrow.frozen j
                            generalize rvF (runes s) mm j j = old at c3
                            have em : (mm : Int) - 1 - (j : Int) = (d : Int) := by omega
                            have hj0 : (0 : Int) ≤ (j : Int) := Int.natCast_nonneg _
                            have hj1 : (j : Int) < (mm : Int) := by omega
                            have hd0 : (0 : Int) ≤ (d : Int) := Int.natCast_nonneg _
                            have hd1 : (d : Int) < (mm : Int) := by omega
                            have HD := hid hd
                            clear hrow hbel hd
                            go_wp2
                            refine ⟨⟨j + 1, by omega, by go_num, ?_, HBEL.out.setCell (Nat.le_refl _) _⟩, by simp only [intOf]; omega⟩
                            refine (HROW.out.set j (.int .i32 (rn (runes s) d))).congr fun x hx => ?_
                            rw [← HD.out]
                            exact rvF_put _ _ _ _
                          · as_aux_lemma =>
                            obtain rfl : j = mm := by omega
                            have c4 : wr.cell? ⟨w5.heap.size + 1, i, none⟩ = some (G i) := by
                              have h1 := HC3.out.cell hlt
                              rw [hbel.cell (old_of h1)]; exact h1
                            have f4 : wr.frozen? ⟨w5.heap.size + 1, i, none⟩ = false := (HC3.out.of_block (hbel.block _ HC3.out.lt)).frozen i
                            generalize G i = old at c4
                            clear hrow hbel
                            have HFB : Hid (FB w5 (wr.setCell ⟨w5.heap.size + 1, i, none⟩ (.slice (some ⟨wc.heap.size, 0, none⟩) j j)) n (i + 1) (tsT str n) (tsV str n) (putV F i (.slice (some ⟨wo.heap.size, 0, none⟩) j cap)) (putV G i (.slice (some ⟨wc.heap.size, 0, none⟩) j j))) := by
                              have hT := HT.out
                              have hBs := HBS.out
                              have hM := HMM.out
                              have eT : (tx (tsT str n) i).length = j := by rw [hT]; exact hM
                              have h := FB.step (wr := wo) (w2 := wr) (wB := wc) (wA := wc) HF.out hlt arr cap j HV.out (by rw [eT]; exact HCAP.out) (by rw [eT]; exact Nat.le_refl _) (by rw [hT, hM]; exact HARR.out) (by rw [eT]; exact HBB.out) hBs HBO.out (by rw [← hBs]; exact HBEL.out) (fun x hx => by
                                rw [← hBs]
                                have hx' : x < j := by rw [eT] at hx; exact hx
                                have h1 := HROW.out.cell hx'
                                rw [hT]
                                rw [← hM] at h1
                                rw [h1, rvF_end _ (by omega)]) (by rw [← hBs]; exact HROW.out.lt)
                              rw [eT, ← hBs] at h
                              exact h
                            go_wp2
                            exact ⟨⟨i + 1, _, _, hlt, by go_num, HFB.out⟩, by simp only [intOf]; omega⟩
                    · as_aux_lemma =>
                      obtain rfl : i = n := by omega
                      clear hF
                      go_wp2
                      go_meet
                      case rel => exact ⟨F, G, HF.out⟩
                case rest =>
                  as_aux_lemma =>
                  obtain ⟨F, G, hF⟩ := hcut
                  clear HFB hmk HST5
                  obtain ⟨G1, C1, tb1⟩ := tb_of hF.rt (tsT_len str n) (fun j hj => (hF.txt j hj).1)
                  obtain ⟨G2, C2, tb2⟩ := tb_of hF.rr (tsV_len str n) (fun j hj => (hF.txt j hj).2)
                  have hbw6 := hF.bel
                  have hT1 : ∀ j, j < (tsT str n).length → (tx (tsT str n) j).length ≤ 1048576 := fun j hj => by
                    rw [tsT_len] at hj
                    rw [tsT_at str hj]
                    have h1 := runes_len (str j)
                    have h2 := HALL.out j hj
                    omega
                  have hT2 : ∀ j, j < (tsV str n).length → (tx (tsV str n) j).length ≤ 1048576 := fun j hj => by
                    rw [tsV_len] at hj
                    rw [tsV_at str hj, List.length_reverse]
                    exact hT1 j (by rw [tsT_len]; exact hj)
                  have hlV : lenTo (tsV str n) (tsV str n).length ≤ 1048576 := by rw [tsV_len, lenTo_rev_le str n n (Nat.le_refl _)]; exact HLEN.out
                  have hlT : lenTo (tsT str n) (tsT str n).length ≤ 1048576 := by rw [tsT_len]; exact HLEN.out
                  have HS1 := hid (starts23 wc w5.heap.size n (tsT str n) G1 C1 hT1 (by rw [tsT_len]; exact hn) hlT tb1)
                  rw [tsT_len] at HS1
                  have HB6 := hid hbw6
                  have TB1 := hid tb1
                  have TB2 := hid tb2
                  have HLT := hid hlT
                  have HLV := hid hlV
                  have HT1 := hid hT1
                  have HT2 := hid hT2
                  clear hF hbw6 tb1 tb2 hlV hlT hT1 hT2
                  go_wp2_with fail
                  refine HS1.out.mono ?_
                  rintro e w7 ⟨g1, cp1, O1, rfl, pr1, ho1, dl1, hb7⟩
                  have HS2 := hid (starts23 w7 (w5.heap.size + 1) n (tsV str n) G2 C2 HT2.out (by rw [tsV_len]; exact hn) HLV.out (TB2.out.same hb7))
                  rw [tsV_len] at HS2
                  have PR1 := hid pr1
                  have DL1 := hid (dl1 M HIX.out.bm)
                  have HB7 := hid hb7
                  clear pr1 dl1 hb7 HS1
                  go_wp2_with fail
                  refine HS2.out.mono ?_
                  rintro e w8 ⟨g2, cp2, O2, rfl, pr2, ho2, dl2, hb8⟩
                  have PR2 := hid pr2
                  have DL2 := hid (dl2 N HIX.out.bn)
                  have hb68 : Below wc.heap.size wc w8 := HB7.out.trans (hb8.mono HB7.out.size)
                  have TB18 := hid (TB1.out.same hb68)
                  have TB28 := hid (TB2.out.same hb68)
                  have PR18 := hid (PR1.out.same hb8)
                  have hb58 : Below w5.heap.size w5 w8 := HB6.out.trans (hb68.mono HB6.out.size)
                  have HIX8 := hid (HIX.out.below hb58)
                  have HIN8 : Hid (InAt w8 ca n ch) := by
                    rcases HIN5.out with e | ⟨b, off, e, htx⟩
                    · exact .inl e
                    · exact .inr ⟨b, off, e, fun j hj => by rw [hb58.cell (old_of (htx j hj))]; exact htx j hj⟩
                  have HBL8 : Hid (Below w.heap.size w w8) := HBL5.out.trans (hb58.mono HBL5.out.size)
                  have hM := HIX8.out.hm
                  have hN := HIX8.out.hn
                  have hMo := DL1.out.len
                  have hNo := DL2.out.len
                  have HZ1 := hid (fun q => zzSize (w8.drewN q) px 0 gn cn _ M (HIX8.out.fw.drewN q))
                  have HZ2 := hid (fun q => zzSize (w8.drewN q) px 1 gn' cn' _ N (HIX8.out.bw.drewN q))
                  have hne1 : ((M.length : Int) != (O1.length : Int) + 1) = false := by simp; omega
                  have hne2 : ((N.length : Int) != (O2.length : Int) + 1) = false := by simp; omega
                  have HMO := hid hMo
                  have HNO := hid hNo
                  clear pr2 dl2 hb8 hb68 hb58 HS2 TB1 TB2 PR1 HIX HIN5 HBL5 HB6 HB7 hMo hNo
                  go_wp2_with fail
                  refine (tries19 _ px).mono ?_
                  rintro e w9 ⟨rfl, q1, rfl⟩
                  go_wp2_with fail
                  refine (HZ1.out q1).mono ?_
                  rintro e w9 ⟨rfl, rfl⟩
                  go_wp2_with fail
                  refine (HZ2.out q1).mono ?_
                  rintro e w9 ⟨rfl, rfl⟩
                  clear HZ1 HZ2
                  have HTR1 := hid (TrieW.zzNewTrie (some ⟨w5.heap.size, 0, none⟩) n (tsT str n) (w8.drewN q1) (by rw [tsT_len]; omega) HLT.out (TB.texts (TB18.out.same (dr_below _ _ q1))))
                  rw [tsT_len] at HTR1
                  go_wp2_with fail
                  clear hne1 hne2
                  refine HTR1.out.mono ?_
                  rintro e w10 ⟨M', p', gn3, cn3, rfl, bf', ta', hp', hg', hb10⟩
                  have eM : M = M' := BF.unique (bldTo_tr _ _) (bldTo_tr _ _) HIX8.out.bm bf' (fun u => Iff.rfl)
                  subst eM
                  have hb810 : Below w8.heap.size w8 w10 := (dr_below w8.heap.size w8 q1).trans hb10
                  have HSM1 := hid (same15 w10 px 0 gn cn p' 0 gn3 cn3 _ _ M (by omega) (HIX8.out.below hb810).fw ⟨ta'.c0, ta'.nod⟩ (List.Perm.refl _))
                  have HB10 := hid hb810
                  clear bf' ta' hb10 hb810 HTR1 hp' hg'
                  go_wp2_with fail
                  refine HSM1.out.mono ?_
                  rintro e w11 ⟨rfl, q2, rfl⟩
                  clear HSM1
                  have HTR2 := hid (TrieW.zzNewTrie (some ⟨w5.heap.size + 1, 0, none⟩) n (tsV str n) (w10.drewN q2) (by rw [tsV_len]; omega) HLV.out (TB.texts (TB28.out.same (HB10.out.trans (dr_below _ _ q2)))))
                  rw [tsV_len] at HTR2
                  go_wp2_with fail
                  refine HTR2.out.mono ?_
                  rintro e w12 ⟨N', p2, gn4, cn4, rfl, bf2, ta2, hp2, hg2, hb12⟩
                  have eN : N = N' := BF.unique (bldTo_tr _ _) (bldTo_tr _ _) HIX8.out.bn bf2 (fun u => Iff.rfl)
                  subst eN
                  have hb812 : Below w8.heap.size w8 w12 := (HB10.out.trans (dr_below _ _ q2)).trans (hb12.mono HB10.out.size)
                  have HSM2 := hid (same15 w12 px 1 gn' cn' p2 0 gn4 cn4 _ _ N (by omega) (HIX8.out.below hb812).bw ⟨ta2.c0, ta2.nod⟩ (List.Perm.refl _))
                  have HB12 := hid hb812
                  clear bf2 ta2 hb12 hb812 HTR2 hp2 hg2 HB10
                  go_wp2_with fail
                  refine HSM2.out.mono ?_
                  rintro e w13 ⟨rfl, q3, rfl⟩
                  clear HSM2
                  have hbF : Below w8.heap.size w8 (w12.drewN q3) := HB12.out.trans (dr_below _ _ q3)
                  have HXF := hid (HIX8.out.below hbF)
                  have TF1 := hid (TB18.out.same hbF)
                  have TF2 := hid (TB28.out.same hbF)
                  have PF1 := hid (PR18.out.same hbF)
                  have PF2 := hid (PR2.out.same hbF)
                  have HINF : Hid (InAt (w12.drewN q3) ca n ch) := by
                    rcases HIN8.out with e | ⟨b, off, e, htx⟩
                    · exact .inl e
                    · exact .inr ⟨b, off, e, fun j hj => by rw [hbF.cell (old_of (htx j hj))]; exact htx j hj⟩
                  have HBF : Hid (Below w.heap.size w (w12.drewN q3)) := HBL8.out.trans (hbF.mono HBL8.out.size)
                  clear hbF HB12 HIX8 TB18 TB28 PR18 PR2 HIN8 HBL8
                  generalize w12.drewN q3 = wF at *
                  generalize hgf : w5.heap.size = gf at *
                  clear hgf
                  have HMN : Hid (∀ p ∈ prS M N (tsT str n) ch n, p.1 < M.length) := prS_node (fun j b hj _ => takeM HXF.out.bm hj b) n (by rw [tsT_len]; exact Nat.le_refl _)
                  have HPL := hid HXF.out.pl
                  go_upto_block 10 with fail
                  go_cut [21] (fun v wx => PV wx wF.heap.size v (prS M N (tsT str n) ch n) ∧ Below wF.heap.size wF wx)
                  case first =>
                    as_aux_lemma =>
                    go_wp2_with fail
                    go_loopw [21, 22] (fun pv iv wr => ∃ i : Nat, i ≤ n ∧ iv = .int .i64 i ∧ PV wr wF.heap.size pv (prS M N (tsT str n) ch i) ∧ Below wF.heap.size wF wr) (fun _ iv _ => n - (intOf iv).toNat)
                    case atStart => exact ⟨0, Nat.zero_le _, rfl, PV.start _ _, Below.refl _ _⟩
                    case round =>
                      as_aux_lemma =>
                      rename_i pv _ _
                      obtain ⟨i, hi, rfl, hpv, hbel⟩ := hrel
                      have HPV := hid hpv
                      have HBEL := hid hbel
                      by_cases hlt : i < n
                      · as_aux_lemma =>
                        rcases HINF.out with e | ⟨b, off, rfl, hcx⟩
                        · omega
                        have hiT : i < (tsT str n).length := by rw [tsT_len]; exact hlt
                        have hiV : i < (tsV str n).length := by rw [tsV_len]; exact hlt
                        have x1 : wr.cell? ⟨b, off + i, none⟩ = some (.int .i64 (ch i)) := by rw [hbel.cell (old_of (hcx _ hlt))]; exact hcx _ hlt
                        have x2 := (TF1.out.same hbel).cell i hiT
                        have hmb := HT1.out i hiT
                        obtain ⟨t, ht⟩ : ∃ t, t = tx (tsT str n) i := ⟨_, rfl⟩
                        have HTV : Hid (tx (tsV str n) i = t.reverse) := by rw [ht]; exact tsV_at str hlt
                        rw [← ht] at x2 hmb
                        obtain ⟨mm, hmm⟩ : ∃ mm, mm = t.length := ⟨_, rfl⟩
                        rw [← hmm] at x2 hmb
                        have HT := hid ht
                        have HMM := hid hmm
                        have HRK1 : Hid (∀ (W : World) (b : Nat), Below wF.heap.size wF W → b ≤ mm → Calls Try.prog 24 #[.slice (some ⟨gf, 0, none⟩) n n, .slice (some ⟨g1, 0, none⟩) O1.length cp1, .int .i64 (i : Nat), .int .i64 (b : Nat)] W fun e w' => e = .returned (.int .i64 ((M.idxOf (t.take b) : Nat) : Int)) ∧ ∃ q os, w' = grow (W.drewN q) os) := fun W b hW hb => by
                          have h := rankI W gf n g1 O1.length cp1 (tsT str n) M G1 C1 (fA O1) (fL O1) i b hiT (by rw [← ht, ← hmm]; exact hb) (takeM HXF.out.bm hiT b) (fun j hj => Nat.le_trans (HT1.out j hj) (by decide)) (by rw [tsT_len]; omega) (by omega) (TF1.out.same hW) (PF1.out.same hW) DL1.out
                          rw [tsT_len, ← ht] at h
                          exact h
                        have HRK2 : Hid (∀ (W : World) (b : Nat), Below wF.heap.size wF W → b ≤ mm → Calls Try.prog 24 #[.slice (some ⟨gf + 1, 0, none⟩) n n, .slice (some ⟨g2, 0, none⟩) O2.length cp2, .int .i64 (i : Nat), .int .i64 (b : Nat)] W fun e w' => e = .returned (.int .i64 ((N.idxOf (t.reverse.take b) : Nat) : Int)) ∧ ∃ q os, w' = grow (W.drewN q) os) := fun W b hW hb => by
                          have h := rankI W (gf + 1) n g2 O2.length cp2 (tsV str n) N G2 C2 (fA O2) (fL O2) i b hiV (by rw [HTV.out, List.length_reverse, ← hmm]; exact hb) (takeM HXF.out.bn hiV b) (fun j hj => Nat.le_trans (HT2.out j hj) (by decide)) (by rw [tsV_len]; omega) (by omega) (TF2.out.same hW) (PF2.out.same hW) DL2.out
                          rw [tsV_len, HTV.out] at h
                          exact h
                        have HE : Hid (∀ b, N.idxOf (t.reverse.take b) ≤ 2097153) := fun b => by
                          have h1 := List.idxOf_lt_length_of_mem (takeM HXF.out.bn hiV b)
                          rw [HTV.out] at h1
                          omega
                        have HF : Hid (∀ b, M.idxOf (t.take b) ≤ 2097153) := fun b => by
                          have h1 := List.idxOf_lt_length_of_mem (takeM HXF.out.bm hiT b)
                          rw [← ht] at h1
                          omega
                        have HPB : Hid (∀ b, b ≤ mm + 1 → (prU M N (tsT str n) ch i b).length ≤ 2162688) := fun b hb => by
                          obtain ⟨Q, hQ⟩ := prU_in M N (tsT str n) ch (b := b) hiT (by rw [← ht, ← hmm]; exact hb)
                          have h1 := congrArg List.length hQ
                          rw [List.length_append, tsT_len] at h1
                          have h2 := HPL.out
                          omega
                        have HSU : Hid (∀ b, b < mm → prU M N (tsT str n) ch i (b + 1) = (prU M N (tsT str n) ch i b ++ [(M.idxOf (t.take b), lnk (N.idxOf (t.reverse.take (mm - b))) false (ch i))]) ++ [(M.idxOf (t.take b), lnk (N.idxOf (t.reverse.take (mm - b - 1))) true (ch i))]) := fun b hb => by
                          have h := prU_succ_lt M N (tsT str n) ch (i := i) (b := b) (by rw [← ht, ← hmm]; exact hb)
                          unfold l1 l2 at h
                          rw [← ht, ← hmm] at h
                          exact h
                        have HSE : Hid (prU M N (tsT str n) ch i (mm + 1) = prU M N (tsT str n) ch i mm ++ [(M.idxOf (t.take mm), lnk (N.idxOf (t.reverse.take (mm - mm))) false (ch i))]) := by
                          have h := prU_succ_end M N (tsT str n) ch i
                          unfold l1 at h
                          rw [← ht, ← hmm] at h
                          exact h
                        have HEN : Hid (prU M N (tsT str n) ch i (mm + 1) = prS M N (tsT str n) ch (i + 1)) := by
                          have h := prU_end M N (tsT str n) ch i
                          rw [← ht, ← hmm] at h
                          exact h
                        have hi0 : (0 : Int) ≤ (i : Int) := Int.natCast_nonneg _
                        have hi1 : (i : Int) < (n : Int) := by omega
                        clear hpv hbel hcx ht hmm hiT hiV
                        go_wp2_with fail
                        go_loopw [21, 25] (fun pv bv wr => ∃ b : Nat, b ≤ mm + 1 ∧ bv = .int .i64 b ∧ PV wr wF.heap.size pv (prU M N (tsT str n) ch i b) ∧ Below wF.heap.size wF wr) (fun _ bv _ => mm + 1 - (intOf bv).toNat)
                        case atStart => exact ⟨0, Nat.zero_le _, rfl, by rw [prU_zero]; exact HPV.out, HBEL.out⟩
                        case round =>
                          as_aux_lemma =>
                          obtain ⟨b, hb, rfl, hpv, hbel⟩ := hrel
                          clear HPV HBEL
                          have HPV := hid hpv
                          have HBEL := hid hbel
                          by_cases hbl : b ≤ mm
                          · as_aux_lemma =>
                            have hL0 := HPB.out b hb
                            obtain ⟨d, hd⟩ : ∃ d, mm - b = d := ⟨_, rfl⟩
                            have hdm : d ≤ mm := by omega
                            have em : (mm : Int) - (b : Int) = (d : Int) := by omega
                            have HDE := hid hd
                            clear hpv hbel hd
                            go_wp2_with fail
                            refine (HRK1.out wr b HBEL.out hbl).mono ?_
                            rintro e wa ⟨rfl, q1, os1, hwa⟩
                            have hba : Below wr.heap.size wr wa := by rw [hwa]; exact grow_bel wr q1 os1
                            have HPA := hid (HPV.out.same (fun k hk => hba.block k hk))
                            have HBA : Hid (Below wF.heap.size wF wa) := HBEL.out.trans (hba.mono HBEL.out.size)
                            clear hba hwa
                            go_wp2_with fail
                            refine (HRK2.out wa d HBA.out hdm).mono ?_
                            rintro e wb ⟨rfl, q2, os2, hwb⟩
                            have hbb : Below wa.heap.size wa wb := by rw [hwb]; exact grow_bel wa q2 os2
                            have HPB2 := hid (HPA.out.same (fun k hk => hbb.block k hk))
                            have HBB : Hid (Below wF.heap.size wF wb) := HBA.out.trans (hbb.mono HBA.out.size)
                            have hszb : wF.heap.size ≤ wb.heap.size := HBB.out.size
                            clear hbb hwb HPA HBA HPV HBEL
                            have hfb := HF.out b
                            have heb := HE.out d
                            generalize hfe : M.idxOf (t.take b) = f at *
                            generalize hee : N.idxOf (t.reverse.take d) = ee at *
                            have HFE := hid hfe
                            have HEE := hid hee
                            have HL1 : Hid (lnk ee false (ch i) = bits .or .u64 ((ee : Int) * 4294967296) (IntKind.u64.wrap (ch i))) := by
                              show lnk ee false (ch i) = _
                              unfold lnk lkey; rw [if_neg (by simp), Lk.wrap_small ee heb]
                            obtain ⟨P0, hP0⟩ : ∃ P0, prU M N (tsT str n) ch i b = P0 := ⟨_, rfl⟩
                            rw [hP0] at HPB2 hL0
                            have HP0 := hid hP0
                            have hown := HPB2.out.same (w' := wb.alloc (.cells #[.int .i64 (f : Nat), .int .u64 (bits .or .u64 ((ee : Int) * 4294967296) (IntKind.u64.wrap (ch i)))] 58)) (fun k hk => Below.heap_alloc _ _ _ hk)
                            unfold PV at hown
                            have HOG := hid (Ix.own_ge hown)
                            generalize hL0e : P0.length = L0 at *
                            have HOWN := hid hown
                            have HLE := hid hL0e
                            clear hown hfe hee hP0 hL0e
                            obtain ⟨i1, hi1', hz0, hz1, hz2⟩ := info_parts info58
                            go_wp2_with (at_builtin; refine wpList_append_lies _ rfl _ _ 54 rfl wF.heap.size 58 i1 _ 2 16 Try.underlying54 hi1' hz0 hz1 hz2 rfl (by decide) _ L0 _ rfl HOWN.out ⟨wb.heap.size, 0, none⟩ 1 1 [.int .i64 (f : Nat), .int .u64 (bits .or .u64 ((ee : Int) * 4294967296) (IntKind.u64.wrap (ch i)))] rfl rfl ?c1 ?c2 (by decide) ?c3 ?c4 ?c5 (wb.heap.size + 1) ?c6 ?_)
                            try (case c1 => exact World.news_of_block (Go.Deep.blk_alloc_new wb _))
                            try (case c2 => first | exact ⟨rfl, rfl⟩ | (intro u hu; simp at hu; rcases hu with rfl | rfl <;> rfl))
                            try (case c3 => unfold maxLen; omega)
                            try (case c4 => omega)
                            try (case c5 => first | omega | (simp; omega))
                            try (case c6 => simp)
                            intro g3 cp3 wd hown2 hgrow hat hglt
                            have HBD : Hid (Below wF.heap.size wF wd) := (HBB.out.alloc hszb _).grown hgrow (by simp; omega) HOG.out
                            have HPD : Hid (PV wd wF.heap.size (.slice (some ⟨g3, 0, none⟩) (L0 + 1) cp3) (P0 ++ [(f, lnk ee false (ch i))])) := by
                              rw [HL1.out]
                              have h := PV.push (P := P0) (a := f) (l := bits .or .u64 ((ee : Int) * 4294967296) (IntKind.u64.wrap (ch i))) (w := wd) (B := wF.heap.size) (g := g3) (cap := cp3) (by rw [HLE.out]; exact hown2)
                              rw [List.length_append, HLE.out] at h
                              exact h
                            clear hi1' hz0 hz1 hz2 hown2 hgrow hat hglt HOWN HOG HBB HPB2 hszb
                            by_cases hbm : b < mm
                            · as_aux_lemma =>
                              obtain ⟨d1, hd1⟩ : ∃ d1, d - 1 = d1 := ⟨_, rfl⟩
                              have hd1m : d1 ≤ mm := by omega
                              have em1 : (d : Int) - 1 = (d1 : Int) := by have := HDE.out; omega
                              have HD1 := hid hd1
                              clear hd1
                              go_wp2_with fail
                              refine (HRK2.out wd d1 HBD.out hd1m).mono ?_
                              rintro e we ⟨rfl, q3, os3, hwe⟩
                              have hbe : Below wd.heap.size wd we := by rw [hwe]; exact grow_bel wd q3 os3
                              have HPE := hid (HPD.out.same (fun k hk => hbe.block k hk))
                              have HBE : Hid (Below wF.heap.size wF we) := HBD.out.trans (hbe.mono HBD.out.size)
                              have hsze : wF.heap.size ≤ we.heap.size := HBE.out.size
                              clear hbe hwe HPD HBD
                              have heb1 := HE.out d1
                              generalize hee1 : N.idxOf (t.reverse.take d1) = e1 at *
                              have HEE1 := hid hee1
                              have HL2 : Hid (lnk e1 true (ch i) = bits .or .u64 (IntKind.u64.wrap (bits .or .u64 (e1 : Int) 2147483648 * 4294967296)) (IntKind.u64.wrap (ch i))) := by
                                show lnk e1 true (ch i) = _
                                unfold lnk lkey; rw [if_pos rfl]
                              have hown := HPE.out.same (w' := we.alloc (.cells #[.int .i64 (f : Nat), .int .u64 (bits .or .u64 (IntKind.u64.wrap (bits .or .u64 (e1 : Int) 2147483648 * 4294967296)) (IntKind.u64.wrap (ch i)))] 58)) (fun k hk => Below.heap_alloc _ _ _ hk)
                              have HOG := hid (Ix.own_ge hown)
                              unfold PV at hown
                              have HPL2 : Hid ((P0 ++ [(f, lnk ee false (ch i))]).length = L0 + 1) := by rw [List.length_append, HLE.out]; rfl
                              rw [HPL2.out] at hown
                              have HOWN := hid hown
                              clear hown hee1
                              obtain ⟨i1, hi1', hz0, hz1, hz2⟩ := info_parts info58
                              go_wp2_with (at_builtin; refine wpList_append_lies _ rfl _ _ 54 rfl wF.heap.size 58 i1 _ 2 16 Try.underlying54 hi1' hz0 hz1 hz2 rfl (by decide) _ (L0 + 1) _ rfl HOWN.out ⟨we.heap.size, 0, none⟩ 1 1 [.int .i64 (f : Nat), .int .u64 (bits .or .u64 (IntKind.u64.wrap (bits .or .u64 (e1 : Int) 2147483648 * 4294967296)) (IntKind.u64.wrap (ch i)))] rfl rfl ?c1 ?c2 (by decide) ?c3 ?c4 ?c5 (we.heap.size + 1) ?c6 ?_)
                              try (case c1 => exact World.news_of_block (Go.Deep.blk_alloc_new we _))
                              try (case c2 => first | exact ⟨rfl, rfl⟩ | (intro u hu; simp at hu; rcases hu with rfl | rfl <;> rfl))
                              try (case c3 => unfold maxLen; omega)
                              try (case c4 => omega)
                              try (case c5 => first | omega | (simp; omega))
                              try (case c6 => simp)
                              intro g4 cp4 wg hown2 hgrow hat hglt
                              have HBG : Hid (Below wF.heap.size wF wg) := (HBE.out.alloc hsze _).grown hgrow (by simp; omega) HOG.out
                              have HPG : Hid (PV wg wF.heap.size (.slice (some ⟨g4, 0, none⟩) (L0 + 1 + 1) cp4) (prU M N (tsT str n) ch i (b + 1))) := by
                                rw [HSU.out b hbm, HP0.out, HFE.out, HDE.out, HD1.out, HEE.out, HEE1.out, HL2.out]
                                have h := PV.push (P := P0 ++ [(f, lnk ee false (ch i))]) (a := f) (l := bits .or .u64 (IntKind.u64.wrap (bits .or .u64 (e1 : Int) 2147483648 * 4294967296)) (IntKind.u64.wrap (ch i))) (w := wg) (B := wF.heap.size) (g := g4) (cap := cp4) (by rw [HPL2.out]; exact hown2)
                                rw [List.length_append (bs := [(f, _)]), HPL2.out] at h
                                exact h
                              clear hi1' hz0 hz1 hz2 hown2 hgrow hat hglt HOWN HOG
                              go_wp2
                              exact ⟨⟨b + 1, by omega, by go_num, HPG.out, HBG.out⟩, by simp only [intOf]; omega⟩
                            · as_aux_lemma =>
                              obtain rfl : b = mm := by omega
                              have HPG : Hid (PV wd wF.heap.size (.slice (some ⟨g3, 0, none⟩) (L0 + 1) cp3) (prU M N (tsT str n) ch i (b + 1))) := by
                                rw [HSE.out, HP0.out, HFE.out, HDE.out, HEE.out]
                                exact HPD.out
                              go_wp2
                              exact ⟨⟨b + 1, by omega, by go_num, HPG.out, HBD.out⟩, by simp only [intOf]; omega⟩
                          · as_aux_lemma =>
                            obtain rfl : b = mm + 1 := by omega
                            clear hpv hbel
                            go_wp2
                            exact ⟨⟨i + 1, hlt, by go_num, by rw [← HEN.out]; exact HPV.out, HBEL.out⟩, by simp only [intOf]; omega⟩
                      · as_aux_lemma =>
                        obtain rfl : i = n := by omega
                        clear hpv hbel
                        go_wp2
                        go_meet
                        case rel => exact ⟨HPV.out, HBEL.out⟩
                  case rest =>
                    as_aux_lemma =>
                    obtain ⟨hpv, hbel⟩ := hcut
                    obtain ⟨a, cap, rfl, hsh⟩ := hpv.shape
                    have HXG := hid (HXF.out.below hbel)
                    have HBG : Hid (Below w.heap.size w wc) := HBF.out.trans (hbel.mono HBF.out.size)
                    have HSH := hid hsh
                    clear hpv hbel hsh HXF HBF TF1 TF2 PF1 PF2 HINF DL1 DL2 HT1 HT2 HLT HLV HALL HSZ HLEN
                    generalize prS M N (tsT str n) ch n = P at *
                    have hPL := HPL.out
                    clear HPL
                    go_wp2_with fail
                    have hb2 : Below wc.heap.size wc (wc.alloc (.cells #[.int .i64 2, .slice none 0 0, .slice none 0 0, .slice a P.length cap] 61)) := (Below.refl _ _).alloc (Nat.le_refl _) _
                    have d0 : (wc.alloc (.cells #[.int .i64 2, .slice none 0 0, .slice none 0 0, .slice a P.length cap] 61)).cell? ⟨wc.heap.size, 0, none⟩ = some (.int .i64 2) := World.cell?_alloc_mark wc #[.int .i64 2, .slice none 0 0, .slice none 0 0, .slice a P.length cap] 61 (0, 0) 0
                    have d3 : (wc.alloc (.cells #[.int .i64 2, .slice none 0 0, .slice none 0 0, .slice a P.length cap] 61)).cell? ⟨wc.heap.size, 3, none⟩ = some (.slice a P.length cap) := World.cell?_alloc_mark wc #[.int .i64 2, .slice none 0 0, .slice none 0 0, .slice a P.length cap] 61 (0, 0) 3
                    generalize wc.alloc (.cells #[.int .i64 2, .slice none 0 0, .slice none 0 0, .slice a P.length cap] 61) = w2 at hb2 d0 d3 ⊢
                    have HSH2 : Hid (P = [] ∨ ∃ g, a = some ⟨g, 0, none⟩ ∧ PR w2 g P.length .u64 (nA P) (nB P)) := by
                      rcases HSH.out with e | ⟨g, e, h⟩
                      · exact .inl e
                      · exact .inr ⟨g, e, h.same hb2⟩
                    have HS := hid (pairs_sort w2 wc.heap.size P a cap hPL d0 d3 HSH2.out)
                    have HB2 := hid hb2
                    clear d0 d3 hb2 HSH
                    refine HS.out.mono ?_
                    rintro e w3 ⟨gi, I, rfl, hrow, hperm, hord, hg, hb3⟩
                    obtain ⟨hplace, hlinks⟩ := pairs_done hperm hord HMN.out HXG.out.dn
                    have hbc3 : Below wc.heap.size wc w3 := HB2.out.trans (hb3.mono HB2.out.size)
                    have HX3 := hid (HXG.out.below hbc3)
                    have HB3 : Hid (Below w.heap.size w w3) := HBG.out.trans (hbc3.mono HBG.out.size)
                    have HSH3 : Hid (P = [] ∨ ∃ g, a = some ⟨g, 0, none⟩ ∧ PR w3 g P.length .u64 (nA P) (nB P)) := by
                      rcases HSH2.out with e | ⟨g, e, h⟩
                      · exact .inl e
                      · exact .inr ⟨g, e, h.same hb3⟩
                    have HIR : Hid (∀ p, p < P.length → w3.cell? ⟨gi, p, none⟩ = some (.int .i64 (I p : Nat)) ∧ I p < P.length) := fun p hp => ⟨hrow.cell hp, seg_range_lt hperm hp⟩
                    have HPC : Hid (∀ v p, p < P.length → (nA P (I p) < v ↔ p < blw P v)) := hplace
                    have HLK : Hid (∀ p, p < P.length → R p = nB P (I p)) := hlinks
                    clear HS HB2 HSH2 HXG HBG hrow hperm hord hplace hlinks hb3 hbc3 hg
                    obtain ⟨mn, hmn⟩ : ∃ mn, M.length = mn := ⟨_, rfl⟩
                    obtain ⟨N1, hN1⟩ : ∃ N1, mn + 1 = N1 := ⟨_, rfl⟩
                    have em : (O1.length : Int) + 1 = (mn : Int) := by have := HMO.out; omega
                    have em2 : (mn : Int) + 1 = (N1 : Int) := by omega
                    have c2 : w3.cell? ⟨px, 2, none⟩ = some (.slice (some ⟨gs, 0, none⟩) N1 N1) := by
                      have := HX3.out.c2
                      rw [hmn, hN1] at this
                      exact this
                    have c3 : w3.cell? ⟨px, 3, none⟩ = some (.slice (some ⟨gl, 0, none⟩) P.length P.length) := HX3.out.c3
                    have HST : Hid (∀ v, v < N1 → w3.cell? ⟨gs, v, none⟩ = some (.int .i32 (blw P v : Nat))) := fun v hv => HX3.out.st.cell (by omega)
                    have HLN : Hid (∀ j, j < P.length → w3.cell? ⟨gl, j, none⟩ = some (.int .u64 (R j))) := fun j hj => HX3.out.ln.cell hj
                    have HBW : Hid (∀ v, blw P v ≤ P.length) := blw_le P
                    have HBM : Hid (∀ v, blw P v ≤ blw P (v + 1)) := fun v => blw_mono P (Nat.le_succ v)
                    have hmn2 : mn ≤ 1048577 := by omega
                    have hnn : ((N1 : Int) != (N1 : Int)) = false := by simp
                    have hll : ((P.length : Int) != (P.length : Int)) = false := by simp
                    have HN1 := hid hN1
                    generalize hPL2 : P.length = L at *
                    have HPLe := hid hPL2
                    clear HX3 HMN HMO HNO hM hN hmn hN1 hPL2
                    go_wp2_with fail
                    refine (start20 w3 px _ c2).mono ?_
                    rintro e w7 ⟨rfl, rfl⟩
                    go_wp2_with fail
                    refine (links21 w7 px _ c3).mono ?_
                    rintro e w8 ⟨rfl, rfl⟩
                    clear c2 c3
                    go_wp2_with fail
                    go_loopw [34, 35] (fun pv nv wr => ∃ p node : Nat, node ≤ mn + 1 ∧ nv = .int .i64 node ∧ p ≤ blw P node ∧ pv = .int .i64 p ∧ wr = w8) (fun _ nv _ => mn + 1 - (intOf nv).toNat)
                    case atStart => exact ⟨0, 0, Nat.zero_le _, rfl, Nat.zero_le _, rfl, rfl⟩
                    case round =>
                      as_aux_lemma =>
                      obtain ⟨p, node, hnode, rfl, hp, rfl, hw⟩ := hrel
                      have hw' := hw.symm
                      subst hw'
                      by_cases hnl : node ≤ mn
                      · as_aux_lemma =>
                        have hz1 := HST.out node (by have := HN1.out; omega)
                        have hzb := HBW.out node
                        have HZM := hid (HBM.out node)
                        have HPN : Hid (∀ p, p < L → (nA P (I p) < node ↔ p < blw P node)) := HPC.out node
                        generalize hze : blw P node = z at *
                        have HZE := hid hze
                        clear hze
                        have hzz : ((z : Int) != (z : Int)) = false := by simp
                        have hn0 : (0 : Int) ≤ (node : Int) := Int.natCast_nonneg _
                        have hn1 : (node : Int) < (N1 : Int) := by have := HN1.out; omega
                        have HP := hid hp
                        clear hp
                        go_wp2_with fail
                        go_loopw [34] (fun pv wr => ∃ p : Nat, p ≤ z ∧ pv = .int .i64 p ∧ wr = w8) (fun pv _ => L - (intOf pv).toNat)
                        case atStart => exact ⟨p, HP.out, rfl, rfl⟩
                        case round =>
                          as_aux_lemma =>
                          clear HP
                          obtain ⟨p, hp, rfl, hw⟩ := hrel
                          have hw' := hw.symm
                          subst hw'
                          by_cases hpz : p < z
                          · as_aux_lemma =>
                            have hpl : p < L := by omega
                            obtain ⟨i1, i2⟩ := HIR.out p hpl
                            have hna := (HPN.out p hpl).2 hpz
                            rcases HSH3.out with e | ⟨g, rfl, hpr⟩
                            · have h1 := HPLe.out
                              rw [e] at h1
                              simp at h1
                              omega
                            obtain ⟨x1, x2⟩ := hpr (I p) i2
                            generalize nA P (I p) = na at *
                            generalize I p = ip at *
                            have hp0 : (0 : Int) ≤ (p : Int) := Int.natCast_nonneg _
                            have hp1 : (p : Int) < (L : Int) := by omega
                            have hq0 : (0 : Int) ≤ (ip : Int) := Int.natCast_nonneg _
                            have hq1 : (ip : Int) < (L : Int) := by omega
                            have hdd : decide ((p : Int) < (L : Int)) = true := by simp; omega
                            clear hpr x2
                            go_wp2
                            exact ⟨⟨p + 1, by omega, by go_num, by first | trivial | rfl⟩, by simp only [intOf]; omega⟩
                          · as_aux_lemma =>
                            obtain rfl : p = z := by omega
                            by_cases hpl : p < L
                            · as_aux_lemma =>
                              obtain ⟨i1, i2⟩ := HIR.out p hpl
                              have hna : ¬ (nA P (I p) < node) := fun h => by have := (HPN.out p hpl).1 h; omega
                              rcases HSH3.out with e | ⟨g, rfl, hpr⟩
                              · have h1 := HPLe.out
                                rw [e] at h1
                                simp at h1
                                omega
                              obtain ⟨x1, x2⟩ := hpr (I p) i2
                              generalize nA P (I p) = na at *
                              generalize I p = ip at *
                              have hp0 : (0 : Int) ≤ (p : Int) := Int.natCast_nonneg _
                              have hp1 : (p : Int) < (L : Int) := by omega
                              have hq0 : (0 : Int) ≤ (ip : Int) := Int.natCast_nonneg _
                              have hq1 : (ip : Int) < (L : Int) := by omega
                              have hdd : decide ((p : Int) < (L : Int)) = true := by simp; omega
                              have hde : decide ((na : Int) < (node : Int)) = false := by simp; omega
                              have hdf : decide (na < node) = false := by simp; omega
                              clear hpr x2
                              go_wp2
                              exact ⟨⟨p, node + 1, by omega, by go_num, HZM.out, rfl, by first | trivial | rfl⟩, by simp only [intOf]; omega⟩
                            · as_aux_lemma =>
                              have hdd : decide ((p : Int) < (L : Int)) = false := by simp; omega
                              have hde : decide (p < L) = false := by simp; omega
                              go_wp2
                              exact ⟨⟨p, node + 1, by omega, by go_num, HZM.out, rfl, by first | trivial | rfl⟩, by simp only [intOf]; omega⟩
                      · as_aux_lemma =>
                        obtain rfl : node = mn + 1 := by omega
                        clear hp
                        go_wp2_with fail
                        go_loopw [36] (fun jv wr => ∃ j q : Nat, j ≤ L ∧ jv = .int .i64 j ∧ wr = w8.drewN q) (fun jv _ => L - (intOf jv).toNat)
                        case atStart => exact ⟨0, 0, Nat.zero_le _, rfl, rfl⟩
                        case round =>
                          as_aux_lemma =>
                          obtain ⟨j, q', hj, rfl, rfl⟩ := hrel
                          by_cases hlt2 : j < L
                          · as_aux_lemma =>
                            obtain ⟨i1, i2⟩ := HIR.out j hlt2
                            rcases HSH3.out with e | ⟨g, rfl, hpr⟩
                            · have h1 := HPLe.out
                              rw [e] at h1
                              simp at h1
                              omega
                            obtain ⟨x1, x2⟩ := hpr (I j) i2
                            have x3 := HLN.out j hlt2
                            rw [HLK.out j hlt2] at x3
                            generalize nB P (I j) = zl at *
                            generalize I j = ip at *
                            have hzz : ((zl : Int) != (zl : Int)) = false := by simp
                            have hj0 : (0 : Int) ≤ (j : Int) := Int.natCast_nonneg _
                            have hj1 : (j : Int) < (L : Int) := by omega
                            have hq0 : (0 : Int) ≤ (ip : Int) := Int.natCast_nonneg _
                            have hq1 : (ip : Int) < (L : Int) := by omega
                            clear hpr x1
                            go_wp2
                            go_quiet (fail)
                            go_wp2
                            exact ⟨⟨j + 1, q' + nq, hlt2, by go_num, rfl⟩, by simp only [intOf]; omega⟩
                          · as_aux_lemma =>
                            obtain rfl : j = L := by omega
                            go_wp2
                            go_ret
                            exact ⟨rfl, HB3.out.trans (dr_below _ _ _)⟩
          · as_aux_lemma =>
            have hne : ((n : Int) != (m : Int)) = true := by simp; omega
            go_wp2
            go_ret
            exact ⟨rfl, HB0.out⟩
      · go_wp2
        go_ret
        exact ⟨rfl, HB0.out⟩
    · go_wp2
      go_ret
      exact ⟨rfl, HB0.out⟩

end Go.Proofs.Qxb6608903a.Ix
