/-
  Law 5: the index of the spellings turned round is the index of the spellings.
-/
import Derived.Test.Qxb6608903aLw
import Derived.Test.Qxb6608903aIx
namespace Go.Proofs.Qxb6608903a.Ix
open Go.RowKit Plain Mem Go.Sort Lk
open U hiding hid
open TrieG
set_option linter.unusedVariables false

set_option maxHeartbeats 400000 in
theorem index18 (w : World) (b n scap : Nat) (str : Nat → ByteArray) (ch : Nat → Int) (hn : n ≤ 65536) (hstr : ∀ j, j < n → (str j).size ≤ 1048576) (hsp : SpAt w b n str ch) (htot : lenTo (tsT str n) n ≤ 1048576) :
    Calls Try.prog 18 #[.slice (some ⟨b, 0, none⟩) n scap] w fun e w' => Indexed w n str ch e w' := by
  have HC := hid (index_any w b n scap str ch hn hstr hsp htot)
  clear hstr hsp htot
  go_enter Try.func18, Try.ntmps18
  go_wp2_with fail
  refine HC.out.mono ?_
  rintro e w1 ⟨M, N, px, gn, cn, gn', cn', gs, gl, R, rfl, h1, h2⟩
  have HF : Hid (Indexed w n str ch (.returned (.pointer (some ⟨px, 0, none⟩))) w1) := ⟨M, N, px, gn, cn, gn', cn', gs, gl, R, rfl, h1, h2⟩
  clear h1 h2 HC
  go_wp2
  go_ret
  exact HF.out

def True5 (w : World) (e : Ending) (w' : World) : Prop := e = .returned (.bool true) ∧ Below w.heap.size w w'

set_option maxHeartbeats 60000000 in
set_option maxRecDepth 100000 in
theorem law5 (w : World) (ta ca : Option Addr) (tcap ccap n m : Nat) (k : Int) (str : Nat → ByteArray) (ch : Nat → Int) (hst : StAt w ta n str) (hin : InAt w ca m ch) :
    Calls Try.prog 5 #[.slice ta n tcap, .slice ca m ccap, .int .i64 k] w fun e w' => True5 w e w' := by
  have HST := hid hst
  have HIN := hid hin
  have HBY := hid (bytes16 w ta ca tcap m ccap n k str hst)
  clear hst hin
  go_enter Try.func5, Try.ntmps5
  go_wp2_with fail
  refine HBY.out.mono ?_
  rintro e w0 ⟨bb, q, rfl, rfl⟩
  clear HBY
  cases bb with
  | false =>
    go_wp2
    go_ret
    exact ⟨rfl, dr_below _ _ _⟩
  | true =>
    have HB0 : Hid (Below w.heap.size w (w.drewN q)) := dr_below _ _ _
    have HST0 : Hid (StAt (w.drewN q) ta n str) := HST.out
    have HIN0 : Hid (InAt (w.drewN q) ca m ch) := HIN.out
    clear HST HIN
    generalize w.drewN q = w1 at *
    by_cases hn : n ≤ 65536
    · as_aux_lemma =>
      by_cases hm : m ≤ 65536
      · as_aux_lemma =>
        have hd1 : decide ((65536 : Int) < (n : Int)) = false := by simp; omega
        have hd2 : decide ((65536 : Int) < (m : Int)) = false := by simp; omega
        go_upto_block 0 with fail
        go_cut [7] (fun _ wx => wx = w1 ∧ (∀ j, j < n → (str j).size ≤ 1048576) ∧ szTo str n ≤ 1048576)
        case first =>
          as_aux_lemma =>
          go_wp2_with fail
          go_loopw [7, 8] (fun sv iv wr => ∃ i : Nat, i ≤ n ∧ iv = .int .i64 i ∧ sv = .int .i64 ((8 * m + szTo str i : Nat) : Int) ∧ 8 * m + szTo str i ≤ 1048576 ∧ wr = w1 ∧ ∀ j, j < i → (str j).size ≤ 1048576) (fun _ iv _ => n - (intOf iv).toNat)
          case atStart => exact ⟨0, Nat.zero_le _, rfl, by simp [szTo], by show 8 * m + 0 ≤ _; omega, rfl, fun j hj => by omega⟩
          case round =>
            as_aux_lemma =>
            obtain ⟨i, hi, rfl, rfl, hle, rfl, hall⟩ := hrel
            have HALL := hid hall
            clear hall
            by_cases hlt : i < n
            · rcases HST0.out with e | ⟨b, off, rfl, htx⟩
              · omega
              · have x2 : wr.cell? ⟨b, off + i, none⟩ = some (.string (str i)) := htx _ hlt
                clear htx
                obtain ⟨z, hz⟩ : ∃ z, 8 * m + szTo str i = z := ⟨_, rfl⟩
                rw [hz] at hle ⊢
                have HZ := hid hz
                clear hz
                by_cases h1 : (str i).size ≤ 1048576
                · by_cases h2 : z + (16 + (str i).size) ≤ 1048576
                  · go_wp2
                    exact ⟨⟨i + 1, by omega, by go_num, by have := HZ.out; show _ = Value.int .i64 ((8 * m + (szTo str i + (16 + (str i).size)) : Nat) : Int); congr 1; omega, by have := HZ.out; show 8 * m + (szTo str i + (16 + (str i).size)) ≤ _; omega, by simp, fun j hj => by
                      by_cases e : j = i
                      · rw [e]; exact h1
                      · exact HALL.out j (by omega)⟩, by simp only [intOf]; omega⟩
                  · go_wp2
                    go_ret
                    exact ⟨rfl, HB0.out⟩
                · go_wp2
                  go_ret
                  exact ⟨rfl, HB0.out⟩
            · as_aux_lemma =>
              obtain rfl : i = n := by omega
              have HSZ : Hid (szTo str i ≤ 1048576) := by
                show szTo str i ≤ 1048576
                omega
              clear hle
              go_wp2
              go_meet
              case rel => exact ⟨rfl, HALL.out, HSZ.out⟩
        case rest =>
          as_aux_lemma =>
          obtain ⟨rfl, hall, hsz⟩ := hcut
          have HALL := hid hall
          have HSZ := hid hsz
          clear hall hsz
          by_cases hnm : n = m
          · as_aux_lemma =>
            subst hnm
            by_cases hk0 : 0 ≤ k
            · as_aux_lemma =>
              by_cases hkn : k ≤ n
              · as_aux_lemma =>
                obtain ⟨kk, rfl⟩ : ∃ kk : Nat, k = kk := ⟨k.toNat, by omega⟩
                have hkk : kk ≤ n := by omega
                have hd3 : decide ((kk : Int) < 0) = false := by simp
                have hd5 : decide (n < kk) = false := by simp; omega
                have hd4 : decide ((n : Int) < (kk : Int)) = false := by simp; omega
                have hmk := make38 n hn
                generalize wc = w1 at *
                have HGT := hid (GT.start w1 n kk hn str ch)
                have HLEN : Hid (lenTo (tsT str n) n ≤ 1048576) := Nat.le_trans (len_sz str n n (Nat.le_refl _)) HSZ.out
                have hne : ((n : Int) != (n : Int)) = false := by simp
                go_upto_block 2 with fail
                go_cut [12] (fun wv wx => wv = .int .i64 ((2 * lenTo (tsT str n) n + n : Nat) : Int) ∧ GT w1 wx n n kk str ch)
                case first =>
                  as_aux_lemma =>
                  go_wp2_with fail
                  go_loopw [12, 13] (fun wv iv wr => ∃ i : Nat, i ≤ n ∧ iv = .int .i64 i ∧ wv = .int .i64 ((2 * lenTo (tsT str n) i + i : Nat) : Int) ∧ GT w1 wr n i kk str ch) (fun _ iv _ => n - (intOf iv).toNat)
                  case atStart => exact ⟨0, Nat.zero_le _, rfl, rfl, HGT.out⟩
                  case round =>
                    as_aux_lemma =>
                    clear HGT hmk
                    obtain ⟨i, hi, rfl, rfl, hG⟩ := hrel
                    have HG := hid hG
                    by_cases hlt : i < n
                    · as_aux_lemma =>
                      obtain ⟨zz, hzz⟩ : ∃ zz, 2 * lenTo (tsT str n) i + i = zz := ⟨_, rfl⟩
                      have hzb : zz ≤ 2162688 := by
                        have h1 : lenTo (tsT str n) i ≤ lenTo (tsT str n) n := lenTo_mono _ hi
                        have h2 := HLEN.out
                        omega
                      have HZZ := hid hzz
                      rw [hzz]
                      clear hzz
                      rcases HST0.out with e | ⟨b, off, rfl, htx⟩
                      · omega
                      rcases HIN0.out with e | ⟨b2, off2, rfl, hcx⟩
                      · omega
                      have HTX := hid htx
                      have HCX := hid hcx
                      have x1 : wr.cell? ⟨b, off + i, none⟩ = some (.string (str i)) := by rw [hG.bel.cell (old_of (htx _ hlt))]; exact htx _ hlt
                      have x2 : wr.cell? ⟨b2, off2 + i, none⟩ = some (.int .i64 (ch i)) := by rw [hG.bel.cell (old_of (hcx _ hlt))]; exact hcx _ hlt
                      obtain ⟨⟨v1, hv1⟩, ⟨v2, hv2⟩, hfz⟩ := hG.g.at hlt
                      have hf1 := hfz (i * 2)
                      have hf2 := hfz (i * 2 + 1)
                      have hi0 : (0 : Int) ≤ (i : Int) := Int.natCast_nonneg _
                      have hi1 : (i : Int) < (n : Int) := by omega
                      have hgl : w1.heap.size < wr.heap.size := hG.g.lt
                      have hgl2 : w1.heap.size + 1 < wr.heap.size := hG.t.lt
                      clear htx hcx hfz hG
                      go_upto_region 25 with fail
                      have nb1 : ¬ (b = w1.heap.size) := by have := old_of (HTX.out i hlt); simp at this; omega
                      have nb2 : ¬ (b2 = w1.heap.size) := by have := old_of (HCX.out i hlt); simp at this; omega
                      have nb5 : b < wr.heap.size := old_of x1
                      have nb6 : b2 < wr.heap.size := old_of x2
                      have kb : ∀ g, g < wr.heap.size → g ≠ w1.heap.size → ((((wr.setCell ⟨w1.heap.size, i * 2, none⟩ (.string (str i))).setCell ⟨w1.heap.size, i * 2 + 1, none⟩ (.int .i64 (ch i))).alloc (.cells #[.string (str i), .int .i64 (ch i)] 40))).heap[g]? = wr.heap[g]? := fun g h1 h2 => by
                        rw [Below.heap_alloc _ _ _ (by simpa using h1), Below.heap_setCell _ _ _ _ h2, Below.heap_setCell _ _ _ _ h2]
                      have k1 := fcell (kb b nb5 nb1) x1
                      have k2 := fcell (kb b2 nb6 nb2) x2
                      clear kb
                      go_region_held3 (fun w' => w'.cell? ⟨b, off + i, none⟩ = some (.string (str i)) ∧ w'.cell? ⟨b2, off2 + i, none⟩ = some (.int .i64 (ch i))) (go_keep)
                        (first | (go_at_call 17; refine (spell17 _ _ _).mono ?_; rintro e w' ⟨rfl, rfl⟩))
                      generalize hE2 : (((wr.setCell ⟨w1.heap.size, i * 2, none⟩ (.string (str i))).setCell ⟨w1.heap.size, i * 2 + 1, none⟩ (.int .i64 (ch i))).alloc (.cells #[.string (str i), .int .i64 (ch i)] 40)).drew = w2
                      have HE2 := hid hE2.symm
                      have hs2 : w1.heap.size + 1 < w2.heap.size := by rw [← hE2]; simp; omega
                      clear hE2 hv1 hv2 hf1 hf2 x1 x2 hgl hgl2 nb1 nb2 nb5 nb6 k1 k2
                      by_cases hik : i + kk < n
                      · as_aux_lemma =>
                        have hGe2 : w2.heap[w1.heap.size + 1]? = wr.heap[w1.heap.size + 1]? := by
                          rw [HE2.out]
                          show ((((wr.setCell ⟨w1.heap.size, i * 2, none⟩ (.string (str i))).setCell ⟨w1.heap.size, i * 2 + 1, none⟩ (.int .i64 (ch i))).alloc (.cells #[.string (str i), .int .i64 (ch i)] 40))).heap[w1.heap.size + 1]? = _
                          have hl := HG.out.t.lt
                          rw [Below.heap_alloc _ _ _ (by simp; omega), Below.heap_setCell _ _ _ _ (by show w1.heap.size + 1 ≠ w1.heap.size; omega), Below.heap_setCell _ _ _ _ (by show w1.heap.size + 1 ≠ w1.heap.size; omega)]
                        obtain ⟨⟨v3, hv3⟩, ⟨v4, hv4⟩, hfz2⟩ := (HG.out.t.of_block hGe2).at hlt
                        have hf3 := hfz2 (i * 2)
                        have hf4 := hfz2 (i * 2 + 1)
                        have hbe2 : Below w1.heap.size w1 w2 := by
                          rw [HE2.out]
                          exact (((HG.out.bel.setCell (Nat.le_refl _) _).setCell (Nat.le_refl _) _).alloc (by have := HG.out.bel.size; simpa using this) _).drew
                        have HBE2 := hid hbe2
                        have hr := rot_lt hkk hlt
                        have y1 : w2.cell? ⟨b, off + rot n kk i, none⟩ = some (.string (str (rot n kk i))) := by rw [hbe2.cell (old_of (HTX.out _ hr))]; exact HTX.out _ hr
                        have y2 : w2.cell? ⟨b2, off2 + rot n kk i, none⟩ = some (.int .i64 (ch (rot n kk i))) := by rw [hbe2.cell (old_of (HCX.out _ hr))]; exact HCX.out _ hr
                        generalize hrr : rot n kk i = r at *
                        have HRR := hid hrr
                        have hr0 : (0 : Int) ≤ (r : Int) := Int.natCast_nonneg _
                        have hr1 : (r : Int) < (n : Int) := by omega
                        clear hfz2 hGe2 hbe2
                        have er : (i : Int) + (kk : Int) = (r : Int) := by have := HRR.out; unfold rot at this; rw [if_pos hik] at this; omega
                        clear hrr
                        go_upto_region 29 with fail
                        have nb1 : ¬ (b = w1.heap.size + 1) := by have := old_of (HTX.out i hlt); simp at this; omega
                        have nb2 : ¬ (b2 = w1.heap.size + 1) := by have := old_of (HCX.out i hlt); simp at this; omega
                        have nb5 : b < w2.heap.size := old_of y1
                        have nb6 : b2 < w2.heap.size := old_of y2
                        have kb : ∀ g, g < w2.heap.size → g ≠ w1.heap.size + 1 → ((((w2.setCell ⟨w1.heap.size + 1, i * 2, none⟩ (.string (str r))).setCell ⟨w1.heap.size + 1, i * 2 + 1, none⟩ (.int .i64 (ch r))).alloc (.cells #[.string (str r), .int .i64 (ch r)] 40))).heap[g]? = w2.heap[g]? := fun g h1 h2 => by
                          rw [Below.heap_alloc _ _ _ (by simpa using h1), Below.heap_setCell _ _ _ _ h2, Below.heap_setCell _ _ _ _ h2]
                        have k1 := fcell (kb b nb5 nb1) y1
                        have k2 := fcell (kb b2 nb6 nb2) y2
                        clear kb
                        go_region_held3 (fun w' => w'.cell? ⟨b, off + r, none⟩ = some (.string (str r)) ∧ w'.cell? ⟨b2, off2 + r, none⟩ = some (.int .i64 (ch r))) (go_keep)
                          (first | (go_at_call 17; refine (spell17 _ _ _).mono ?_; rintro e w' ⟨rfl, rfl⟩))
                        · as_aux_lemma =>
                          clear k1 k2 nb1 nb2 nb5 nb6 hs2
                          generalize hE3 : (((w2.setCell ⟨w1.heap.size + 1, i * 2, none⟩ (.string (str r))).setCell ⟨w1.heap.size + 1, i * 2 + 1, none⟩ (.int .i64 (ch r))).alloc (.cells #[.string (str r), .int .i64 (ch r)] 40)).drew = wc
                          have HE3 := hid hE3.symm
                          clear hE3 hv3 hv4 hf3 hf4 y1 y2
                          have HG2 : Hid (GT w1 wc n (i + 1) kk str ch) := by
                            have h3 := HE3.out
                            have hrr := HRR.out
                            subst hrr
                            exact HG.out.step hlt _ _ HE2.out h3
                          generalize wc = w3 at *
                          have x3 : w3.cell? ⟨b, off + i, none⟩ = some (.string (str i)) := by rw [HG2.out.bel.cell (old_of (HTX.out _ hlt))]; exact HTX.out _ hlt
                          have HRL : Hid ((runes (str i)).length ≤ 1048576) := by
                            have h1 := runes_len (str i)
                            have h2 := HALL.out i hlt
                            show _ ≤ _
                            omega
                          generalize hss : str i = s at *
                          have HSS := hid hss
                          clear hss
                          go_wp2_with fail
                          go_loopw [15] (fun mv wr => ∃ pos bb mm : Nat, wr = w3.iter s pos ∧ mv = .int .i64 mm ∧ mm + (rsL s bb pos).length = (runes s).length ∧ s.size ≤ pos + bb) (fun _ wr => s.size - wr.iterPos w3.heap.size)
                          case atStart => exact ⟨0, s.size, 0, rfl, rfl, by unfold runes; omega, by omega⟩
                          case round =>
                            as_aux_lemma =>
                            obtain ⟨pos, bb, mm, rfl, rfl, hcnt, hpb⟩ := hrel
                            have HCNT := hid hcnt
                            have hmm : mm ≤ 1048576 := by have := HRL.out; omega
                            clear hcnt
                            by_cases hp : pos < s.size
                            · as_aux_lemma =>
                              have hnx : ∀ ty, (Instr.next (.pointer (some ⟨w3.heap.size, 0, none⟩)) true ty).run Try.prog (w3.iter s pos) = _ := fun ty => run_next_any w3 s pos ty hp
                              go_wp2
                              have hwd := width_pos s pos hp
                              go_roundw
                              case rel =>
                                have hc := HCNT.out
                                cases bb with
                                | zero => omega
                                | succ bb =>
                                  refine ⟨pos + (Utf8.decode s pos).2, bb, mm + 1, rfl, by go_num, ?_, by omega⟩
                                  unfold rsL at hc
                                  rw [if_pos hp] at hc
                                  simp at hc
                                  omega
                              case measure =>
                                simp
                                omega
                            · as_aux_lemma =>
                              have hnx : ∀ ty, (Instr.next (.pointer (some ⟨w3.heap.size, 0, none⟩)) true ty).run Try.prog (w3.iter s pos) = _ := fun ty => run_next_end w3 s pos ty hp
                              have hme : mm = (runes s).length := by have := HCNT.out; rw [rsL_end s bb pos hp] at this; simpa using this
                              have HME := hid hme
                              clear hme
                              go_wp2
                              go_roundw
                              case rel =>
                                refine ⟨i + 1, hlt, by go_num, ?_, HG2.out.below (iter_below _ _ _ _ (Nat.le_refl _))⟩
                                have h1 : lenTo (tsT str n) (i + 1) = lenTo (tsT str n) i + (tx (tsT str n) i).length := rfl
                                have h2 := HZZ.out
                                have h3 := HME.out
                                rw [tsT_at str hlt, HSS.out] at h1
                                congr 1
                                omega
                              case measure => simp only [intOf]; omega
                      · as_aux_lemma =>
                        have hGe2 : w2.heap[w1.heap.size + 1]? = wr.heap[w1.heap.size + 1]? := by
                          rw [HE2.out]
                          show ((((wr.setCell ⟨w1.heap.size, i * 2, none⟩ (.string (str i))).setCell ⟨w1.heap.size, i * 2 + 1, none⟩ (.int .i64 (ch i))).alloc (.cells #[.string (str i), .int .i64 (ch i)] 40))).heap[w1.heap.size + 1]? = _
                          have hl := HG.out.t.lt
                          rw [Below.heap_alloc _ _ _ (by simp; omega), Below.heap_setCell _ _ _ _ (by show w1.heap.size + 1 ≠ w1.heap.size; omega), Below.heap_setCell _ _ _ _ (by show w1.heap.size + 1 ≠ w1.heap.size; omega)]
                        obtain ⟨⟨v3, hv3⟩, ⟨v4, hv4⟩, hfz2⟩ := (HG.out.t.of_block hGe2).at hlt
                        have hf3 := hfz2 (i * 2)
                        have hf4 := hfz2 (i * 2 + 1)
                        have hbe2 : Below w1.heap.size w1 w2 := by
                          rw [HE2.out]
                          exact (((HG.out.bel.setCell (Nat.le_refl _) _).setCell (Nat.le_refl _) _).alloc (by have := HG.out.bel.size; simpa using this) _).drew
                        have HBE2 := hid hbe2
                        have hr := rot_lt hkk hlt
                        have y1 : w2.cell? ⟨b, off + rot n kk i, none⟩ = some (.string (str (rot n kk i))) := by rw [hbe2.cell (old_of (HTX.out _ hr))]; exact HTX.out _ hr
                        have y2 : w2.cell? ⟨b2, off2 + rot n kk i, none⟩ = some (.int .i64 (ch (rot n kk i))) := by rw [hbe2.cell (old_of (HCX.out _ hr))]; exact HCX.out _ hr
                        generalize hrr : rot n kk i = r at *
                        have HRR := hid hrr
                        have hr0 : (0 : Int) ≤ (r : Int) := Int.natCast_nonneg _
                        have hr1 : (r : Int) < (n : Int) := by omega
                        clear hfz2 hGe2 hbe2
                        have hrs : rot n kk i = i + kk - n := by unfold rot; rw [if_neg hik]
                        rw [HRR.out] at hrs
                        obtain ⟨sk, hsk⟩ : ∃ sk : Nat, sk = i + kk := ⟨_, rfl⟩
                        have er : (i : Int) + (kk : Int) = (sk : Int) := by omega
                        have er2 : (sk : Int) - (n : Int) = (r : Int) := by omega
                        have hns : (n : Int) ≤ (sk : Int) := by omega
                        have hsb : (sk : Int) ≤ 131072 := by omega
                        clear hrr hrs hsk
                        go_upto_region 29 with fail
                        have nb1 : ¬ (b = w1.heap.size + 1) := by have := old_of (HTX.out i hlt); simp at this; omega
                        have nb2 : ¬ (b2 = w1.heap.size + 1) := by have := old_of (HCX.out i hlt); simp at this; omega
                        have nb5 : b < w2.heap.size := old_of y1
                        have nb6 : b2 < w2.heap.size := old_of y2
                        have kb : ∀ g, g < w2.heap.size → g ≠ w1.heap.size + 1 → ((((w2.setCell ⟨w1.heap.size + 1, i * 2, none⟩ (.string (str r))).setCell ⟨w1.heap.size + 1, i * 2 + 1, none⟩ (.int .i64 (ch r))).alloc (.cells #[.string (str r), .int .i64 (ch r)] 40))).heap[g]? = w2.heap[g]? := fun g h1 h2 => by
                          rw [Below.heap_alloc _ _ _ (by simpa using h1), Below.heap_setCell _ _ _ _ h2, Below.heap_setCell _ _ _ _ h2]
                        have k1 := fcell (kb b nb5 nb1) y1
                        have k2 := fcell (kb b2 nb6 nb2) y2
                        clear kb
                        go_region_held3 (fun w' => w'.cell? ⟨b, off + r, none⟩ = some (.string (str r)) ∧ w'.cell? ⟨b2, off2 + r, none⟩ = some (.int .i64 (ch r))) (go_keep)
                          (first | (go_at_call 17; refine (spell17 _ _ _).mono ?_; rintro e w' ⟨rfl, rfl⟩))
                        · as_aux_lemma =>
                          clear k1 k2 nb1 nb2 nb5 nb6 hs2
                          generalize hE3 : (((w2.setCell ⟨w1.heap.size + 1, i * 2, none⟩ (.string (str r))).setCell ⟨w1.heap.size + 1, i * 2 + 1, none⟩ (.int .i64 (ch r))).alloc (.cells #[.string (str r), .int .i64 (ch r)] 40)).drew = wc
                          have HE3 := hid hE3.symm
                          clear hE3 hv3 hv4 hf3 hf4 y1 y2
                          have HG2 : Hid (GT w1 wc n (i + 1) kk str ch) := by
                            have h3 := HE3.out
                            have hrr := HRR.out
                            subst hrr
                            exact HG.out.step hlt _ _ HE2.out h3
                          generalize wc = w3 at *
                          have x3 : w3.cell? ⟨b, off + i, none⟩ = some (.string (str i)) := by rw [HG2.out.bel.cell (old_of (HTX.out _ hlt))]; exact HTX.out _ hlt
                          have HRL : Hid ((runes (str i)).length ≤ 1048576) := by
                            have h1 := runes_len (str i)
                            have h2 := HALL.out i hlt
                            show _ ≤ _
                            omega
                          generalize hss : str i = s at *
                          have HSS := hid hss
                          clear hss
                          go_wp2_with fail
                          go_loopw [15] (fun mv wr => ∃ pos bb mm : Nat, wr = w3.iter s pos ∧ mv = .int .i64 mm ∧ mm + (rsL s bb pos).length = (runes s).length ∧ s.size ≤ pos + bb) (fun _ wr => s.size - wr.iterPos w3.heap.size)
                          case atStart => exact ⟨0, s.size, 0, rfl, rfl, by unfold runes; omega, by omega⟩
                          case round =>
                            as_aux_lemma =>
                            obtain ⟨pos, bb, mm, rfl, rfl, hcnt, hpb⟩ := hrel
                            have HCNT := hid hcnt
                            have hmm : mm ≤ 1048576 := by have := HRL.out; omega
                            clear hcnt
                            by_cases hp : pos < s.size
                            · as_aux_lemma =>
                              have hnx : ∀ ty, (Instr.next (.pointer (some ⟨w3.heap.size, 0, none⟩)) true ty).run Try.prog (w3.iter s pos) = _ := fun ty => run_next_any w3 s pos ty hp
                              go_wp2
                              have hwd := width_pos s pos hp
                              go_roundw
                              case rel =>
                                have hc := HCNT.out
                                cases bb with
                                | zero => omega
                                | succ bb =>
                                  refine ⟨pos + (Utf8.decode s pos).2, bb, mm + 1, rfl, by go_num, ?_, by omega⟩
                                  unfold rsL at hc
                                  rw [if_pos hp] at hc
                                  simp at hc
                                  omega
                              case measure =>
                                simp
                                omega
                            · as_aux_lemma =>
                              have hnx : ∀ ty, (Instr.next (.pointer (some ⟨w3.heap.size, 0, none⟩)) true ty).run Try.prog (w3.iter s pos) = _ := fun ty => run_next_end w3 s pos ty hp
                              have hme : mm = (runes s).length := by have := HCNT.out; rw [rsL_end s bb pos hp] at this; simpa using this
                              have HME := hid hme
                              clear hme
                              go_wp2
                              go_roundw
                              case rel =>
                                refine ⟨i + 1, hlt, by go_num, ?_, HG2.out.below (iter_below _ _ _ _ (Nat.le_refl _))⟩
                                have h1 : lenTo (tsT str n) (i + 1) = lenTo (tsT str n) i + (tx (tsT str n) i).length := rfl
                                have h2 := HZZ.out
                                have h3 := HME.out
                                rw [tsT_at str hlt, HSS.out] at h1
                                congr 1
                                omega
                              case measure => simp only [intOf]; omega
                    · as_aux_lemma =>
                      obtain rfl : i = n := by omega
                      clear hG
                      go_wp2
                      go_meet
                      case rel => exact ⟨rfl, HG.out⟩
                case rest =>
                  as_aux_lemma =>
                  obtain ⟨rfl, hG⟩ := hcut
                  have HI1 := hid (index18 wc w1.heap.size n n str ch hn HALL.out hG.g.all HLEN.out)
                  have HG := hid hG
                  obtain ⟨L, hL⟩ : ∃ L, 2 * lenTo (tsT str n) n + n = L := ⟨_, rfl⟩
                  rw [hL]
                  have HL := hid hL
                  clear hG HGT hmk hL
                  go_wp2_with fail
                  refine HI1.out.mono ?_
                  rintro e w5 ⟨M, N, px, gn, cn, gn', cn', gs, gl, R, rfl, hIX, hb5⟩
                  have hSp2 : SpAt w5 (w1.heap.size + 1) n (fun j => str (rot n kk j)) (fun j => ch (rot n kk j)) := (HG.out.t.of_block (hb5.block _ HG.out.t.lt)).all
                  have HI2 := hid (index18 w5 (w1.heap.size + 1) n n (fun j => str (rot n kk j)) (fun j => ch (rot n kk j)) hn (fun j hj => HALL.out _ (rot_lt hkk hj)) hSp2 (by rw [lenTo_rot str hkk]; exact HLEN.out))
                  have HIX := hid hIX
                  have HB5 := hid hb5
                  clear hIX hb5 hSp2 HI1
                  go_wp2_with fail
                  refine HI2.out.mono ?_
                  rintro e w6 ⟨M', N', px', gn2, cn2, gn2', cn2', gs', gl', R', rfl, hIX', hb6⟩
                  have eM : M = M' := BF.unique (bldTo_tr _ _) (bldTo_tr _ _) HIX.out.bm hIX'.bm (fun u => by rw [tsT_len, tsT_len]; exact (bld_rot str hkk u).symm)
                  have eN : N = N' := BF.unique (bldTo_tr _ _) (bldTo_tr _ _) HIX.out.bn hIX'.bn (fun u => by rw [tsV_len, tsV_len]; exact (bldV_rot str hkk u).symm)
                  subst eM
                  subst eN
                  have HA : Hid (IX w6 (tsT str n) (tsV str n) M N (prS M N (tsT str n) ch n) px gn cn gn' cn' gs gl R) := HIX.out.below hb6
                  have HB := hid hIX'
                  have HPM := hid (prS_rot M N str ch hkk)
                  have HTP : Hid ((bldTo (tsT str n) (tsT str n).length).Perm (bldTo (tsT (fun j => str (rot n kk j)) n) (tsT (fun j => str (rot n kk j)) n).length)) := bld_perm (bldTo_tr _ _) (bldTo_tr _ _) (fun u => by rw [tsT_len, tsT_len]; exact (bld_rot str hkk u).symm)
                  have HVP : Hid ((bldTo (tsV str n) (tsV str n).length).Perm (bldTo (tsV (fun j => str (rot n kk j)) n) (tsV (fun j => str (rot n kk j)) n).length)) := bld_perm (bldTo_tr _ _) (bldTo_tr _ _) (fun u => by rw [tsV_len, tsV_len]; exact (bldV_rot str hkk u).symm)
                  have HBL : Hid (Below w.heap.size w w6) := by
                    have h1 := HB0.out
                    have h2 := HG.out.bel
                    have h3 := HB5.out
                    have s1 := h1.size
                    have s2 := h2.size
                    have s3 := h3.size
                    exact ((h1.trans (h2.mono s1)).trans (h3.mono (by omega))).trans (hb6.mono (by omega))
                  have hM := hIX'.hm
                  have hN := hIX'.hn
                  have hPl : (prS M N (tsT str n) ch n).length = L := by rw [prS_len]; exact HL.out
                  have hPl' : (prS M N (tsT (fun j => str (rot n kk j)) n) (fun j => ch (rot n kk j)) n).length = L := by rw [HPM.out.length_eq]; exact hPl
                  have hLb : L ≤ 2162688 := by rw [← hPl]; exact HA.out.pl
                  obtain ⟨N1, hN1⟩ : ∃ N1 : Nat, N1 = M.length + 1 := ⟨_, rfl⟩
                  have c2 : w6.cell? ⟨px, 2, none⟩ = some (.slice (some ⟨gs, 0, none⟩) N1 N1) := by rw [hN1]; exact HA.out.c2
                  have c2' : w6.cell? ⟨px', 2, none⟩ = some (.slice (some ⟨gs', 0, none⟩) N1 N1) := by rw [hN1]; exact HB.out.c2
                  have c3 : w6.cell? ⟨px, 3, none⟩ = some (.slice (some ⟨gl, 0, none⟩) L L) := by have := HA.out.c3; rw [hPl] at this; exact this
                  have c3' : w6.cell? ⟨px', 3, none⟩ = some (.slice (some ⟨gl', 0, none⟩) L L) := by have := HB.out.c3; rw [hPl'] at this; exact this
                  have HS1 : Hid (∀ i, i < N1 → w6.cell? ⟨gs, i, none⟩ = some (.int .i32 (blw (prS M N (tsT str n) ch n) i : Nat)) ∧ w6.cell? ⟨gs', i, none⟩ = some (.int .i32 (blw (prS M N (tsT str n) ch n) i : Nat))) := fun i hi => by
                    refine ⟨HA.out.st.cell (by omega), ?_⟩
                    have h := HB.out.st.cell (i := i) (by omega)
                    unfold stF at h
                    rw [blw_perm HPM.out] at h
                    exact h
                  have HS2 : Hid (∀ i, i < L → w6.cell? ⟨gl, i, none⟩ = some (.int .u64 (R i)) ∧ w6.cell? ⟨gl', i, none⟩ = some (.int .u64 (R i))) := fun i hi => by
                    refine ⟨HA.out.ln.cell (by omega), ?_⟩
                    have h := HB.out.ln.cell (i := i) (by omega)
                    unfold rowU at h
                    have hu := HA.out.dn.unique HB.out.dn HPM.out.symm i (by
                      rw [blw_all _ M.length (prS_node (fun j b hj _ => takeM HA.out.bm hj b) n (by rw [tsT_len]; exact Nat.le_refl _))]
                      omega)
                    rw [← hu] at h
                    exact h
                  have HT1 := hid (fun q => same15 (w6.drewN q) px 0 gn cn px' 0 gn2 cn2 _ _ M (by omega) (HA.out.fw.drewN q) (HB.out.fw.drewN q) HTP.out)
                  have HT2 := hid (fun q => same15 (w6.drewN q) px 1 gn' cn' px' 1 gn2' cn2' _ _ N (by omega) (HA.out.bw.drewN q) (HB.out.bw.drewN q) HVP.out)
                  have HZS := hid (fun q => zzSize (w6.drewN q) px 0 gn cn _ M (HA.out.fw.drewN q))
                  have em : (M.length : Int) + 1 = (N1 : Int) := by omega
                  have hnn : ((N1 : Int) != (N1 : Int)) = false := by simp
                  have hll : ((L : Int) != (L : Int)) = false := by simp
                  have hN1b : N1 ≤ 1048578 := by omega
                  clear hIX' hb6 HI2 HIX HB5 HG HA HB HPM HTP HVP hPl hPl' hN1
                  generalize prS M N (tsT str n) ch n = P at *
                  go_wp2_with fail
                  refine (tries19 _ px).mono ?_
                  rintro e w7 ⟨rfl, q1, rfl⟩
                  go_wp2_with fail
                  refine (tries19 _ px').mono ?_
                  rintro e w7 ⟨rfl, q2, rfl⟩
                  go_wp2_with fail
                  refine (HT1.out (q1 + q2)).mono ?_
                  rintro e w7 ⟨rfl, q3, rfl⟩
                  go_wp2_with fail
                  refine (HT2.out (q1 + q2 + q3)).mono ?_
                  rintro e w7 ⟨rfl, q4, rfl⟩
                  go_wp2_with fail
                  refine (start20 (w6.drewN (q1 + q2 + q3 + q4)) px _ c2).mono ?_
                  rintro e w7 ⟨rfl, rfl⟩
                  go_wp2_with fail
                  refine (start20 (w6.drewN (q1 + q2 + q3 + q4)) px' _ c2').mono ?_
                  rintro e w7 ⟨rfl, rfl⟩
                  go_wp2_with fail
                  refine (HZS.out (q1 + q2 + q3 + q4)).mono ?_
                  rintro e w7 ⟨rfl, rfl⟩
                  go_wp2_with fail
                  go_loopw [24] (fun iv wr => ∃ i q : Nat, i ≤ N1 ∧ iv = .int .i64 i ∧ wr = w6.drewN q) (fun iv _ => N1 - (intOf iv).toNat)
                  case atStart => exact ⟨0, q1 + q2 + q3 + q4, Nat.zero_le _, rfl, rfl⟩
                  case round =>
                    as_aux_lemma =>
                    obtain ⟨i, q, hi, rfl, rfl⟩ := hrel
                    by_cases hlt : i < N1
                    · as_aux_lemma =>
                      obtain ⟨z1, z2⟩ := HS1.out i hlt
                      generalize blw P i = z at *
                      have hzz : ((z : Int) != (z : Int)) = false := by simp
                      have hi0 : (0 : Int) ≤ (i : Int) := Int.natCast_nonneg _
                      have hi1 : (i : Int) < (N1 : Int) := by omega
                      go_wp2
                      go_quiet (fail)
                      go_wp2
                      exact ⟨⟨i + 1, q + nq, hlt, by go_num, rfl⟩, by simp only [intOf]; omega⟩
                    · as_aux_lemma =>
                      obtain rfl : i = N1 := by omega
                      go_wp2_with fail
                      refine (links21 (w6.drewN q) px _ c3).mono ?_
                      rintro e w7 ⟨rfl, rfl⟩
                      go_wp2_with fail
                      refine (links21 (w6.drewN q) px' _ c3').mono ?_
                      rintro e w7 ⟨rfl, rfl⟩
                      go_wp2_with fail
                      go_loopw [27] (fun iv wr => ∃ j q : Nat, j ≤ L ∧ iv = .int .i64 j ∧ wr = w6.drewN q) (fun iv _ => L - (intOf iv).toNat)
                      case atStart => exact ⟨0, q, Nat.zero_le _, rfl, rfl⟩
                      case round =>
                        as_aux_lemma =>
                        obtain ⟨j, q', hj, rfl, rfl⟩ := hrel
                        by_cases hlt2 : j < L
                        · as_aux_lemma =>
                          obtain ⟨z1, z2⟩ := HS2.out j hlt2
                          generalize R j = z at *
                          have hzz : ((z : Int) != (z : Int)) = false := by simp
                          have hj0 : (0 : Int) ≤ (j : Int) := Int.natCast_nonneg _
                          have hj1 : (j : Int) < (L : Int) := by omega
                          go_wp2
                          go_quiet (fail)
                          go_wp2
                          exact ⟨⟨j + 1, q' + nq, hlt2, by go_num, rfl⟩, by simp only [intOf]; omega⟩
                        · as_aux_lemma =>
                          obtain rfl : j = L := by omega
                          go_wp2
                          go_ret
                          exact ⟨rfl, HBL.out.trans (dr_below _ _ _)⟩
              · go_wp2
                go_ret
                exact ⟨rfl, HB0.out⟩
            · go_wp2
              go_ret
              exact ⟨rfl, HB0.out⟩
          · as_aux_lemma =>
            have hne : ((n : Int) != (m : Int)) = true := by simp; omega
            go_wp2
            go_ret
            exact ⟨rfl, HB0.out⟩
      · go_wp2
        go_ret
        exact ⟨rfl, HB0.out⟩
    · go_wp2
      go_ret
      exact ⟨rfl, HB0.out⟩

end Go.Proofs.Qxb6608903a.Ix
