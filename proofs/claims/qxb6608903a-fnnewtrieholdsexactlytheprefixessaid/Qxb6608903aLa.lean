/-
  FnNewTrieHoldsExactlyThePrefixes (3): the walk.
-/
import Derived.Test.Qxb6608903aPg
namespace Go.Proofs.Qxb6608903a.CmpW
open Go.RowKit Plain Mem Go.Sort TrieW
open SortW hiding hid
set_option linter.unusedVariables false

theorem grown_below {w w' : World} (h : w.grownBy w' none) : Below w.heap.size w w' := ⟨h.os, h.tape, h.output, h.size, fun k hk => h.block k hk (by simp)⟩

set_option maxHeartbeats 4000000 in
set_option maxRecDepth 100000 in
theorem law3 (w : World) (ta : Option Addr) (cap : Nat) (T : List (List Int)) (h : TXs w ta T) : Calls Try.prog 3 #[.slice ta T.length cap] w fun e w' => e = .returned (.bool true) ∧ Below w.heap.size w w' := by
  have HTX := hid h
  have HB := hid (bytes7 w ta cap T h)
  clear h
  go_enter Try.func3, Try.ntmps3
  go_wp2_with fail
  refine HB.out.mono ?_
  rintro e w1 ⟨b, q, rfl, rfl⟩
  clear HB
  cases b
  · go_wp2
    go_ret
    exact ⟨rfl, dr_below _ _ _⟩
  by_cases hT : T.length ≤ 65536
  · go_wp2
    go_loopw [3, 4] (fun sv iv wr => ∃ i q : Nat, i ≤ T.length ∧ iv = .int .i64 i ∧ 24 * i + 4 * lenTo T i ≤ 1048576 ∧ (∀ j, j < i → (tx T j).length ≤ 262144) ∧ sv = .int .i64 (24 * i + 4 * lenTo T i : Nat) ∧ wr = w.drewN q) (fun _ iv _ => T.length - (intOf iv).toNat)
    case atStart => exact ⟨0, q, Nat.zero_le _, rfl, by simp [lenTo], fun j hj => absurd hj (by omega), rfl, rfl⟩
    case round =>
      obtain ⟨i, q2, hi, rfl, hs, hls, rfl, rfl⟩ := hrel
      have HLS := hid hls
      clear hls
      by_cases hlt : i < T.length
      · rcases HTX.out with e | ⟨b, off, A, C, rfl, htx⟩
        · rw [e] at hlt; exact absurd hlt (by simp)
        · have x2 : w.cell? ⟨b, off + i, none⟩ = some (.slice (A i) (tx T i).length (C i)) := htx.cell _ hlt
          clear htx
          have HLT : Hid (lenTo T (i + 1) = lenTo T i + (tx T i).length) := rfl
          by_cases h1 : (tx T i).length ≤ 262144
          · by_cases h2 : 24 * i + 4 * lenTo T i + (24 + 4 * (tx T i).length) ≤ 1048576
            · go_wp2
              refine ⟨⟨i + 1, q2, by omega, by go_num, by rw [HLT.out]; omega, ?_, ?_, rfl⟩, by simp [intOf]; omega⟩
              · intro j hj
                by_cases hji : j = i
                · subst hji; exact h1
                · exact HLS.out j (by omega)
              · rw [HLT.out]; go_num
            · go_wp2
              go_ret
              exact ⟨rfl, dr_below _ _ _⟩
          · go_wp2
            go_ret
            exact ⟨rfl, dr_below _ _ _⟩
      · obtain rfl : i = T.length := by omega
        have HTX2 := hid (HTX.out.same (dr_below w.heap.size w q2))
        have HNT := hid (zzNewTrie ta cap T (w.drewN q2) (by omega) (by omega) HTX2.out.texts)
        go_wp2_with fail
        refine HNT.out.mono ?_
        rintro e w1 ⟨M, p, gn, cn, rfl, hbf, htr, hp, hg, hbel⟩
        clear HNT
        have HTX3 := hid (HTX2.out.same hbel)
        have hb1 : RowKit.Below w.heap.size w w1 := (dr_below _ _ q2).trans hbel
        have hpl := htr.st.lt
        have hgl := htr.nod.lt
        have hML : M.length ≤ 2097153 := by
          have := hbf.le_S
          have := bldTo_len T T.length
          omega
        have hpos := hbf.pos
        have HBF := hid hbf
        have HTR := hid htr
        clear HTX2 HTX hbf htr hbel
        have HSZ := hid (zzSize w1 p gn cn (bldTo T T.length) M HTR.out)
        have HDP := hid (distinct w1 ta cap T (fun j hj => by have := HLS.out j hj; omega) (by omega) HTX3.out)
        go_wp2_with fail
        refine HSZ.out.mono ?_
        rintro e w2 ⟨rfl, rfl⟩
        clear HSZ
        go_wp2_with fail
        refine HDP.out.mono ?_
        rintro e w3 ⟨I, hperm, hord, rfl, hbel⟩
        clear HDP
        have hnl := nodes_len HBF.out hperm hord
        clear hperm hord
        generalize cntTo (fun p => tx T (I p)) T.length = c at hnl ⊢
        have hne : ((M.length : Int) != (1 + (c : Int))) = false := by rw [hnl]; simp
        have HTX4 := hid (HTX3.out.same hbel)
        have HTR4 := hid (HTR.out.below hbel hpl hgl)
        have hb3 : RowKit.Below w.heap.size w w3 := hb1.trans (hbel.mono hb1.size)
        have hpl4 : p < w3.heap.size := by have := hbel.size; omega
        have hgl4 : gn < w3.heap.size := by have := hbel.size; omega
        clear HTX3 HTR hbel
        have hcb : c ≤ 2097153 := by omega
        have HNL := hid hnl
        clear hnl
        have HND := hid (fun q j (hj : j < M.length) => zzNode (w3.drewN q) p gn cn (bldTo T T.length) M j hj hML (HTR4.out.drewN q))
        have HN0 : Hid (Calls Try.prog 11 #[.pointer (some ⟨p, 0, none⟩), .int .i64 0] w3 fun e w' => ∃ x1 x2 : Int, e = .returned (.tuple #[.int .i32 0, .int .i32 x1, .int .i32 x2]) ∧ ∃ q, w' = w3.drewN q) := by
          have := HND.out 0 0 hpos
          rw [HBF.out.head] at this
          exact this.mono fun e w' ⟨h1, h2⟩ => ⟨_, _, h1, h2⟩
        go_wp2_with fail
        refine HN0.out.mono ?_
        rintro e w5 ⟨x1, x2, rfl, q5, rfl⟩
        clear HN0
        go_wp2
        go_loopw [10, 11] (fun nv iv wr => ∃ i q : Nat, i ≤ M.length ∧ iv = .int .i64 i ∧ nv = .int .i64 (fst (bldTo T T.length) M i : Nat) ∧ wr = w3.drewN q) (fun _ iv _ => M.length - (intOf iv).toNat)
        case atStart => exact ⟨0, q5, Nat.zero_le _, rfl, rfl, rfl⟩
        case round =>
          obtain ⟨i, q6, hi6, rfl, rfl, rfl⟩ := hrel
          by_cases hlt6 : i < M.length
          · have hH := HND.out q6 i hlt6
            have htop := HBF.out.top hlt6
            have hgt := HBF.out.gt i hlt6
            have HASC := hid (fun k (h1 : fst (bldTo T T.length) M i + 1 ≤ k) (h2 : k < fst (bldTo T T.length) M i + cnt (bldTo T T.length) (M.getD i [])) => (show lastC (M.getD (k - 1) []) < lastC (M.getD k []) from by
              have := HBF.out.asc i (k - 1 - fst (bldTo T T.length) M i) hlt6 (by omega)
              have e1 : fst (bldTo T T.length) M i + (k - 1 - fst (bldTo T T.length) M i) = k - 1 := by omega
              rw [e1] at this
              have e2 : k - 1 + 1 = k := by omega
              rw [e2] at this
              exact this))
            have HFS : Hid (fst (bldTo T T.length) M (i + 1) = fst (bldTo T T.length) M i + cnt (bldTo T T.length) (M.getD i [])) := rfl
            generalize fst (bldTo T T.length) M i = f at *
            generalize cnt (bldTo T T.length) (M.getD i []) = k at *
            generalize lastC (M.getD i []) = lc at hH
            have HH := hid hH
            clear hH
            have f0 : ((f : Int) != (f : Int)) = false := by simp
            have f1 : (i : Int) < (f : Int) := by omega
            have f2 : (f : Int) + (k : Int) ≤ (M.length : Int) := by omega
            by_cases hk0 : k = 0
            · subst hk0
              go_wp2_with fail
              refine HH.out.mono ?_
              rintro e w7 ⟨rfl, q7, rfl⟩
              clear HH
              go_wp2
              go_loopw [15] (fun kv wr => ∃ q : Nat, kv = .int .i64 (f + 1 : Nat) ∧ wr = w3.drewN q) (fun _ _ => 0)
              case atStart => exact ⟨q6 + q7, by go_num, by simp⟩
              case round =>
                obtain ⟨q8, rfl, rfl⟩ := hrel
                go_wp2
                exact ⟨⟨i + 1, q8, by omega, by go_num, by rw [HFS.out]; go_num, rfl⟩, by simp [intOf]; omega⟩
            · have k0 : (0 : Int) < (k : Int) := by omega
              go_wp2_with fail
              refine HH.out.mono ?_
              rintro e w7 ⟨rfl, q7, rfl⟩
              clear HH
              go_wp2
              generalize decide (f ≤ i) = d1
              generalize decide ((k : Int) < 0) = d2
              generalize decide ((M.length : Int) - (f : Int) < (k : Int)) = d3
              generalize (d2 || d3) = d4
              go_loopw [15] (fun kv wr => ∃ m q : Nat, f + 1 ≤ m ∧ m ≤ f + k ∧ kv = .int .i64 (m : Nat) ∧ wr = w3.drewN q) (fun kv _ => f + k - (intOf kv).toNat)
              case atStart => exact ⟨f + 1, q6 + q7, by omega, by omega, by go_num, by simp⟩
              case round =>
                obtain ⟨m, q8, hm1, hm2, rfl, rfl⟩ := hrel
                by_cases hm : m < f + k
                · have hasc := HASC.out m hm1 hm
                  have HA := hid (fun q => HND.out q (m - 1) (by omega))
                  have HB := hid (fun q => HND.out q m (by omega))
                  have m1 : ((m : Int) - 1) = ((m - 1 : Nat) : Int) := by omega
                  generalize lastC (M.getD (m - 1) []) = a1 at hasc HA
                  generalize lastC (M.getD m []) = b1 at hasc HB
                  generalize fst (bldTo T T.length) M (m - 1) = a2 at HA
                  generalize fst (bldTo T T.length) M m = b2 at HB
                  generalize cnt (bldTo T T.length) (M.getD (m - 1) []) = a3 at HA
                  generalize cnt (bldTo T T.length) (M.getD m []) = b3 at HB
                  go_wp2_with fail
                  refine (HA.out _).mono ?_
                  rintro e w9 ⟨rfl, q9, rfl⟩
                  clear m1
                  go_wp2_with fail
                  refine (HB.out _).mono ?_
                  rintro e w10 ⟨rfl, q10, rfl⟩
                  go_wp2
                  exact ⟨⟨m + 1, q8 + q9 + q10, by omega, by omega, by go_num, by simp⟩, by simp [intOf]; omega⟩
                · obtain rfl : m = f + k := by omega
                  go_wp2
                  exact ⟨⟨i + 1, q8, by omega, by go_num, by rw [HFS.out]; go_num, rfl⟩, by simp [intOf]; omega⟩
          · obtain rfl : i = M.length := by omega
            rw [← HBF.out.len]
            have hbn : ((M.length : Int) != (M.length : Int)) = false := by simp
            have hbe : RowKit.Below w3.heap.size w3 (w3.drewN q6) := dr_below _ _ _
            go_wp2
            go_loopw [22] (fun iv wr => ∃ i : Nat, i ≤ T.length ∧ iv = .int .i64 i ∧ RowKit.Below w3.heap.size w3 wr) (fun iv _ => T.length - (intOf iv).toNat)
            case atStart => exact ⟨0, Nat.zero_le _, rfl, hbe⟩
            case round =>
              obtain ⟨i, hi9, rfl, hbw⟩ := hrel
              by_cases hlt9 : i < T.length
              · rcases HTX4.out with e | ⟨b, off, A, C, rfl, htx⟩
                · rw [e] at hlt9; exact absurd hlt9 (by simp)
                · have htw := htx.same hbw
                  have x2 : wr.cell? ⟨b, off + i, none⟩ = some (.slice (A i) (tx T i).length (C i)) := htw.cell _ hlt9
                  have hlen9 := HLS.out i hlt9
                  have HRC := hid (htw.runes i hlt9)
                  have HTW := hid (HTR4.out.below hbw hpl4 hgl4)
                  clear htx htw
                  have HP := hid (zzPath wr p gn cn (bldTo T T.length) M (A i) (C i) (tx T i) hML (by omega) HBF.out (fun j _ => start_mem HBF.out hlt9 j) HTW.out HRC.out)
                  go_wp2_with fail
                  refine HP.out.mono ?_
                  rintro e w11 ⟨g, cap11, rfl, ho, hbg, hat, hgr⟩
                  clear HP
                  have HO := hid ho
                  have hb11 := grown_below hgr
                  have HRC2 := hid (HRC.out.same hb11)
                  have HTW2 := hid (HTW.out.below hb11 (by have := hbw.size; omega) (by have := hbw.size; omega))
                  have hg0 : w11.cell? ⟨g, 0, none⟩ = some (.int .i32 0) := by
                    have := ho.cell (c := 0) (i := 0) (by omega) (by decide)
                    unfold pthF at this
                    rw [idx_root HBF.out] at this
                    exact this
                  clear ho hat hgr hbg
                  have l0 : (((tx T i).length : Int) + 1 != ((tx T i).length : Int) + 1) = false := by simp
                  have hbz : RowKit.Below w3.heap.size w3 w11 := hbw.trans (hb11.mono hbw.size)
                  have HND2 := hid (fun q j (hj : j < M.length) => zzNode (w11.drewN q) p gn cn (bldTo T T.length) M j hj hML (HTW2.out.drewN q))
                  clear HND
                  go_wp2
                  go_loopw [25] (fun bv wr => ∃ m q : Nat, m ≤ (tx T i).length ∧ bv = .int .i64 m ∧ wr = w11.drewN q) (fun bv _ => (tx T i).length - (intOf bv).toNat)
                  case atStart => exact ⟨0, 0, Nat.zero_le _, rfl, rfl⟩
                  case round =>
                    obtain ⟨m, q12, hm, rfl, rfl⟩ := hrel
                    by_cases hltm : m < (tx T i).length
                    · rcases HRC2.out with e | ⟨bt, ot, hA, hcs⟩
                      · rw [e] at hltm; exact absurd hltm (by simp)
                      · have y1 : w11.cell? ⟨bt, ot + m, none⟩ = some (.int .i32 (rn (tx T i) m)) := hcs m hltm
                        have y2 : w11.cell? ⟨g, m, none⟩ = some (.int .i32 (M.idxOf ((tx T i).take m) : Nat)) := by
                          have := HO.out.cell (c := m) (i := 0) (by omega) (by decide)
                          rw [Nat.mul_one] at this
                          exact this
                        have y3 : w11.cell? ⟨g, m + 1, none⟩ = some (.int .i32 (M.idxOf ((tx T i).take (m + 1)) : Nat)) := by
                          have := HO.out.cell (c := m + 1) (i := 0) (by omega) (by decide)
                          rw [Nat.mul_one] at this
                          exact this
                        obtain ⟨s1, s2, s3, s4, s5⟩ := step_place HBF.out hlt9 hltm
                        have htop := HBF.out.top s1
                        have HN1 := hid (fun q => HND2.out q _ s1)
                        have HN2 := hid (fun q => HND2.out q _ s2)
                        rw [s5] at HN2
                        generalize M.idxOf ((tx T i).take m) = x3 at *
                        generalize M.idxOf ((tx T i).take (m + 1)) = x4 at *
                        generalize fst (bldTo T T.length) M x3 = f3 at *
                        generalize cnt (bldTo T T.length) (M.getD x3 []) = k3 at *
                        generalize fst (bldTo T T.length) M x4 = f4 at *
                        generalize cnt (bldTo T T.length) (M.getD x4 []) = k4 at *
                        generalize rn (tx T i) m = r3 at *
                        generalize lastC (M.getD x3 []) = lc3 at HN1
                        have s3' : (f3 : Int) ≤ (x4 : Int) := by omega
                        have s4' : (x4 : Int) < (f3 : Int) + (k3 : Int) := by omega
                        have htop' : (f3 : Int) + (k3 : Int) ≤ 2097153 := by omega
                        have hrr : (r3 != r3) = false := by simp
                        clear hcs s5
                        rw [hA]
                        go_wp2_with fail
                        refine (HN1.out _).mono ?_
                        rintro e w13 ⟨rfl, q13, rfl⟩
                        clear HN1
                        go_wp2_with fail
                        refine (HN2.out _).mono ?_
                        rintro e w14 ⟨rfl, q14, rfl⟩
                        clear HN2
                        go_wp2
                        exact ⟨⟨m + 1, q12 + q13 + q14, by omega, by go_num, by simp⟩, by simp [intOf]; omega⟩
                    · obtain rfl : m = (tx T i).length := by omega
                      go_wp2
                      exact ⟨⟨i + 1, by omega, by go_num, hbz.trans (dr_below _ _ _)⟩, by simp [intOf]; omega⟩
              · obtain rfl : i = T.length := by omega
                go_wp2
                go_ret
                exact ⟨rfl, hb3.trans (hbw.mono hb3.size)⟩
  · go_wp2
    go_ret
    exact ⟨rfl, dr_below _ _ _⟩

end Go.Proofs.Qxb6608903a.CmpW
