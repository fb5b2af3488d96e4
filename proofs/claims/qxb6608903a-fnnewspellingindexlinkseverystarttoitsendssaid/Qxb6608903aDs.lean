/-
  zzDistinctStarts (23): the walk.
-/
import Derived.Test.Qxb6608903aDr
namespace Go.Proofs.Qxb6608903a.Ix
open Go.RowKit Mem Go.Sort Plain
open CmpW
open SortW hiding hid
set_option linter.unusedVariables false
attribute [local go_sem ↓] Go.wp_at_zero Go.wp_at_succ

theorem wrapQ (n : Nat) (h : n ≤ 4611686018427387904) : IntKind.i64.wrap (n : Int) = (n : Int) := by
  rw [IntKind.wrap_i64]; omega

/-- What zzDistinctStarts hands back. -/
def Starts (w : World) (T : List (List Int)) (e : Ending) (w' : World) : Prop :=
  ∃ (g cp : Nat) (O : List (Nat × Nat)), e = .returned (.slice (some ⟨g, 0, none⟩) O.length cp) ∧ PR w' g O.length .i64 (fA O) (fun j => (fL O j : Nat)) ∧ O.length ≤ 1048576 ∧ (∀ M, BF (bldTo T T.length) M M.length → DL T M O.length (fA O) (fL O)) ∧ Below w.heap.size w w'

set_option maxHeartbeats 8000000 in
set_option maxRecDepth 100000 in
theorem starts23 (w : World) (b cap : Nat) (T : List (List Int)) (G C : Nat → Nat) (hlen : ∀ j, j < T.length → (tx T j).length ≤ 1048576) (hT : T.length ≤ 65536) (htot : lenTo T T.length ≤ 1048576) (h : TB w b T G C) :
    Calls Try.prog 23 #[.slice (some ⟨b, 0, none⟩) T.length cap] w fun e w' => Starts w T e w' := by
  have HT := hidR h
  have HLEN := hidR hlen
  have HLT := hidR (fun i (hi : i ≤ T.length) => lenTo_mono T hi)
  clear h hlen
  go_enter Try.func23, Try.ntmps23
  go_wp2
  go_loopw [3, 4] (fun tv iv wr => ∃ i : Nat, i ≤ T.length ∧ iv = .int .i64 i ∧ tv = .int .i64 (lenTo T i : Nat) ∧ wr = w) (fun _ iv _ => T.length - (intOf iv).toNat)
  case atStart => exact ⟨0, Nat.zero_le _, rfl, rfl, rfl⟩
  case round =>
    as_aux_lemma =>
    obtain ⟨i, hi, rfl, rfl, hw⟩ := hrel
    have hw' := hw.symm
    subst hw'
    by_cases hlt : i < T.length
    · as_aux_lemma =>
      skip
      have c1 := HT.out.cell i hlt
      have e1 : lenTo T (i + 1) = lenTo T i + (tx T i).length := rfl
      have e2 := HLT.out (i + 1) hlt
      have e3 : lenTo T i + (tx T i).length ≤ 1048576 := by omega
      have E1 := hidR e1
      clear e1 e2
      go_wp2
      refine ⟨⟨i + 1, by omega, by go_num, ?_, trivial⟩, by simp [intOf]; omega⟩
      rw [E1.out]; go_num
    · as_aux_lemma =>
      obtain rfl : i = T.length := by omega
      generalize hN : lenTo T T.length = N at *
      have HN := hidR hN
      have hmk := make52 N htot
      clear hN hi hlt
      go_wp2
      have hsr := SR.made w w.heap.size N (Nat.le_refl _) htot
      have hbel : Below w.heap.size w (w.alloc (.cells (madeCells #[.int .i64 0, .int .i64 0] (N * 2)) 73)) := (Below.refl _ _).alloc (Nat.le_refl _) _
      generalize w.alloc (.cells (madeCells #[.int .i64 0, .int .i64 0] (N * 2)) 73) = w1 at hsr hbel ⊢
      have HSR := hidR hsr
      have HB1 := hidR hbel
      clear hsr hbel
      go_loopw [5, 6] (fun v iv wr => ∃ i g cp : Nat, i ≤ T.length ∧ iv = .int .i64 i ∧ v = .slice (some ⟨g, 0, none⟩) (stA T i).length cp ∧ SR wr w.heap.size g cp (stA T i) ∧ Below w.heap.size w wr) (fun _ iv _ => T.length - (intOf iv).toNat)
      case atStart => exact ⟨0, _, N, Nat.zero_le _, rfl, rfl, HSR.out, HB1.out⟩
      case round =>
        as_aux_lemma =>
        obtain ⟨i, g, cp, hi, rfl, rfl, hsr, hbel⟩ := hrel
        clear HSR HB1
        by_cases hlt : i < T.length
        · as_aux_lemma =>
          skip
          go_wp2
          have HSR : Hid (SR wr w.heap.size g cp (stA T i ++ stB i 0)) := by unfold stB; rw [List.append_nil]; exact hsr
          have HB1 := hidR hbel
          have HLE : Hid (lenTo T i + (tx T i).length ≤ 1048576) := by
            have e1 : lenTo T (i + 1) = lenTo T i + (tx T i).length := rfl
            have e2 := HLT.out (i + 1) hlt
            have := HN.out
            unfold Hid; omega
          have HEL : Hid (∀ l, (stA T i ++ stB i l).length = lenTo T i + l) := fun l => by rw [List.length_append, stA_len, stB_len]
          have hL := HLEN.out i hlt
          clear hsr hbel
          go_loopw [5, 7] (fun v lv wr => ∃ l g cp : Nat, l ≤ (tx T i).length ∧ lv = .int .i64 ((l : Int) + 1) ∧ v = .slice (some ⟨g, 0, none⟩) (stA T i ++ stB i l).length cp ∧ SR wr w.heap.size g cp (stA T i ++ stB i l) ∧ Below w.heap.size w wr) (fun _ lv _ => (tx T i).length + 1 - (intOf lv).toNat)
          case atStart => exact ⟨0, g, cp, Nat.zero_le _, rfl, by simp [stB], HSR.out, HB1.out⟩
          case round =>
            as_aux_lemma =>
            obtain ⟨l, g, cp, hl, rfl, rfl, hsr, hbel⟩ := hrel
            clear HSR HB1
            have c1 := (HT.out.same hbel).cell i hlt
            by_cases hll : l < (tx T i).length
            · as_aux_lemma =>
              have hown := (hsr.own.alloc (.cells #[.int .i64 (i : Nat), .int .i64 ((l : Int) + 1)] 73)).owns (by decide) hsr.base
              have hle := HLE.out
              rw [HEL.out l] at hown ⊢
              have HOWN := hidR hown
              have HSR := hidR hsr
              have HBL := hidR hbel
              have hsz : w.heap.size ≤ wr.heap.size := hbel.size
              clear hown hsr hbel
              generalize hLL : lenTo T i = LL at *
              have HLL := hidR hLL
              clear hLL
              obtain ⟨i1, hi1, hz0, hz1, hz2⟩ := info_parts info73
              go_wp2_with (at_builtin; refine wpList_append_lies _ rfl _ _ 52 rfl w.heap.size 73 i1 _ 2 16 Try.underlying52 hi1 hz0 hz1 hz2 rfl (by decide) _ (LL + l) _ rfl HOWN.out ⟨wr.heap.size, 0, none⟩ 1 1 [.int .i64 (i : Nat), .int .i64 ((l : Int) + 1)] rfl rfl ?c1 ?c2 (by decide) ?c3 ?c4 ?c5 (wr.heap.size + 1) ?c6 ?_)
              case c1 => exact World.news_of_block (Go.Deep.blk_alloc_new wr _)
              case c2 => intro u hu; simp at hu; rcases hu with rfl | rfl <;> rfl
              case c3 => unfold maxLen; omega
              case c4 => omega
              case c5 => simp; omega
              case c6 => simp
              intro g2 cp2 w5 hown2 hgrow hat hglt
              have HBL5 : Hid (Below w.heap.size w w5) := (HBL.out.alloc hsz _).grown hgrow (by simp; omega) (ownp_ge HSR.out.base)
              have HS5 : Hid (SR w5 w.heap.size g2 cp2 (stA T i ++ stB i (l + 1))) := by
                show SR w5 w.heap.size g2 cp2 (stA T i ++ (stB i l ++ [(i, l + 1)]))
                rw [← List.append_assoc]
                refine SR.push ?_
                rw [HEL.out l]
                exact hown2
              clear hi1 hz0 hz1 hz2 hown2 hgrow hat hglt
              go_wp2
              refine ⟨⟨l + 1, g2, cp2, by omega, by go_num, ?_, HS5.out, HBL5.out⟩, by simp [intOf]; omega⟩
              rw [HEL.out]; rfl
            · as_aux_lemma =>
              obtain rfl : l = (tx T i).length := by omega
              have HSR := hidR hsr
              have HBL := hidR hbel
              clear hsr hbel
              go_wp2
              exact ⟨⟨i + 1, g, cp, by omega, by go_num, rfl, HSR.out, HBL.out⟩, by simp [intOf]; omega⟩
        · as_aux_lemma =>
          obtain rfl : i = T.length := by omega
          have hE : (stA T T.length).length = N := by rw [stA_len]; exact HN.out
          have hsr' := hsr
          rw [hE]
          have HE := hidR hE
          have HSR := hidR hsr
          have HBL := hidR hbel
          have hsz : w.heap.size ≤ wr.heap.size := hbel.size
          clear hsr hbel hsr' hE hi hlt hmk
          go_wp2_with fail
          have hb2 : Below wr.heap.size wr (wr.alloc (.cells #[.int .i64 1, .slice (some ⟨b, 0, none⟩) T.length cap, .slice (some ⟨g, 0, none⟩) N cp, .slice none 0 0] 61)) := (Below.refl _ _).alloc (Nat.le_refl _) _
          have d0 : (wr.alloc (.cells #[.int .i64 1, .slice (some ⟨b, 0, none⟩) T.length cap, .slice (some ⟨g, 0, none⟩) N cp, .slice none 0 0] 61)).cell? ⟨wr.heap.size, 0, none⟩ = some (.int .i64 1) := by simp
          have d1 : (wr.alloc (.cells #[.int .i64 1, .slice (some ⟨b, 0, none⟩) T.length cap, .slice (some ⟨g, 0, none⟩) N cp, .slice none 0 0] 61)).cell? ⟨wr.heap.size, 1, none⟩ = some (.slice (some ⟨b, 0, none⟩) T.length cap) := by simp
          have d2 : (wr.alloc (.cells #[.int .i64 1, .slice (some ⟨b, 0, none⟩) T.length cap, .slice (some ⟨g, 0, none⟩) N cp, .slice none 0 0] 61)).cell? ⟨wr.heap.size, 2, none⟩ = some (.slice (some ⟨g, 0, none⟩) N cp) := by simp
          generalize wr.alloc (.cells #[.int .i64 1, .slice (some ⟨b, 0, none⟩) T.length cap, .slice (some ⟨g, 0, none⟩) N cp, .slice none 0 0] 61) = w2 at hb2 d0 d1 d2 ⊢
          have HB2 : Hid (Below w.heap.size w w2) := HBL.out.trans (hb2.mono hsz)
          have HT2 : Hid (TB w2 b T G C) := HT.out.same HB2.out
          have HP2 : Hid (PR w2 g N .i64 (fA (stA T T.length)) (fun j => (fL (stA T T.length) j : Nat))) := by
            have := HSR.out.pr
            rw [HE.out] at this
            exact this.same hb2
          have HAL : Hid (∀ j, j < N → fA (stA T T.length) j < T.length ∧ fL (stA T T.length) j ≤ (tx T (fA (stA T T.length) j)).length ∧ 1 ≤ fL (stA T T.length) j) := fun j hj => by
            have := (stA_mem T _ _).1 (pget_mem (d := (0, 0)) (E := stA T T.length) (j := j) (by rw [HE.out]; exact hj))
            exact ⟨this.1, this.2.2, this.2.1⟩
          have hok : CmpOK (.pointer (some ⟨wr.heap.size, 0, none⟩)) N (fun x y => cmpS (lab T ((stA T T.length).getD x (0, 0))) (lab T ((stA T T.length).getD y (0, 0)))) w2 := fun W hW x y hx hy =>
            cmp1 W wr.heap.size b cap g N cp T G C (fA (stA T T.length)) (fL (stA T T.length)) x y hx hy (fun j hj => ⟨(HAL.out j hj).1, (HAL.out j hj).2.1⟩) (fun j hj => Nat.le_trans (HLEN.out j hj) (by decide)) (by omega) (by rw [hW.cell (old_of d0)]; exact d0) (by rw [hW.cell (old_of d1)]; exact d1) (by rw [hW.cell (old_of d2)]; exact d2) (HT2.out.same hW) (HP2.out.same hW)
          have HS := hidR (sortIdx (.pointer (some ⟨wr.heap.size, 0, none⟩)) N _ w2 (by omega) hok (fun a b c _ _ _ h1 h2 => cmpS_trans _ _ _ h1 h2) (fun a b _ _ h => by rw [cmpS_anti]; omega))
          clear d0 d1 d2 hb2 hok
          refine HS.out.mono ?_
          rintro e w3 ⟨gi, I, rfl, hrow, hperm, hord, hg, hbel3⟩
          clear HS
          have HROW := hidR hrow
          have HPERM := hidR hperm
          have HORD := hidR hord
          have HT3 := hidR (HT2.out.same hbel3)
          have HP3 := hidR (HP2.out.same hbel3)
          have HB3 : Hid (Below w.heap.size w w3) := HB2.out.trans (hbel3.mono HB2.out.size)
          have hs3 : w.heap.size ≤ w3.heap.size := HB3.out.size
          clear hrow hperm hord hbel3 hg HT2 HP2 HB2 HBL HSR hsz
          have hmk := make52 N htot
          go_wp2
          have hsr := SR.made w3 w3.heap.size N (Nat.le_refl _) htot
          have hbel : Below w3.heap.size w3 (w3.alloc (.cells (madeCells #[.int .i64 0, .int .i64 0] (N * 2)) 73)) := (Below.refl _ _).alloc (Nat.le_refl _) _
          generalize w3.alloc (.cells (madeCells #[.int .i64 0, .int .i64 0] (N * 2)) 73) = w4 at hsr hbel ⊢
          have HSR := hidR hsr
          have HB4 := hidR hbel
          clear hsr hbel hmk
          go_loopw [10, 11] (fun v pv wr => ∃ (p g cp : Nat) (O : List (Nat × Nat)), p ≤ N ∧ pv = .int .i64 p ∧ v = .slice (some ⟨g, 0, none⟩) O.length cp ∧ SR wr w3.heap.size g cp O ∧ DD T (fun p => (stA T T.length).getD (I p) (0, 0)) p O ∧ Below w3.heap.size w3 wr) (fun _ pv _ => N - (intOf pv).toNat)
          case atStart => exact ⟨0, _, N, [], Nat.zero_le _, rfl, rfl, HSR.out, DD.start _ _, HB4.out⟩
          case round =>
            as_aux_lemma =>
            obtain ⟨p, go, co, O, hp, rfl, rfl, hsr, hdd, hbel⟩ := hrel
            clear HSR HB4
            have HSR := hidR hsr
            have HDD := hidR hdd
            have HBR := hidR hbel
            by_cases hlt : p < N
            · as_aux_lemma =>
              skip
              have hIp : I p < N := seg_range_lt HPERM.out hlt
              have x1 : wr.cell? ⟨gi, p, none⟩ = some (.int .i64 (I p : Nat)) := by have := HROW.out.cell hlt; rw [hbel.cell (old_of this)]; exact this
              obtain ⟨x2, x3⟩ := HP3.out.same hbel (I p) hIp
              dsimp only at x3
              have HA := hidR (HAL.out _ hIp)
              have HKP : Hid ((stA T T.length).getD (I p) (0, 0) = (fA (stA T T.length) (I p), fL (stA T T.length) (I p))) := rfl
              have HLB : Hid (lab T ((stA T T.length).getD (I p) (0, 0)) = (tx T (fA (stA T T.length) (I p))).take (fL (stA T T.length) (I p))) := rfl
              have q0 : (0 : Int) ≤ (I p : Int) := Int.natCast_nonneg _
              have q1 : (I p : Int) < (N : Int) := by omega
              have HORp : Hid (∀ p', p = p' + 1 → cmpS (lab T ((stA T T.length).getD (I p') (0, 0))) (lab T ((stA T T.length).getD (I p) (0, 0))) ≤ 0) := fun p' e => HORD.out p' p (by omega) hlt
              generalize fA (stA T T.length) (I p) = a at *
              generalize fL (stA T T.length) (I p) = l at *
              have HOB : Hid (go < wr.heap.size) := hsr.own.lt
              have HGB : Hid (gi < wr.heap.size) := old_of x1
              have HPB : Hid (g < wr.heap.size) := old_of x2
              clear hsr hdd hbel
              go_upto_region 21 with fail
              have hbw : Below wr.heap.size wr (wr.alloc (.cells #[.int .i64 (a : Nat), .int .i64 (l : Nat)] 73)) := (Below.refl _ _).alloc (Nat.le_refl _) _
              have t0 : (wr.alloc (.cells #[.int .i64 (a : Nat), .int .i64 (l : Nat)] 73)).cell? ⟨wr.heap.size, 0, none⟩ = some (.int .i64 (a : Nat)) := World.cell?_alloc_mark wr #[.int .i64 (a : Nat), .int .i64 (l : Nat)] 73 (0, 0) 0
              have t1 : (wr.alloc (.cells #[.int .i64 (a : Nat), .int .i64 (l : Nat)] 73)).cell? ⟨wr.heap.size, 1, none⟩ = some (.int .i64 (l : Nat)) := World.cell?_alloc_mark wr #[.int .i64 (a : Nat), .int .i64 (l : Nat)] 73 (0, 0) 1
              generalize hsW : wr.heap.size = sW at *
              generalize wr.alloc (.cells #[.int .i64 (a : Nat), .int .i64 (l : Nat)] 73) = W at *
              have HBW := hidR hbw
              have HSW := hidR hsW
              have HT0 := hidR t0
              have HT1 := hidR t1
              clear hbw hsW x1 x2 x3 t0 t1
              have HX : Hid (∀ y, y < N → W.cell? ⟨gi, y, none⟩ = some (.int .i64 (I y : Nat))) := fun y hy => by
                have h1 := HROW.out.cell hy
                have h2 := HBR.out.cell (old_of h1)
                rw [HBW.out.cell (show gi < sW from HGB.out), h2]; exact h1
              have HP4 : Hid (PR W g N .i64 (fA (stA T T.length)) (fun j => (fL (stA T T.length) j : Nat))) := by
                have h1 := HP3.out.same HBR.out
                intro y hy
                exact ⟨by rw [HBW.out.cell (show g < sW from HPB.out)]; exact (h1 y hy).1, by rw [HBW.out.cell (show g < sW from HPB.out)]; exact (h1 y hy).2⟩
              have HT4 : Hid (TB W b T G C) := by
                have h1 := HT3.out.same HBR.out
                have hw := HSW.out
                have h2 : Below wr.heap.size wr W := by rw [hw]; exact HBW.out
                exact h1.same h2
              obtain ⟨cv, hcv⟩ : ∃ cv : Int, cv = cmpS (lab T ((stA T T.length).getD (I (p - 1)) (0, 0))) (lab T ((stA T T.length).getD (I p) (0, 0))) := ⟨_, rfl⟩
              have HCV := hidR hcv
              clear hcv
              go_cut [88] (fun v wx => ∃ r : Bool, v = .bool r ∧ (r = true → p = 0 ∨ cv < 0) ∧ (r = false → p ≠ 0 ∧ cv = 0) ∧ ∃ q os, wx = grow (W.drewN q) os)
              case first =>
                as_aux_lemma =>
                by_cases hp0 : p = 0
                · as_aux_lemma =>
                  subst hp0
                  have hb0 : ((0 : Int) == 0) = true := by simp
                  go_wp2
                  go_quiet (fail)
                  go_wp2
                  go_meet
                  case rel => exact ⟨true, rfl, fun _ => .inl (by first | trivial | rfl), fun h => absurd h (by decide), nq, #[], by rw [grow_empty]⟩
                · as_aux_lemma =>
                  obtain ⟨p', rfl⟩ : ∃ p', p = p' + 1 := ⟨p - 1, by omega⟩
                  have hpb : (((p' : Int) + 1) == 0) = false := by simp; omega
                  have hIq : I p' < N := seg_range_lt HPERM.out (by omega)
                  have x1 := HX.out p' (by omega)
                  obtain ⟨x2, x3⟩ := HP4.out (I p') hIq
                  dsimp only at x3
                  have hA1 := HAL.out _ hIq
                  have HOL := hidR (HORp.out p' rfl)
                  have HLQ : Hid (lab T ((stA T T.length).getD (I p') (0, 0)) = (tx T (fA (stA T T.length) (I p'))).take (fL (stA T T.length) (I p'))) := rfl
                  have HCS := hidR (fun n os => cmpStart (grow (W.drewN n) os) b cap T G C (fA (stA T T.length) (I p')) a (fL (stA T T.length) (I p')) l hA1.1 HA.out.1 hA1.2.1 HA.out.2.1 (fun j hj => Nat.le_trans (HLEN.out j hj) (by decide)) (by omega) (HT4.out.same (grow_bel W n os)))
                  rw [← HLB.out, ← HLQ.out] at HCS
                  generalize fA (stA T T.length) (I p') = a' at *
                  generalize fL (stA T T.length) (I p') = l' at *
                  have g1 : ∀ n os, (grow (W.drewN n) os).cell? ⟨gi, p', none⟩ = _ := fun n os => cell_grown (old_of x1) x1 n os
                  have g2 : ∀ n os, (grow (W.drewN n) os).cell? ⟨g, I p' * 2, none⟩ = _ := fun n os => cell_grown (old_of x2) x2 n os
                  have g3 : ∀ n os, (grow (W.drewN n) os).cell? ⟨g, I p' * 2 + 1, none⟩ = _ := fun n os => cell_grown (old_of x3) x3 n os
                  have g4 : ∀ n os, (grow (W.drewN n) os).cell? ⟨sW, 0, none⟩ = _ := fun n os => cell_grown (old_of HT0.out) HT0.out n os
                  have g5 : ∀ n os, (grow (W.drewN n) os).cell? ⟨sW, 1, none⟩ = _ := fun n os => cell_grown (old_of HT1.out) HT1.out n os
                  have mixed : Try.prog.follows .mixedOrders = true := by kernel_rfl
                  have r0 : (0 : Int) ≤ (I p' : Int) := Int.natCast_nonneg _
                  have r1 : (I p' : Int) < (N : Int) := by omega
                  have s0 : (0 : Int) ≤ (p' : Int) := Int.natCast_nonneg _
                  have s1 : (p' : Int) < (N : Int) := by omega
                  have s2 : IntKind.i64.wrap (p' : Int) = (p' : Int) := wrapQ p' (by omega)
                  have HCR : Hid (cv = cmpS (lab T ((stA T T.length).getD (I p') (0, 0))) (lab T ((stA T T.length).getD (I (p' + 1)) (0, 0)))) := HCV.out
                  clear HCV
                  generalize hr : cmpS (lab T ((stA T T.length).getD (I p') (0, 0))) (lab T ((stA T T.length).getD (I (p' + 1)) (0, 0))) = r at *
                  clear hr x1 x2 x3 hA1
                  by_cases hr0 : r = 0
                  · as_aux_lemma =>
                    have hrb : (r != 0) = false := by simp [hr0]
                    have HR0 := hidR hr0
                    clear hr0
                    go_wp2
                    go_quiet_grown ((go_at_call 29; exact Calls.grown_of (HCS.out _ _)))
                    go_wp2
                    go_meet
                    case rel => exact ⟨false, rfl, fun h => absurd h (by decide), fun _ => ⟨by first | omega | trivial, by have := HR0.out; have := HCR.out; omega⟩, nq, osq, rfl⟩
                  · as_aux_lemma =>
                    have hrb : (r != 0) = true := by simp [hr0]
                    have HR0 := hidR hr0
                    clear hr0
                    go_wp2
                    go_quiet_grown ((go_at_call 29; exact Calls.grown_of (HCS.out _ _)))
                    go_wp2
                    go_meet
                    case rel => exact ⟨true, rfl, fun _ => .inr (by have := HR0.out; have := HOL.out; have := HCR.out; omega), fun h => absurd h (by decide), nq, osq, rfl⟩
              case rest =>
                as_aux_lemma =>
                obtain ⟨r, rfl, hr1, hr2, q, os, hwc⟩ := hcut
                have hbc : Below sW wr wc := by
                  have h2 := grow_below HBW.out (by have := HBW.out.size; have := HSW.out; omega) q os
                  rw [hwc]; exact h2
                have t0 : wc.cell? ⟨sW, 0, none⟩ = some (.int .i64 (a : Nat)) := by rw [hwc]; exact cell_grown (old_of HT0.out) HT0.out q os
                have t1 : wc.cell? ⟨sW, 1, none⟩ = some (.int .i64 (l : Nat)) := by rw [hwc]; exact cell_grown (old_of HT1.out) HT1.out q os
                have hs3w : w3.heap.size ≤ sW := by have := HBR.out.size; have := HSW.out; omega
                have hsc : sW ≤ wc.heap.size := by have := hbc.size; have := HSW.out; omega
                have HBC : Hid (Below w3.heap.size w3 wc) := HBR.out.trans (hbc.mono hs3w)
                have hsr : SR wc w3.heap.size go co O := HSR.out.of_block (hbc.block _ HOB.out)
                rw [HCV.out] at hr1 hr2
                have HR1 := hidR hr1
                have HR2 := hidR hr2
                clear hr1 hr2 hwc hbc HX HP4 HT4 HBW HT0 HT1
                cases r with
                | true =>
                  have hown := (hsr.own.alloc (.cells #[.int .i64 (a : Nat), .int .i64 (l : Nat)] 73)).owns (by decide) hsr.base
                  have HOWN := hidR hown
                  have HSC := hidR hsr
                  have hOl : O.length ≤ 1048576 := by have := HDD.out.len; omega
                  generalize hLO : O.length = LO at *
                  have HLO := hidR hLO
                  clear hown hsr hLO
                  obtain ⟨i1, hi1, hz0, hz1, hz2⟩ := info_parts info73
                  go_wp2_with (at_builtin; refine wpList_append_lies _ rfl _ _ 52 rfl w3.heap.size 73 i1 _ 2 16 Try.underlying52 hi1 hz0 hz1 hz2 rfl (by decide) _ LO _ rfl HOWN.out ⟨wc.heap.size, 0, none⟩ 1 1 [.int .i64 (a : Nat), .int .i64 (l : Nat)] rfl rfl ?c1 ?c2 (by decide) ?c3 ?c4 ?c5 (wc.heap.size + 1) ?c6 ?_)
                  try (case c1 => exact World.news_of_block (Go.Deep.blk_alloc_new wc _))
                  try (case c2 => first | exact ⟨rfl, rfl⟩ | (intro u hu; simp at hu; rcases hu with rfl | rfl <;> rfl))
                  try (case c3 => unfold maxLen; omega)
                  try (case c4 => omega)
                  try (case c5 => first | omega | (simp; omega))
                  try (case c6 => simp)
                  intro g2 cp2 w5 hown2 hgrow hat hglt
                  have HBL5 : Hid (Below w3.heap.size w3 w5) := (HBC.out.alloc HBC.out.size _).grown hgrow (by simp; omega) (ownp_ge HSC.out.base)
                  have HS5 : Hid (SR w5 w3.heap.size g2 cp2 (O ++ [(a, l)])) := by
                    refine SR.push ?_
                    rw [HLO.out]
                    exact hown2
                  clear hi1 hz0 hz1 hz2 hown2 hgrow hat hglt
                  go_wp2
                  refine ⟨⟨p + 1, g2, cp2, O ++ [(a, l)], by omega, by go_num, ?_, HS5.out, ?_, HBL5.out⟩, by simp [intOf]; omega⟩
                  · rw [List.length_append, HLO.out]; rfl
                  · have := HDD.out.new (by rw [HKP.out]; exact ⟨HA.out.1, HA.out.2.2, HA.out.2.1⟩) (HR1.out (by first | rfl | trivial))
                    rw [HKP.out] at this
                    exact this
                | false =>
                  have HSC := hidR hsr
                  clear hsr t0 t1
                  go_wp2
                  exact ⟨⟨p + 1, go, co, O, by omega, by go_num, rfl, HSC.out, HDD.out.same (HR2.out (by first | rfl | trivial)).1 (HR2.out (by first | rfl | trivial)).2, HBC.out⟩, by simp [intOf]; omega⟩
            · as_aux_lemma =>
              obtain rfl : p = N := by omega
              clear hsr hdd hbel
              go_wp2
              go_ret
              refine ⟨go, co, O, rfl, HSR.out.pr, ?_, fun M hM => ?_, HB3.out.trans (HBR.out.mono hs3)⟩
              · have := HDD.out.len; omega
              · have hd := HDD.out
                have hpm := HPERM.out
                rw [← HN.out] at hd hpm
                exact hd.done hpm hM

end Go.Proofs.Qxb6608903a.Ix
