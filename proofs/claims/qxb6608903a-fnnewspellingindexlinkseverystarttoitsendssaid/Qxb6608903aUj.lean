/-
  pdqsortOrdered (44) over a uint64: the walk.
-/
import Derived.Test.Qxb6608903aUi
namespace Go.Proofs.Qxb6608903a.U
open Go.RowKit Mem Go.Sort
set_option linter.unusedVariables false

/-- What the sort leaves. -/
def SD (w : World) (g N off a b : Nat) (R : Nat → Int) (e : Ending) (w' : World) : Prop :=
  e = .returned (.tuple #[]) ∧ ∃ R', UR w w' g N R' ∧ Sw (off + a) (off + b) R R' ∧ Srtd R' (off + a) (off + b)

theorem SD.of {w wr w' : World} {g N off a b a1 b1 : Nat} {R R1 R2 : Nat → Int} (hur : UR w wr g N R1) (hi : INV R R1 off a b a1 b1) (h : UR wr w' g N R2) (hw : Sw (off + a1) (off + b1) R1 R2) (hs : Srtd R2 (off + a1) (off + b1)) : SD w g N off a b R (.returned (.tuple #[])) w' :=
  ⟨rfl, R2, hur.trans h, ((hi.step hw).done hs).1, ((hi.step hw).done hs).2⟩

set_option maxHeartbeats 8000000 in
set_option maxRecDepth 100000 in
theorem pdq (D : Nat) : ∀ (w : World) (g N off n cap a b lim : Nat) (R : Nat → Int) (hrow : w.rowIs g 50 N (rowU R)) (hoN : off + n ≤ N) (hN : N ≤ 16777216) (hab : a ≤ b) (hb : b ≤ n) (hD : b - a ≤ D) (hlim : lim ≤ 1000) (hlow : Low R off a b),
    Calls Try.prog 44 #[.slice (some ⟨g, off, none⟩) n cap, .int .i64 a, .int .i64 b, .int .i64 lim] w fun e w' => SD w g N off a b R e w' := by
  induction D using Nat.strongRecOn with
  | ind D ih =>
  intro w g N off n cap a b lim R hrow hoN hN hab hb hD hlim hlow
  have IH := hid ih
  have HUR := hid (UR.start hrow)
  have HINV := hid (INV.start hab hlow)
  clear ih hrow hlow
  go_enter Try.func44, Try.ntmps44
  go_wp2
  go_loopw [1, 2, 3, 8, 9] (fun va vb vl v8 v9 wr => ∃ (a1 b1 l : Nat) (bal par : Bool) (R1 : Nat → Int), va = .int .i64 a1 ∧ vb = .int .i64 b1 ∧ vl = .int .i64 l ∧ v8 = .bool bal ∧ v9 = .bool par ∧ l ≤ 1000 ∧ UR w wr g N R1 ∧ INV R R1 off a b a1 b1) (fun va vb _ _ _ _ => (intOf vb).toNat - (intOf va).toNat)
  case atStart => exact ⟨a, b, lim, true, true, R, rfl, rfl, rfl, rfl, rfl, hlim, HUR.out, HINV.out⟩
  case round =>
    clear HUR HINV
    obtain ⟨a1, b1, l, bal, par, R1, rfl, rfl, rfl, rfl, rfl, hl, hur, hinv⟩ := hrel
    have g1 := hinv.aa
    have g2 := hinv.ab
    have g3 := hinv.bb
    have HUR := hid hur
    have HINV := hid hinv
    clear hur hinv
    obtain ⟨len, hlen⟩ : ∃ len, len = b1 - a1 := ⟨_, rfl⟩
    have em : ((b1 : Int) - (a1 : Int)) = (len : Int) := by omega
    have HLEN := hid hlen
    clear hlen
    by_cases h12 : len ≤ 12
    · have HC := hid (insertion wr g N off n cap a1 b1 R1 HUR.out.row hoN hN g2 (by omega))
      go_wp2_with fail
      refine HC.out.mono ?_
      rintro e w2 ⟨rfl, R2, hur2, hsw2, hsr2⟩
      have HF := hid (SD.of HUR.out HINV.out hur2 hsw2 hsr2)
      clear HC hur2 hsw2 hsr2
      go_wp2
      (try simp only [Exit.inBlock, Exit.then]); refine bodyPost_ret (results_none rfl _ _ _) rfl ?_
      exact HF.out
    · have hlen8 : a1 + 12 < b1 := by have := HLEN.out; omega
      by_cases hl0 : l = 0
      · subst hl0
        have HC := hid (heapSort wr g N off n cap a1 b1 R1 HUR.out.row hoN hN (by omega) (by omega))
        go_wp2_with fail
        refine HC.out.mono ?_
        rintro e w2 ⟨rfl, R2, hur2, hsw2, hsr2⟩
        have HF := hid (SD.of HUR.out HINV.out hur2 hsw2 hsr2)
        clear HC hur2 hsw2 hsr2
        go_wp2
        (try simp only [Exit.inBlock, Exit.then]); refine bodyPost_ret (results_none rfl _ _ _) rfl ?_
        exact HF.out
      · have hl0b : ((l : Int) == 0) = false := by simp; omega
        have hlz : (1 : Int) ≤ (l : Int) := by omega
        go_upto_if 35 with fail
        go_cut [3] (fun vl wx => ∃ (l2 : Nat) (R2 : Nat → Int), vl = .int .i64 l2 ∧ l2 ≤ 1000 ∧ UR w wx g N R2 ∧ INV R R2 off a b a1 b1)
        case first =>
          cases bal
          · have HC := hid (breakPatterns wr g N off n cap a1 b1 R1 HUR.out.row hoN hN (by omega) (by omega))
            go_wp2_with fail
            refine HC.out.mono ?_
            rintro e w2 ⟨rfl, R2, hur2, hsw2⟩
            have HU2 := hid (HUR.out.trans hur2)
            have HI2 := hid (HINV.out.step hsw2)
            clear HC hur2 hsw2
            go_wp2_with fail
            go_meet
            case rel => exact ⟨l - 1, R2, by congr 1; omega, by omega, HU2.out, HI2.out⟩
          · go_wp2_with fail
            go_meet
            case rel => exact ⟨l, R1, rfl, hl, HUR.out, HINV.out⟩
        case rest =>
          obtain ⟨l2, R2, rfl, hl2, hur2, hinv2⟩ := hcut
          clear HUR HINV hl0b hlz
          have HUR := hid hur2
          have HINV := hid hinv2
          clear hur2 hinv2
          have HC := hid (choosePivot wc g N off n cap a1 b1 R2 HUR.out.row hoN hN (by omega) (by omega))
          go_wp2_with fail
          refine HC.out.mono ?_
          rintro e w4 ⟨p0, h0, rfl, hp1, hp2, hur4⟩
          have HUR4 := hid (HUR.out.trans hur4)
          clear HC hur4 HUR
          go_upto_if 50 with fail
          go_cut [11, 12] (fun vp vh wx => ∃ (p : Nat) (h : Int) (R3 : Nat → Int), vp = .int .i64 p ∧ vh = .int .i64 h ∧ a1 ≤ p ∧ p < b1 ∧ UR w wx g N R3 ∧ INV R R3 off a b a1 b1)
          case first =>
            by_cases hh : h0 = 2
            · subst hh
              have HC := hid (reverseRange w4 g N off n cap a1 b1 R2 HUR4.out.row hoN hN (by omega) (by omega))
              have hhb : ((2 : Int) == 2) = true := by simp
              go_wp2_with fail
              refine HC.out.mono ?_
              rintro e w5 ⟨rfl, R3, hur5, hsw5⟩
              have HU5 := hid (HUR4.out.trans hur5)
              have HI5 := hid (HINV.out.step hsw5)
              clear HC hur5 hsw5
              go_wp2_with fail
              go_meet
              case rel => exact ⟨b1 - 1 - (p0 - a1), 1, R3, by congr 1; omega, rfl, by omega, by omega, HU5.out, HI5.out⟩
            · have hhb : (h0 == 2) = false := by simp; omega
              go_wp2_with fail
              go_meet
              case rel => exact ⟨p0, h0, R2, rfl, rfl, hp1, hp2, HUR4.out, HINV.out⟩
          case rest =>
            obtain ⟨p, h, R3, rfl, rfl, hp3, hp4, hur5, hinv5⟩ := hcut
            clear HUR4 HINV
            have HUR := hid hur5
            have HINV := hid hinv5
            clear hur5 hinv5
            go_upto_region 15 with fail
            go_cut [68] (fun vc wx => ∃ c : Bool, vc = .bool c ∧ UR w wx g N R3)
            case first =>
              by_cases hh : h = 1
              · subst hh
                have hhb : ((1 : Int) == 1) = true := by simp
                cases bal <;> cases par
                all_goals go_wp2_with fail
                all_goals go_meet
                all_goals exact ⟨_, rfl, HUR.out⟩
              · have hhb : (h == 1) = false := by simp; omega
                cases bal <;> cases par
                all_goals go_wp2_with fail
                all_goals go_meet
                all_goals exact ⟨_, rfl, HUR.out⟩
            case rest =>
              obtain ⟨c, rfl, hur6⟩ := hcut
              clear HUR
              have HUR := hid hur6
              clear hur6
              go_upto_if 68 with fail
              go_cut [13] (fun _ wx => ∃ R4 : Nat → Int, UR w wx g N R4 ∧ INV R R4 off a b a1 b1)
              case first =>
                cases c
                · go_wp2_with fail
                  go_meet
                  case rel => exact ⟨R3, HUR.out, HINV.out⟩
                · have HC := hid (partialIns wc g N off n cap a1 b1 R3 HUR.out.row hoN hN (by omega) (by omega) HINV.out.low)
                  go_wp2_with fail
                  refine HC.out.mono ?_
                  rintro e w7 ⟨r, R4, rfl, hur7, hsw7, hsr7⟩
                  clear HC
                  cases r
                  · have HU7 := hid (HUR.out.trans hur7)
                    have HI7 := hid (HINV.out.step hsw7)
                    clear hur7 hsw7 hsr7
                    go_wp2_with fail
                    go_meet
                    case rel => exact ⟨R4, HU7.out, HI7.out⟩
                  · have HF := hid (SD.of HUR.out HINV.out hur7 hsw7 (hsr7 rfl))
                    clear hur7 hsw7 hsr7
                    go_wp2_with fail
                    (try simp only [Exit.inBlock, Exit.then]); refine bodyPost_ret (results_none rfl _ _ _) rfl ?_
                    exact HF.out
              case rest =>
                obtain ⟨R4, hur7, hinv7⟩ := hcut
                have hcw : ∀ t, t < n → wc.cell? ⟨g, off + t, none⟩ = some (.int .u64 (R4 (off + t))) := fun t ht => hur7.cell off t (by omega)
                clear HUR HINV
                have HUR := hid hur7
                have HINV := hid hinv7
                clear hur7 hinv7
                go_upto_region 17 with fail
                go_cut [87] (fun vc wx => ∃ c : Bool, vc = .bool c ∧ UR w wx g N R4 ∧ (c = true → 1 ≤ a1 ∧ R4 (off + p) ≤ R4 (off + (a1 - 1))))
                case first =>
                  by_cases ha0 : 0 < a1
                  · have ha0z : (0 : Int) < (a1 : Int) := by omega
                    go_quiet (first | (go_at_call 61; refine Calls.quiet_of_same (less _ _ _)))
                    go_wp2_with fail
                    go_meet
                    case rel =>
                      refine ⟨_, rfl, HUR.out.drewN nq, fun h => ⟨ha0, ?_⟩⟩
                      exact ltU_false (by simpa using h)
                  · have ha0z : decide ((0 : Int) < (a1 : Int)) = false := decide_eq_false (by omega)
                    go_quiet (first | (go_at_call 61; refine Calls.quiet_of_same (less _ _ _)))
                    go_wp2_with fail
                    go_meet
                    case rel => exact ⟨false, rfl, HUR.out.drewN nq, fun h => by simp at h⟩
                case rest =>
                  obtain ⟨c, rfl, hur8, hc8⟩ := hcut
                  clear HUR hcw
                  have HUR := hid hur8
                  have HC8 := hid hc8
                  clear hur8 hc8
                  cases c
                  · clear HC8
                    have HC := hid (part wc g N off n cap a1 b1 p R4 HUR.out.row hoN hN hp3 hp4 (by omega))
                    go_wp2_with fail
                    refine HC.out.mono ?_
                    rintro e w9 ⟨m, r, R5, rfl, hm1, hm2, hur9, hsw9, hlo9, hhi9⟩
                    clear HC
                    have HU9 := hid (HUR.out.trans hur9)
                    have HI9 := hid (HINV.out.step hsw9)
                    have HLO := hid hlo9
                    have HHI := hid hhi9
                    clear hur9 hsw9 hlo9 hhi9 HUR HINV
                    by_cases hlr : m - a1 < b1 - m
                    · have hlrz : (m : Int) - (a1 : Int) < (b1 : Int) - (m : Int) := by omega
                      have HC := hid (IH.out (m - a1) (by omega) w9 g N off n cap a1 m l2 R5 HU9.out.row hoN hN hm1 (by omega) (Nat.le_refl _) hl2 (fun x x0 x1 x2 => HI9.out.low x x0 x1 (by omega)))
                      go_wp2_with fail
                      refine HC.out.mono ?_
                      rintro e w10 ⟨rfl, R6, hur10, hsw10, hsr10⟩
                      have HU10 := hid (HU9.out.trans hur10)
                      have HI10 := hid (HI9.out.right hm1 hm2 HLO.out HHI.out hsw10 hsr10)
                      clear HC hur10 hsw10 hsr10
                      go_wp2_with fail
                      exact ⟨⟨m + 1, b1, l2, _, r, R6, by go_num, rfl, rfl, rfl, rfl, hl2, HU10.out, HI10.out⟩, by simp [intOf]; omega⟩
                    · have hlrz : ¬ (m : Int) - (a1 : Int) < (b1 : Int) - (m : Int) := by omega
                      have HC := hid (IH.out (b1 - (m + 1)) (by omega) w9 g N off n cap (m + 1) b1 l2 R5 HU9.out.row hoN hN (by omega) (by omega) (Nat.le_refl _) hl2 (fun x x0 x1 x2 => by
                        have := HHI.out (x - off) (by omega) (by omega)
                        rw [show off + (x - off) = x by omega] at this
                        exact this))
                      have e1 : ((m : Int) + 1) = ((m + 1 : Nat) : Int) := by omega
                      rw [← e1] at HC
                      clear e1
                      go_wp2_with fail
                      refine HC.out.mono ?_
                      rintro e w10 ⟨rfl, R6, hur10, hsw10, hsr10⟩
                      have HU10 := hid (HU9.out.trans hur10)
                      have HI10 := hid (HI9.out.left hm1 hm2 HLO.out HHI.out hsw10 hsr10)
                      clear HC hur10 hsw10 hsr10
                      go_wp2_with fail
                      exact ⟨⟨a1, m, l2, _, r, R6, rfl, rfl, rfl, rfl, rfl, hl2, HU10.out, HI10.out⟩, by simp [intOf]; omega⟩
                  · have h8 := HC8.out rfl
                    have HC := hid (partEq wc g N off n cap a1 b1 p R4 HUR.out.row hoN hN hp3 hp4 (by omega))
                    have HMIN : Hid (∀ x, off + a1 ≤ x → x < off + b1 → R4 (off + p) ≤ R4 x) := fun x x1 x2 => by
                      have := HINV.out.low x h8.1 x1 x2
                      have := h8.2
                      omega
                    clear HC8 h8
                    go_wp2_with fail
                    refine HC.out.mono ?_
                    rintro e w9 ⟨m, R5, rfl, hm1, hm2, hur9, hsw9, hlo9, hhi9⟩
                    have HU9 := hid (HUR.out.trans hur9)
                    have HI9 := hid (HINV.out.eq hm1 hm2 HMIN.out hsw9 hlo9)
                    clear HC hur9 hsw9 hlo9 hhi9 HUR HINV HMIN
                    go_wp2_with fail
                    exact ⟨⟨m, b1, l2, _, _, R5, rfl, rfl, rfl, rfl, rfl, hl2, HU9.out, HI9.out⟩, by simp [intOf]; omega⟩

end Go.Proofs.Qxb6608903a.U
