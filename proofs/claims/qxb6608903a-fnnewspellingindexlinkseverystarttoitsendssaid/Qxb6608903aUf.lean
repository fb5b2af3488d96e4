/-
  partialInsertionSortOrdered (60) over a uint64.
-/
import Derived.Test.Qxb6608903aUd
namespace Go.Proofs.Qxb6608903a.U
open Go.RowKit Mem Go.Sort
set_option linter.unusedVariables false

/-- What lies just ahead of a is not greater than what lies from a to b. -/
def Low (R : Nat → Int) (off a b : Nat) : Prop := ∀ x, 1 ≤ a → off + a ≤ x → x < off + b → R (off + (a - 1)) ≤ R x

theorem Low.sw {R S : Nat → Int} {off a b : Nat} (h : Low R off a b) (hw : Sw (off + a) (off + b) R S) : Low S off a b := by
  intro x h0 h1 h2
  rw [hw.out (k := off + (a - 1)) (Or.inl (by omega))]
  exact hw.all (P := fun v => R (off + (a - 1)) ≤ v) (fun k k1 k2 => h k h0 k1 k2) x h1 h2

/-- What it leaves. -/
def PI (w : World) (g N off a b : Nat) (R : Nat → Int) (e : Ending) (w' : World) : Prop :=
  ∃ (r : Bool) (R' : Nat → Int), e = .returned (.bool r) ∧ UR w w' g N R' ∧ Sw (off + a) (off + b) R R' ∧ (r = true → Srtd R' (off + a) (off + b))

theorem srtd_snoc {R : Nat → Int} {lo hi : Nat} (h : Srtd R lo hi) (hl : hi ≤ lo ∨ R (hi - 1) ≤ R hi) : Srtd R lo (hi + 1) := by
  intro i j h1 h2 h3
  by_cases e : j = hi
  · subst e
    rcases hl with hl | hl
    · omega
    · by_cases e2 : i = j - 1
      · subst e2; exact hl
      · have := h i (j - 1) h1 (by omega) (by omega)
        omega
  · exact h i j h1 h2 (by omega)

theorem srtd_same {R S : Nat → Int} {lo hi : Nat} (h : Srtd R lo hi) (e : ∀ k, k < hi → S k = R k) : Srtd S lo hi := fun i j h1 h2 h3 => by
  rw [e i (by omega), e j h3]; exact h i j h1 h2 h3

set_option maxHeartbeats 4000000 in
set_option maxRecDepth 100000 in
theorem partialIns (w : World) (g N off n cap a b : Nat) (R : Nat → Int) (hrow : w.rowIs g 50 N (rowU R)) (hoN : off + n ≤ N) (hN : N ≤ 16777216) (hab : a < b) (hb : b ≤ n) (hlow : Low R off a b) :
    Calls Try.prog 60 #[.slice (some ⟨g, off, none⟩) n cap, .int .i64 a, .int .i64 b] w fun e w' => PI w g N off a b R e w' := by
  have HUR := hid (UR.start hrow)
  have HLOW := hid hlow
  clear hrow hlow
  go_enter Try.func60, Try.ntmps60
  go_wp2
  go_loopw [7, 8] (fun vi vs wr => ∃ (i s : Nat) (R1 : Nat → Int), vi = .int .i64 i ∧ vs = .int .i64 s ∧ s ≤ 5 ∧ a < i ∧ i ≤ b ∧ UR w wr g N R1 ∧ Sw (off + a) (off + b) R R1 ∧ Srtd R1 (off + a) (off + i)) (fun _ vs _ => 5 - (intOf vs).toNat)
  case atStart => exact ⟨a + 1, 0, R, by go_num, rfl, by omega, by omega, by omega, HUR.out, .refl, srtd_one R (by omega)⟩
  case round =>
    clear HUR
    obtain ⟨i0, s, R1, rfl, rfl, hs5, hai0, hib0, hur, hsw, hsr⟩ := hrel
    have HUR := hid hur
    have HSW := hid hsw
    have HSR := hid hsr
    clear hur hsw hsr
    by_cases hs : s < 5
    · go_wp2
      go_loopw [7] (fun vi wr => ∃ (i : Nat), vi = .int .i64 i ∧ a < i ∧ i ≤ b ∧ UR w wr g N R1 ∧ Srtd R1 (off + a) (off + i)) (fun vi _ => b - (intOf vi).toNat)
      case atStart => exact ⟨i0, rfl, by omega, by omega, HUR.out, HSR.out⟩
      case round =>
        clear HUR HSR
        obtain ⟨i, rfl, hai, hib, hur, hsr⟩ := hrel
        have hcw : ∀ t, t < n → wr.cell? ⟨g, off + t, none⟩ = some (.int .u64 (R1 (off + t))) := fun t ht => hur.cell off t (by omega)
        have hfw : ∀ t, t < n → wr.frozen? ⟨g, off + t, none⟩ = false := fun t ht => hur.frozen _
        have HUR := hid hur
        have HSR := hid hsr
        clear hur hsr
        by_cases hlt : i < b
        · have hltz : (i : Int) < (b : Int) := by omega
          go_wp2_with fail
          go_quiet (first | (go_at_call 61; refine Calls.quiet_of_same (less _ _ _)))
          go_wp2_with fail
          · have hl : ltU (R1 (off + i)) (R1 (off + (i - 1))) = false := by
              have : (!ltU (R1 (off + i)) (R1 (off + (i - 1)))) = true := by assumption
              simpa using this
            refine ⟨⟨i + 1, by go_num, by omega, by omega, HUR.out.drewN nq, ?_⟩, by simp [intOf]; omega⟩
            rw [show off + (i + 1) = off + i + 1 by omega]
            exact srtd_snoc HSR.out (.inr (by rw [show off + i - 1 = off + (i - 1) by omega]; exact ltU_false hl))
          · go_ret
            exact ⟨false, R1, rfl, HUR.out.drewN _, HSW.out, fun h => by simp at h⟩
          · have hl : ltU (R1 (off + i)) (R1 (off + (i - 1))) = true := by
              have : (!ltU (R1 (off + i)) (R1 (off + (i - 1)))) = false := by assumption
              simpa using this
            have hcw2 : ∀ t, t < n → (wr.drewN nq).cell? ⟨g, off + t, none⟩ = some (.int .u64 (R1 (off + t))) := hcw
            have hfw2 : ∀ t, t < n → (wr.drewN nq).frozen? ⟨g, off + t, none⟩ = false := hfw
            have HUR2 := hid (HUR.out.drewN nq)
            have HINS : Hid (Ins (swp R1 (off + i) (off + (i - 1))) (off + a) (off + (i - 1)) (off + i)) := by
              have := (Ins.start HSR.out).step (by omega) (Nat.le_refl _) (by rw [show off + i - 1 = off + (i - 1) by omega]; exact ltU_true hl)
              rw [show off + i - 1 = off + (i - 1) by omega] at this
              exact this
            have HSW2 := hid (HSW.out.step (i := off + i) (j := off + (i - 1)) (by omega) (by omega) (by omega) (by omega))
            clear hcw hfw HUR
            generalize wr.drewN nq = wr2 at hcw2 hfw2 HUR2 ⊢
            go_region
            go_upto_if 61 with fail
            have HUR3 : Hid (UR w (((wr2.setCell ⟨g, off + i, none⟩ (.int .u64 (R1 (off + (i - 1))))).setCell ⟨g, off + (i - 1), none⟩ (.int .u64 (R1 (off + i)))).drew) g N (swp R1 (off + i) (off + (i - 1)))) := (HUR2.out.swap _ _).drewN 1
            clear HUR2 hcw2 hfw2 HSR
            generalize ((wr2.setCell ⟨g, off + i, none⟩ (.int .u64 (R1 (off + (i - 1))))).setCell ⟨g, off + (i - 1), none⟩ (.int .u64 (R1 (off + i)))).drew = wr3 at HUR3 ⊢
            generalize swp R1 (off + i) (off + (i - 1)) = RA at HINS HSW2 HUR3
            go_cut [9] (fun _ wx => ∃ R2, UR w wx g N R2 ∧ Sw (off + a) (off + b) R R2 ∧ Srtd R2 (off + a) (off + i))
            case first =>
              by_cases hi2 : a + 2 ≤ i
              · have hi2z : (2 : Int) ≤ (i : Int) - (a : Int) := by omega
                go_wp2_with fail
                go_loopw [9] (fun vj wr => ∃ (j : Nat) (R2 : Nat → Int), vj = .int .i64 j ∧ a ≤ j ∧ j < i ∧ UR w wr g N R2 ∧ Sw (off + a) (off + b) R R2 ∧ Ins R2 (off + a) (off + j) (off + i)) (fun vj _ => (intOf vj).toNat)
                case atStart => exact ⟨i - 1, RA, by congr 1; omega, by omega, by omega, HUR3.out, HSW2.out, HINS.out⟩
                case round =>
                  clear HUR3 HSW2 HINS
                  obtain ⟨j, R2, rfl, haj, hji, hur, hsw, hins⟩ := hrel
                  have hcw : ∀ t, t < n → wr.cell? ⟨g, off + t, none⟩ = some (.int .u64 (R2 (off + t))) := fun t ht => hur.cell off t (by omega)
                  have hfw : ∀ t, t < n → wr.frozen? ⟨g, off + t, none⟩ = false := fun t ht => hur.frozen _
                  have HUR := hid hur
                  have HSW3 := hid hsw
                  have HINS := hid hins
                  have HLOW2 := hid (HLOW.out.sw hsw)
                  clear hur hsw hins
                  have fin : (j ≤ a ∨ R2 (off + (j - 1)) ≤ R2 (off + j)) → Srtd R2 (off + a) (off + i) := fun hs => by
                    have := HINS.out.done (by omega) (by
                      rcases hs with h | h
                      · exact .inl (by omega)
                      · by_cases e : j ≤ a
                        · exact .inl (by omega)
                        · right; rw [show off + j - 1 = off + (j - 1) by omega]; exact h)
                    exact fun x y h1 h2 h3 => this x y h1 h2 (by omega)
                  have FIN := hid fin
                  clear fin
                  by_cases hj0 : 1 ≤ j
                  · have hj0z : (1 : Int) ≤ (j : Int) := by omega
                    go_wp2_with fail
                    go_quiet (first | (go_at_call 61; refine Calls.quiet_of_same (less _ _ _)))
                    go_wp2_with fail
                    · have hl : ltU (R2 (off + j)) (R2 (off + (j - 1))) = false := by
                        have : (!ltU (R2 (off + j)) (R2 (off + (j - 1)))) = true := by assumption
                        simpa using this
                      go_meet
                      case rel => exact ⟨R2, HUR.out.drewN nq, HSW3.out, FIN.out (.inr (ltU_false hl))⟩
                    · have hl : ltU (R2 (off + j)) (R2 (off + (j - 1))) = true := by
                        have : (!ltU (R2 (off + j)) (R2 (off + (j - 1)))) = false := by assumption
                        simpa using this
                      have hja : a < j := by
                        by_cases e : j = a
                        · subst e
                          have h1 := HLOW2.out (off + j) hj0 (by omega) (by omega)
                          have h2 := ltU_true hl
                          omega
                        · omega
                      have hcw2 : ∀ t, t < n → (wr.drewN nq).cell? ⟨g, off + t, none⟩ = some (.int .u64 (R2 (off + t))) := hcw
                      have hfw2 : ∀ t, t < n → (wr.drewN nq).frozen? ⟨g, off + t, none⟩ = false := hfw
                      have HUR2 := hid (HUR.out.drewN nq)
                      clear hcw hfw HUR
                      generalize wr.drewN nq = wr4 at hcw2 hfw2 HUR2 ⊢
                      go_region
                      all_goals go_wp2
                      refine ⟨⟨j - 1, swp R2 (off + j) (off + (j - 1)), by congr 1; omega, by omega, by omega, (HUR2.out.drewN 1).swap _ _, HSW3.out.step (by omega) (by omega) (by omega) (by omega), ?_⟩, by simp [intOf]; omega⟩
                      have := HINS.out.step (by omega) (by omega) (by rw [show off + j - 1 = off + (j - 1) by omega]; exact ltU_true hl)
                      rw [show off + j - 1 = off + (j - 1) by omega] at this
                      exact this
                  · have hj0z : ¬ (1 : Int) ≤ (j : Int) := by omega
                    go_wp2_with fail
                    go_meet
                    case rel => exact ⟨R2, HUR.out, HSW3.out, FIN.out (.inl (by omega))⟩
              · have hi2z : ¬ (2 : Int) ≤ (i : Int) - (a : Int) := by omega
                go_wp2_with fail
                go_meet
                case rel =>
                  refine ⟨RA, HUR3.out, HSW2.out, ?_⟩
                  have := HINS.out.done (by omega) (.inl (by omega))
                  exact fun x y h1 h2 h3 => this x y h1 h2 (by omega)
            case rest =>
              obtain ⟨R2, hur, hsw, hsr⟩ := hcut
              have HUR4 := hid hur
              have HSW4 := hid hsw
              have HSR4 := hid hsr
              clear hur hsw hsr HUR3 HSW2 HINS
              by_cases hi2 : i + 2 ≤ b
              · have hi2z : (2 : Int) ≤ (b : Int) - (i : Int) := by omega
                go_wp2_with fail
                go_loopw [10] (fun vj wr => ∃ (j : Nat) (R3 : Nat → Int), vj = .int .i64 j ∧ i < j ∧ j ≤ b ∧ UR w wr g N R3 ∧ Sw (off + a) (off + b) R R3 ∧ ∀ k, k < off + i → R3 k = R2 k) (fun vj _ => b - (intOf vj).toNat)
                case atStart => exact ⟨i + 1, R2, by go_num, by omega, by omega, HUR4.out, HSW4.out, fun _ _ => rfl⟩
                case round =>
                  clear HUR4 HSW4
                  obtain ⟨j, R3, rfl, hij, hjb, hur, hsw, hsame⟩ := hrel
                  have hcw : ∀ t, t < n → wr.cell? ⟨g, off + t, none⟩ = some (.int .u64 (R3 (off + t))) := fun t ht => hur.cell off t (by omega)
                  have hfw : ∀ t, t < n → wr.frozen? ⟨g, off + t, none⟩ = false := fun t ht => hur.frozen _
                  have HUR := hid hur
                  have HSW3 := hid hsw
                  have HSAME := hid hsame
                  clear hur hsw hsame
                  have out : ∀ q, ∃ (i' s' : Nat) (R1 : Nat → Int), Value.int .i64 (i : Int) = .int .i64 (i' : Nat) ∧ Value.int .i64 ((s : Int) + 1) = .int .i64 (s' : Nat) ∧ s' ≤ 5 ∧ a < i' ∧ i' ≤ b ∧ UR w (wr.drewN q) g N R1 ∧ Sw (off + a) (off + b) R R1 ∧ Srtd R1 (off + a) (off + i') := fun q =>
                    ⟨i, s + 1, R3, rfl, by go_num, by omega, hai, hib, HUR.out.drewN q, HSW3.out, srtd_same HSR4.out HSAME.out⟩
                  have OUT := hid out
                  clear out
                  by_cases hjb2 : j < b
                  · have hjz : (j : Int) < (b : Int) := by omega
                    go_wp2_with fail
                    go_quiet (first | (go_at_call 61; refine Calls.quiet_of_same (less _ _ _)))
                    go_wp2_with fail
                    · exact ⟨OUT.out nq, by simp [intOf]; omega⟩
                    · have hcw2 : ∀ t, t < n → (wr.drewN nq).cell? ⟨g, off + t, none⟩ = some (.int .u64 (R3 (off + t))) := hcw
                      have hfw2 : ∀ t, t < n → (wr.drewN nq).frozen? ⟨g, off + t, none⟩ = false := hfw
                      have HUR2 := hid (HUR.out.drewN nq)
                      clear hcw hfw HUR
                      generalize wr.drewN nq = wr4 at hcw2 hfw2 HUR2 ⊢
                      go_region
                      all_goals go_wp2
                      refine ⟨⟨j + 1, swp R3 (off + j) (off + (j - 1)), by go_num, by omega, by omega, (HUR2.out.drewN 1).swap _ _, HSW3.out.step (by omega) (by omega) (by omega) (by omega), fun k hk => ?_⟩, by simp [intOf]; omega⟩
                      unfold swp
                      rw [if_neg (by omega), if_neg (by omega)]
                      exact HSAME.out k hk
                  · have hjz : ¬ (j : Int) < (b : Int) := by omega
                    go_wp2_with fail
                    exact ⟨OUT.out 0, by simp [intOf]; omega⟩
              · have hi2z : ¬ (2 : Int) ≤ (b : Int) - (i : Int) := by omega
                go_wp2_with fail
                exact ⟨⟨i, s + 1, R2, rfl, by go_num, by omega, hai, hib, HUR4.out, HSW4.out, HSR4.out⟩, by simp [intOf]; omega⟩
        · obtain rfl : i = b := by omega
          have hltz : decide ((i : Int) < (i : Int)) = false := decide_eq_false (by omega)
          have hbb : ((i : Int) == (i : Int)) = true := by simp
          go_wp2_with fail
          go_quiet (first | (go_at_call 61; refine Calls.quiet_of_same (less _ _ _)))
          go_wp2
          go_ret
          exact ⟨true, R1, rfl, HUR.out.drewN _, HSW.out, fun _ => HSR.out⟩
    · go_wp2
      go_ret
      exact ⟨false, R1, rfl, HUR.out, HSW.out, fun h => by simp at h⟩

end Go.Proofs.Qxb6608903a.U
