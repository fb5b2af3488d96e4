/-
  insertionSortOrdered (55) over a uint64.
-/
import Derived.Test.Qxb6608903aUa
namespace Go.Proofs.Qxb6608903a.U
open Go.RowKit Mem Go.Sort
set_option linter.unusedVariables false

/-- In order but for the number at j, which may be too small for those before it. -/
def Ins (R : Nat → Int) (lo j hi : Nat) : Prop := ∀ p q, lo ≤ p → p < q → q ≤ hi → q ≠ j → R p ≤ R q

theorem Ins.start {R : Nat → Int} {lo hi : Nat} (h : Srtd R lo hi) : Ins R lo hi hi := fun p q h1 h2 h3 h4 => h p q h1 h2 (by omega)

theorem Ins.step {R : Nat → Int} {lo j hi : Nat} (h : Ins R lo j hi) (h1 : lo < j) (h2 : j ≤ hi) (hl : R j < R (j - 1)) : Ins (swp R j (j - 1)) lo (j - 1) hi := by
  intro p q hp hpq hq hne
  unfold swp
  by_cases e1 : q = j
  · rw [if_neg (show ¬ p = j by omega), if_pos e1]
    split
    · omega
    · exact h p (j - 1) hp (by omega) (by omega) (by omega)
  · rw [if_neg e1, if_neg (show ¬ q = j - 1 by omega)]
    split
    · exact h (j - 1) q (by omega) (by omega) hq e1
    · split
      · exact h j q (by omega) (by omega) hq e1
      · exact h p q hp hpq hq e1

theorem Ins.done {R : Nat → Int} {lo j hi : Nat} (h : Ins R lo j hi) (h1 : lo ≤ j) (hl : j ≤ lo ∨ R (j - 1) ≤ R j) : Srtd R lo (hi + 1) := by
  intro p q hp hpq hq
  by_cases e : q = j
  · subst e
    rcases hl with hl | hl
    · omega
    · by_cases e2 : p = q - 1
      · subst e2; exact hl
      · have := h p (q - 1) hp (by omega) (by omega) (by omega)
        omega
  · exact h p q hp hpq (by omega) e

theorem srtd_one (R : Nat → Int) {lo hi : Nat} (h : hi ≤ lo + 1) : Srtd R lo hi := fun i j h1 h2 h3 => by omega

set_option maxHeartbeats 2000000 in
theorem insertion (w : World) (g N off n cap a b : Nat) (R : Nat → Int) (hrow : w.rowIs g 50 N (rowU R)) (hoN : off + n ≤ N) (hN : N ≤ 16777216) (hab : a ≤ b) (hb : b ≤ n) :
    Calls Try.prog 55 #[.slice (some ⟨g, off, none⟩) n cap, .int .i64 a, .int .i64 b] w fun e w' => e = .returned (.tuple #[]) ∧ ∃ R', UR w w' g N R' ∧ Sw (off + a) (off + b) R R' ∧ Srtd R' (off + a) (off + b) := by
  have HUR := hid (UR.start hrow)
  clear hrow
  go_enter Try.func55, Try.ntmps55
  go_wp2
  go_loopw [6] (fun vi wr => ∃ (i : Nat) (R1 : Nat → Int), vi = .int .i64 i ∧ a < i ∧ (i ≤ b ∨ i = a + 1) ∧ UR w wr g N R1 ∧ Sw (off + a) (off + b) R R1 ∧ Srtd R1 (off + a) (off + i)) (fun vi _ => b + 1 - (intOf vi).toNat)
  case atStart => exact ⟨a + 1, R, by go_num, by omega, by omega, HUR.out, .refl, srtd_one R (by omega)⟩
  case round =>
    clear HUR
    obtain ⟨i, R1, rfl, hai, hib, hur, hsw, hsr⟩ := hrel
    have HUR := hid hur
    have HSW := hid hsw
    have HSR := hid hsr
    clear hur hsw hsr
    by_cases hlt : i < b
    · go_wp2
      go_loopw [7] (fun vj wr2 => ∃ (j : Nat) (R2 : Nat → Int), vj = .int .i64 j ∧ a ≤ j ∧ j ≤ i ∧ UR w wr2 g N R2 ∧ Sw (off + a) (off + b) R R2 ∧ Ins R2 (off + a) (off + j) (off + i)) (fun vj _ => (intOf vj).toNat)
      case atStart => exact ⟨i, R1, rfl, by omega, Nat.le_refl _, HUR.out, HSW.out, Ins.start HSR.out⟩
      case round =>
        clear HUR HSW HSR
        obtain ⟨j, R2, rfl, haj, hji, hur, hsw, hins⟩ := hrel
        have hcw : ∀ t, t < n → wr.cell? ⟨g, off + t, none⟩ = some (.int .u64 (R2 (off + t))) := fun t ht => hur.cell off t (by omega)
        have hfw : ∀ t, t < n → wr.frozen? ⟨g, off + t, none⟩ = false := fun t ht => hur.frozen _
        have HUR := hid hur
        have HSW := hid hsw
        have HINS := hid hins
        clear hur hsw hins
        have out : (j ≤ a ∨ R2 (off + (j - 1)) ≤ R2 (off + j)) → ∀ q, ∃ (i' : Nat) (R1 : Nat → Int), Value.int .i64 ((i : Int) + 1) = .int .i64 (i' : Nat) ∧ a < i' ∧ (i' ≤ b ∨ i' = a + 1) ∧ UR w (wr.drewN q) g N R1 ∧ Sw (off + a) (off + b) R R1 ∧ Srtd R1 (off + a) (off + i') := fun hs q =>
          ⟨i + 1, R2, by go_num, by omega, by omega, HUR.out.drewN q, HSW.out, HINS.out.done (by omega) (by
            rcases hs with h | h
            · exact .inl (by omega)
            · by_cases e : j ≤ a
              · exact .inl (by omega)
              · right; rw [show off + j - 1 = off + (j - 1) by omega]; exact h)⟩
        have OUT : Hid _ := out
        clear out
        go_wp2
        by_cases hja : a < j
        · go_quiet (first | (go_at_call 61; refine Calls.quiet_of_same (less _ _ _)))
          go_wp2
          · have hl : ltU (R2 (off + j)) (R2 (off + (j - 1))) = true := by assumption
            go_region
            all_goals go_wp2
            go_roundw
            case rel =>
              refine ⟨j - 1, swp R2 (off + j) (off + (j - 1)), by congr 1; omega, by omega, by omega, ?_, HSW.out.step (by omega) (by omega) (by omega) (by omega), ?_⟩
              · exact (HUR.out.drewN (nq + 1)).swap _ _
              · have := HINS.out.step (by omega) (by omega) (by rw [show off + j - 1 = off + (j - 1) by omega]; exact ltU_true hl)
                rw [show off + j - 1 = off + (j - 1) by omega] at this
                exact this
            case measure => simp [intOf]; omega
          · have hl : ltU (R2 (off + j)) (R2 (off + (j - 1))) = false := by assumption
            go_roundw
            case rel => exact OUT.out (Or.inr (ltU_false hl)) nq
            case measure => simp [intOf]; omega
        · go_quiet (first | (go_at_call 61; refine Calls.quiet_of_same (less _ _ _)))
          go_wp2
          go_roundw
          case rel => exact OUT.out (Or.inl (by omega)) nq
          case measure => simp [intOf]; omega
    · go_wp2
      go_end0
      refine ⟨rfl, R1, HUR.out, HSW.out, ?_⟩
      intro x y h1 h2 h3
      exact HSR.out x y h1 h2 (by omega)

end Go.Proofs.Qxb6608903a.U
