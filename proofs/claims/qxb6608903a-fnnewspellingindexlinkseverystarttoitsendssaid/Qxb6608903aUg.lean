/-
  partitionEqualOrdered (62) over a uint64.
-/
import Derived.Test.Qxb6608903aUf
import Derived.Deep.CutBlock
namespace Go.Proofs.Qxb6608903a.U
open Go.RowKit Mem Go.Sort
set_option linter.unusedVariables false

/-- A partition under way: the pivot lies at a; what lies ahead of i is not greater, what lies behind j not less. -/
structure PT (R : Nat → Int) (off a b i j : Nat) : Prop where
  ai : a < i
  jb : j < b
  ij : i ≤ j + 1
  low : ∀ k, a < k → k < i → R (off + k) ≤ R (off + a)
  high : ∀ k, j < k → k < b → R (off + a) ≤ R (off + k)

theorem PT.start (R : Nat → Int) {off a b : Nat} (h : a < b) : PT R off a b (a + 1) (b - 1) := ⟨by omega, by omega, by omega, fun k h1 h2 => by omega, fun k h1 h2 => by omega⟩

theorem PT.up {R : Nat → Int} {off a b i j : Nat} (h : PT R off a b i j) (hij : i ≤ j) (hr : R (off + i) ≤ R (off + a)) : PT R off a b (i + 1) j :=
  ⟨by have := h.ai; omega, h.jb, by omega, fun k h1 h2 => by
    by_cases e : k = i
    · subst e; exact hr
    · exact h.low k h1 (by omega), h.high⟩

theorem PT.down {R : Nat → Int} {off a b i j : Nat} (h : PT R off a b i j) (hij : i ≤ j) (hr : R (off + a) ≤ R (off + j)) : PT R off a b i (j - 1) :=
  ⟨h.ai, by have := h.jb; omega, by omega, h.low, fun k h1 h2 => by
    by_cases e : k = j
    · subst e; exact hr
    · exact h.high k (by omega) h2⟩

theorem PT.swap {R : Nat → Int} {off a b i j : Nat} (h : PT R off a b i j) (hij : i < j) (h1 : R (off + a) ≤ R (off + i)) (h2 : R (off + j) ≤ R (off + a)) : PT (swp R (off + i) (off + j)) off a b (i + 1) (j - 1) := by
  have hai := h.ai
  have hjb := h.jb
  have ea : swp R (off + i) (off + j) (off + a) = R (off + a) := by unfold swp; rw [if_neg (by omega), if_neg (by omega)]
  refine ⟨by omega, by omega, by omega, fun k k1 k2 => ?_, fun k k1 k2 => ?_⟩
  · rw [ea]
    by_cases e : k = i
    · subst e; unfold swp; rw [if_pos rfl]; exact h2
    · have : swp R (off + i) (off + j) (off + k) = R (off + k) := by unfold swp; rw [if_neg (by omega), if_neg (by omega)]
      rw [this]; exact h.low k k1 (by omega)
  · rw [ea]
    by_cases e : k = j
    · subst e; unfold swp; rw [if_neg (by omega), if_pos rfl]; exact h1
    · have : swp R (off + i) (off + j) (off + k) = R (off + k) := by unfold swp; rw [if_neg (by omega), if_neg (by omega)]
      rw [this]; exact h.high k (by omega) k2

/-- What partitionEqual leaves. -/
def PE (w : World) (g N off a b : Nat) (R : Nat → Int) (p : Nat) (e : Ending) (w' : World) : Prop :=
  ∃ (m : Nat) (R' : Nat → Int), e = .returned (.int .i64 m) ∧ a < m ∧ m ≤ b ∧ UR w w' g N R' ∧ Sw (off + a) (off + b) R R' ∧ (∀ k, a ≤ k → k < m → R' (off + k) ≤ R (off + p)) ∧ ∀ k, m ≤ k → k < b → R (off + p) ≤ R' (off + k)

set_option maxHeartbeats 4000000 in
set_option maxRecDepth 100000 in
theorem partEq (w : World) (g N off n cap a b p : Nat) (R : Nat → Int) (hrow : w.rowIs g 50 N (rowU R)) (hoN : off + n ≤ N) (hN : N ≤ 16777216) (hap : a ≤ p) (hpb : p < b) (hb : b ≤ n) :
    Calls Try.prog 62 #[.slice (some ⟨g, off, none⟩) n cap, .int .i64 a, .int .i64 b, .int .i64 p] w fun e w' => PE w g N off a b R p e w' := by
  have HUR := hid (UR.start hrow)
  have hcw : ∀ t, t < n → w.cell? ⟨g, off + t, none⟩ = some (.int .u64 (R (off + t))) := fun t ht => hrow.cell (by omega)
  have hfw : ∀ t, t < n → w.frozen? ⟨g, off + t, none⟩ = false := fun t ht => hrow.frozen _
  clear hrow
  go_enter Try.func62, Try.ntmps62
  go_wp2_with fail
  go_cut [8] (fun v wx => v = .int .i64 0 ∧ UR w wx g N (swp R (off + a) (off + p)))
  case first =>
    by_cases hk0 : a = p
    · subst hk0
      go_region
      all_goals go_wp2
      all_goals go_meet
      case rel => exact ⟨rfl, (HUR.out.drewN 1).swap _ _⟩
    · have hk1 : ¬ (off + a = off + p) := by omega
      go_region
      all_goals go_wp2
      all_goals go_meet
      case rel => exact ⟨rfl, (HUR.out.drewN 1).swap _ _⟩
  case rest =>
    obtain ⟨rfl, hur0⟩ := hcut
    have HUR0 := hid hur0
    have EP : Hid (swp R (off + a) (off + p) (off + a) = R (off + p)) := by unfold swp; rw [if_pos rfl]; exact rfl
    have HSW0 := hid (Sw.refl (R := R).step (lo := off + a) (hi := off + b) (i := off + a) (j := off + p) (by omega) (by omega) (by omega) (by omega))
    clear hur0 HUR hcw hfw
    generalize swp R (off + a) (off + p) = RA at HUR0 EP HSW0
    go_wp2_with fail
    go_loopw [9, 10] (fun vi vj wr => ∃ (i j : Nat) (R1 : Nat → Int), vi = .int .i64 i ∧ vj = .int .i64 j ∧ UR w wr g N R1 ∧ Sw (off + a) (off + b) R R1 ∧ R1 (off + a) = R (off + p) ∧ PT R1 off a b i j) (fun vi vj _ => (intOf vj).toNat + 1 - (intOf vi).toNat)
    case atStart => exact ⟨a + 1, b - 1, RA, by go_num, by congr 1; omega, HUR0.out, HSW0.out, EP.out, PT.start RA (by omega)⟩
    case round =>
      clear HUR0 EP HSW0
      obtain ⟨i0, j0, R1, rfl, rfl, hur, hsw, hep, hpt⟩ := hrel
      have HUR := hid hur
      have HSW := hid hsw
      have EP := hid hep
      have HPT := hid hpt
      clear hur hsw hep hpt
      go_upto_block 2 with fail
      go_cut [9] (fun vi wx => ∃ i : Nat, vi = .int .i64 i ∧ i0 ≤ i ∧ PT R1 off a b i j0 ∧ (i ≤ j0 → R1 (off + a) < R1 (off + i)) ∧ UR w wx g N R1)
      case first =>
        go_wp2_with fail
        go_loopw [9] (fun vi wr => ∃ i : Nat, vi = .int .i64 i ∧ i0 ≤ i ∧ PT R1 off a b i j0 ∧ UR w wr g N R1) (fun vi _ => j0 + 1 - (intOf vi).toNat)
        case atStart => exact ⟨i0, rfl, Nat.le_refl _, HPT.out, HUR.out⟩
        case round =>
          clear HUR HPT
          obtain ⟨i, rfl, hi0i, hpt, hur⟩ := hrel
          have h1 := hpt.ai
          have h2 := hpt.jb
          have h3 := hpt.ij
          have hcw : ∀ t, t < n → wr.cell? ⟨g, off + t, none⟩ = some (.int .u64 (R1 (off + t))) := fun t ht => hur.cell off t (by omega)
          have HUR := hid hur
          have HPT := hid hpt
          clear hur hpt
          by_cases hij : i ≤ j0
          · have hijz : (i : Int) ≤ (j0 : Int) := by omega
            go_wp2_with fail
            go_quiet (first | (go_at_call 61; refine Calls.quiet_of_same (less _ _ _)))
            go_wp2_with fail
            · have hl : ltU (R1 (off + a)) (R1 (off + i)) = false := by
                  have : (!ltU (R1 (off + a)) (R1 (off + i))) = true := by assumption
                  simpa using this
              exact ⟨⟨i + 1, by go_num, by omega, HPT.out.up hij (ltU_false hl), HUR.out.drewN nq⟩, by simp [intOf]; omega⟩
            · have hl : ltU (R1 (off + a)) (R1 (off + i)) = true := by
                  have : (!ltU (R1 (off + a)) (R1 (off + i))) = false := by assumption
                  simpa using this
              go_meet
              case rel => exact ⟨i, rfl, hi0i, HPT.out, fun _ => ltU_true hl, HUR.out.drewN nq⟩
          · have hijz : decide ((i : Int) ≤ (j0 : Int)) = false := decide_eq_false (by omega)
            go_wp2_with fail
            go_quiet (first | (go_at_call 61; refine Calls.quiet_of_same (less _ _ _)))
            go_wp2_with fail
            go_meet
            case rel => exact ⟨i, rfl, hi0i, HPT.out, fun h => absurd h hij, HUR.out.drewN nq⟩
      case rest =>
        obtain ⟨i, rfl, hi0i, hpt, hge, hur⟩ := hcut
        clear HUR HPT
        have HUR := hid hur
        have HPT := hid hpt
        have HGE := hid hge
        have h1 := hpt.ai
        clear hur hpt hge
        go_upto_block 4 with fail
        go_cut [10] (fun vj wx => ∃ j : Nat, vj = .int .i64 j ∧ j ≤ j0 ∧ PT R1 off a b i j ∧ (i ≤ j → R1 (off + j) ≤ R1 (off + a)) ∧ UR w wx g N R1)
        case first =>
          go_wp2_with fail
          go_loopw [10] (fun vj wr => ∃ j : Nat, vj = .int .i64 j ∧ j ≤ j0 ∧ PT R1 off a b i j ∧ UR w wr g N R1) (fun vj _ => (intOf vj).toNat + 1 - i)
          case atStart => exact ⟨j0, rfl, Nat.le_refl _, HPT.out, HUR.out⟩
          case round =>
            clear HUR HPT
            obtain ⟨j, rfl, hjj, hpt, hur⟩ := hrel
            have h2 := hpt.jb
            have h3 := hpt.ij
            have hcw : ∀ t, t < n → wr.cell? ⟨g, off + t, none⟩ = some (.int .u64 (R1 (off + t))) := fun t ht => hur.cell off t (by omega)
            have HUR := hid hur
            have HPT := hid hpt
            clear hur hpt
            by_cases hij : i ≤ j
            · have hijz : (i : Int) ≤ (j : Int) := by omega
              go_wp2_with fail
              go_quiet (first | (go_at_call 61; refine Calls.quiet_of_same (less _ _ _)))
              go_wp2_with fail
              · have hl : ltU (R1 (off + a)) (R1 (off + j)) = true := by assumption
                exact ⟨⟨j - 1, by congr 1; omega, by omega, HPT.out.down hij (Int.le_of_lt (ltU_true hl)), HUR.out.drewN nq⟩, by simp [intOf]; omega⟩
              · have hl : ltU (R1 (off + a)) (R1 (off + j)) = false := by assumption
                go_meet
                case rel => exact ⟨j, rfl, hjj, HPT.out, fun _ => ltU_false hl, HUR.out.drewN nq⟩
            · have hijz : decide ((i : Int) ≤ (j : Int)) = false := decide_eq_false (by omega)
              go_wp2_with fail
              go_quiet (first | (go_at_call 61; refine Calls.quiet_of_same (less _ _ _)))
              go_wp2_with fail
              go_meet
              case rel => exact ⟨j, rfl, hjj, HPT.out, fun h => absurd h hij, HUR.out.drewN nq⟩
        case rest =>
          obtain ⟨j, rfl, hjj, hpt, hle, hur⟩ := hcut
          clear HUR HPT
          have h2 := hpt.jb
          have h3 := hpt.ij
          have hcw : ∀ t, t < n → wc.cell? ⟨g, off + t, none⟩ = some (.int .u64 (R1 (off + t))) := fun t ht => hur.cell off t (by omega)
          have hfw : ∀ t, t < n → wc.frozen? ⟨g, off + t, none⟩ = false := fun t ht => hur.frozen _
          have HUR := hid hur
          have HPT := hid hpt
          have HLE := hid hle
          clear hur hpt hle
          by_cases hij : j < i
          · have hijz : (j : Int) < (i : Int) := by omega
            go_wp2_with fail
            go_ret
            refine ⟨i, R1, rfl, h1, by omega, HUR.out, HSW.out, fun k k1 k2 => ?_, fun k k1 k2 => ?_⟩
            · rw [← EP.out]
              by_cases e : k = a
              · subst e; exact Int.le_refl _
              · exact HPT.out.low k (by omega) k2
            · rw [← EP.out]
              exact HPT.out.high k (by omega) k2
          · have hijz : ¬ (j : Int) < (i : Int) := by omega
            have hge := HGE.out (by omega)
            have hle := HLE.out (by omega)
            have hne : i < j := by
              by_cases e : i = j
              · subst e; omega
              · omega
            have hk1 : ¬ (off + i = off + j) := by omega
            have HPT2 := hid (HPT.out.swap hne (by omega) (by omega))
            clear hge hle
            go_wp2_with fail
            go_region
            all_goals go_wp2
            refine ⟨⟨i + 1, j - 1, swp R1 (off + i) (off + j), by go_num, by congr 1; omega, (HUR.out.drewN 1).swap _ _, HSW.out.step (by omega) (by omega) (by omega) (by omega), ?_, HPT2.out⟩, by simp [intOf]; omega⟩
            rw [← EP.out]
            unfold swp
            rw [if_neg (by omega), if_neg (by omega)]

end Go.Proofs.Qxb6608903a.U
