/-
  partitionOrdered (63) over a uint64.
-/
import Derived.Test.Qxb6608903aUg
namespace Go.Proofs.Qxb6608903a.U
open Go.RowKit Mem Go.Sort
set_option linter.unusedVariables false

theorem PT.done {R : Nat → Int} {off a b i j : Nat} (h : PT R off a b i j) (hij : j < i) : (∀ k, a ≤ k → k < j → swp R (off + j) (off + a) (off + k) ≤ swp R (off + j) (off + a) (off + j)) ∧ ∀ k, j < k → k < b → swp R (off + j) (off + a) (off + j) ≤ swp R (off + j) (off + a) (off + k) := by
  have hai := h.ai
  have hij2 := h.ij
  have ej : swp R (off + j) (off + a) (off + j) = R (off + a) := by unfold swp; rw [if_pos rfl]
  rw [ej]
  refine ⟨fun k k1 k2 => ?_, fun k k1 k2 => ?_⟩
  · unfold swp
    rw [if_neg (by omega)]
    split
    · exact h.low j (by omega) hij
    · exact h.low k (by omega) (by omega)
  · unfold swp
    rw [if_neg (by omega), if_neg (by omega)]
    exact h.high k k1 k2

/-- What partition leaves. -/
def PP (w : World) (g N off a b : Nat) (R : Nat → Int) (e : Ending) (w' : World) : Prop :=
  ∃ (m : Nat) (r : Bool) (R' : Nat → Int), e = .returned (.tuple #[.int .i64 m, .bool r]) ∧ a ≤ m ∧ m < b ∧ UR w w' g N R' ∧ Sw (off + a) (off + b) R R' ∧ (∀ k, a ≤ k → k < m → R' (off + k) ≤ R' (off + m)) ∧ ∀ k, m < k → k < b → R' (off + m) ≤ R' (off + k)

set_option maxHeartbeats 4000000 in
set_option maxRecDepth 100000 in
theorem part (w : World) (g N off n cap a b p : Nat) (R : Nat → Int) (hrow : w.rowIs g 50 N (rowU R)) (hoN : off + n ≤ N) (hN : N ≤ 16777216) (hap : a ≤ p) (hpb : p < b) (hb : b ≤ n) :
    Calls Try.prog 63 #[.slice (some ⟨g, off, none⟩) n cap, .int .i64 a, .int .i64 b, .int .i64 p] w fun e w' => PP w g N off a b R e w' := by
  have HUR := hid (UR.start hrow)
  have hcw : ∀ t, t < n → w.cell? ⟨g, off + t, none⟩ = some (.int .u64 (R (off + t))) := fun t ht => hrow.cell (by omega)
  have hfw : ∀ t, t < n → w.frozen? ⟨g, off + t, none⟩ = false := fun t ht => hrow.frozen _
  clear hrow
  go_enter Try.func63, Try.ntmps63
  go_wp2_with fail
  go_cut [8] (fun v wx => v = .int .i64 0 ∧ UR w wx g N (swp R (off + a) (off + p)))
  case first =>
    by_cases hk0 : a = p
    · subst hk0
      go_region
      all_goals go_wp2
      all_goals go_meet
      case rel => exact ⟨rfl, (HUR.out.drewN 1).swap _ _⟩
    · have hk1 : ¬ (off + a = off + p) := by omega
      go_region
      all_goals go_wp2
      all_goals go_meet
      case rel => exact ⟨rfl, (HUR.out.drewN 1).swap _ _⟩
  case rest =>
    obtain ⟨rfl, hur0⟩ := hcut
    clear HUR hcw hfw
    have HUR := hid hur0
    have HSW := hid (Sw.refl (R := R).step (lo := off + a) (hi := off + b) (i := off + a) (j := off + p) (by omega) (by omega) (by omega) (by omega))
    clear hur0
    generalize swp R (off + a) (off + p) = R1 at HUR HSW
    obtain ⟨i0, hi0⟩ : ∃ i0, i0 = a + 1 := ⟨_, rfl⟩
    obtain ⟨j0, hj0⟩ : ∃ j0, j0 = b - 1 := ⟨_, rfl⟩
    have ei : ((a : Int) + 1) = (i0 : Int) := by omega
    have ej : ((b : Int) - 1) = (j0 : Int) := by omega
    have HPT := hid (PT.start R1 (off := off) (a := a) (b := b) (by omega))
    rw [← hi0, ← hj0] at HPT
    clear hi0 hj0
    go_upto_block 0 with fail
    go_cut [10] (fun vi wx => ∃ i : Nat, vi = .int .i64 i ∧ i0 ≤ i ∧ PT R1 off a b i j0 ∧ (i ≤ j0 → R1 (off + a) ≤ R1 (off + i)) ∧ UR w wx g N R1)
    case first =>
      go_wp2_with fail
      go_loopw [10] (fun vi wr => ∃ i : Nat, vi = .int .i64 i ∧ i0 ≤ i ∧ PT R1 off a b i j0 ∧ UR w wr g N R1) (fun vi _ => j0 + 1 - (intOf vi).toNat)
      case atStart => exact ⟨i0, rfl, Nat.le_refl _, HPT.out, HUR.out⟩
      case round =>
        clear HUR HPT
        obtain ⟨i, rfl, hi0i, hpt, hur⟩ := hrel
        have h1 := hpt.ai
        have h2 := hpt.jb
        have h3 := hpt.ij
        have hcw : ∀ t, t < n → wr.cell? ⟨g, off + t, none⟩ = some (.int .u64 (R1 (off + t))) := fun t ht => hur.cell off t (by omega)
        have HUR := hid hur
        have HPT := hid hpt
        clear hur hpt
        by_cases hij : i ≤ j0
        · have hijz : (i : Int) ≤ (j0 : Int) := by omega
          go_wp2_with fail
          go_quiet (first | (go_at_call 61; refine Calls.quiet_of_same (less _ _ _)))
          go_wp2_with fail
          · have hl : ltU (R1 (off + i)) (R1 (off + a)) = true := by assumption
            exact ⟨⟨i + 1, by go_num, by omega, HPT.out.up hij (Int.le_of_lt (ltU_true hl)), HUR.out.drewN nq⟩, by simp [intOf]; omega⟩
          · have hl : ltU (R1 (off + i)) (R1 (off + a)) = false := by assumption
            go_meet
            case rel => exact ⟨i, rfl, hi0i, HPT.out, fun _ => ltU_false hl, HUR.out.drewN nq⟩
        · have hijz : decide ((i : Int) ≤ (j0 : Int)) = false := decide_eq_false (by omega)
          go_wp2_with fail
          go_quiet (first | (go_at_call 61; refine Calls.quiet_of_same (less _ _ _)))
          go_wp2_with fail
          go_meet
          case rel => exact ⟨i, rfl, hi0i, HPT.out, fun h => absurd h hij, HUR.out.drewN nq⟩
    case rest =>
      obtain ⟨i, rfl, hi0i, hpt, hge, hur⟩ := hcut
      clear HUR HPT
      have HUR := hid hur
      have HPT := hid hpt
      have HGE := hid hge
      have h1 := hpt.ai
      clear hur hpt hge
      go_upto_block 2 with fail
      go_cut [11] (fun vj wx => ∃ j : Nat, vj = .int .i64 j ∧ j ≤ j0 ∧ PT R1 off a b i j ∧ (i ≤ j → R1 (off + j) < R1 (off + a)) ∧ UR w wx g N R1)
      case first =>
        go_wp2_with fail
        go_loopw [11] (fun vj wr => ∃ j : Nat, vj = .int .i64 j ∧ j ≤ j0 ∧ PT R1 off a b i j ∧ UR w wr g N R1) (fun vj _ => (intOf vj).toNat + 1 - i)
        case atStart => exact ⟨j0, rfl, Nat.le_refl _, HPT.out, HUR.out⟩
        case round =>
          clear HUR HPT
          obtain ⟨j, rfl, hjj, hpt, hur⟩ := hrel
          have h2 := hpt.jb
          have h3 := hpt.ij
          have hcw : ∀ t, t < n → wr.cell? ⟨g, off + t, none⟩ = some (.int .u64 (R1 (off + t))) := fun t ht => hur.cell off t (by omega)
          have HUR := hid hur
          have HPT := hid hpt
          clear hur hpt
          by_cases hij : i ≤ j
          · have hijz : (i : Int) ≤ (j : Int) := by omega
            go_wp2_with fail
            go_quiet (first | (go_at_call 61; refine Calls.quiet_of_same (less _ _ _)))
            go_wp2_with fail
            · have hl : ltU (R1 (off + j)) (R1 (off + a)) = false := by
                  have : (!ltU (R1 (off + j)) (R1 (off + a))) = true := by assumption
                  simpa using this
              exact ⟨⟨j - 1, by congr 1; omega, by omega, HPT.out.down hij (ltU_false hl), HUR.out.drewN nq⟩, by simp [intOf]; omega⟩
            · have hl : ltU (R1 (off + j)) (R1 (off + a)) = true := by
                  have : (!ltU (R1 (off + j)) (R1 (off + a))) = false := by assumption
                  simpa using this
              go_meet
              case rel => exact ⟨j, rfl, hjj, HPT.out, fun _ => ltU_true hl, HUR.out.drewN nq⟩
          · have hijz : decide ((i : Int) ≤ (j : Int)) = false := decide_eq_false (by omega)
            go_wp2_with fail
            go_quiet (first | (go_at_call 61; refine Calls.quiet_of_same (less _ _ _)))
            go_wp2_with fail
            go_meet
            case rel => exact ⟨j, rfl, hjj, HPT.out, fun h => absurd h hij, HUR.out.drewN nq⟩
      case rest =>
        obtain ⟨j, rfl, hjj, hpt, hle, hur⟩ := hcut
        clear HUR HPT
        have h2 := hpt.jb
        have h3 := hpt.ij
        have hcw : ∀ t, t < n → wc.cell? ⟨g, off + t, none⟩ = some (.int .u64 (R1 (off + t))) := fun t ht => hur.cell off t (by omega)
        have hfw : ∀ t, t < n → wc.frozen? ⟨g, off + t, none⟩ = false := fun t ht => hur.frozen _
        have HUR := hid hur
        have HPT := hid hpt
        have HLE := hid hle
        clear hur hpt hle
        by_cases hij : j < i
        · have hijz : (j : Int) < (i : Int) := by omega
          have HD := hid (HPT.out.done hij)
          go_wp2_with fail
          by_cases hk0 : j = a
          · subst hk0
            go_region
            all_goals go_wp2
            go_ret2
            exact ⟨j, true, swp R1 (off + j) (off + j), rfl, by omega, by omega, (HUR.out.drewN 1).swap _ _, HSW.out.step (by omega) (by omega) (by omega) (by omega), HD.out.1, HD.out.2⟩
          · have hk1 : ¬ (off + j = off + a) := by omega
            go_region
            all_goals go_wp2
            go_ret2
            exact ⟨j, true, swp R1 (off + j) (off + a), rfl, by omega, by omega, (HUR.out.drewN 1).swap _ _, HSW.out.step (by omega) (by omega) (by omega) (by omega), HD.out.1, HD.out.2⟩
        · have hijz : ¬ (j : Int) < (i : Int) := by omega
          have hge := HGE.out (by omega)
          have hle := HLE.out (by omega)
          have hne : i < j := by
            by_cases e : i = j
            · subst e; omega
            · omega
          have hk1 : ¬ (off + i = off + j) := by omega
          have HPT2 := hid (HPT.out.swap hne (by omega) (by omega))
          have HSW2 := hid (HSW.out.step (i := off + i) (j := off + j) (by omega) (by omega) (by omega) (by omega))
          have HUR5 := hid (fun q => (HUR.out.drewN q).swap (off + i) (off + j))
          clear hge hle
          go_wp2_with fail
          go_region
          go_wp2_with fail
          go_loopw [10, 11] (fun vi vj wr => ∃ (i j : Nat) (R1 : Nat → Int), vi = .int .i64 i ∧ vj = .int .i64 j ∧ UR w wr g N R1 ∧ Sw (off + a) (off + b) R R1 ∧ PT R1 off a b i j) (fun vi vj _ => (intOf vj).toNat + 1 - (intOf vi).toNat)
          case atStart => exact ⟨i + 1, j - 1, swp R1 (off + i) (off + j), by go_num, by congr 1; omega, HUR5.out 1, HSW2.out, HPT2.out⟩
          case round =>
            clear HUR HPT HGE HLE HSW HPT2 HSW2 HUR5 hcw hfw hk1 hne hijz hij h1 h2 h3 hi0i hjj
            obtain ⟨i0, j0, R1, rfl, rfl, hur, hsw, hpt⟩ := hrel
            have HUR := hid hur
            have HSW := hid hsw
            have HPT := hid hpt
            clear hur hsw hpt
            go_upto_block 6 with fail
            go_cut [10] (fun vi wx => ∃ i : Nat, vi = .int .i64 i ∧ i0 ≤ i ∧ PT R1 off a b i j0 ∧ (i ≤ j0 → R1 (off + a) ≤ R1 (off + i)) ∧ UR w wx g N R1)
            case first =>
              go_wp2_with fail
              go_loopw [10] (fun vi wr => ∃ i : Nat, vi = .int .i64 i ∧ i0 ≤ i ∧ PT R1 off a b i j0 ∧ UR w wr g N R1) (fun vi _ => j0 + 1 - (intOf vi).toNat)
              case atStart => exact ⟨i0, rfl, Nat.le_refl _, HPT.out, HUR.out⟩
              case round =>
                clear HUR HPT
                obtain ⟨i, rfl, hi0i, hpt, hur⟩ := hrel
                have h1 := hpt.ai
                have h2 := hpt.jb
                have h3 := hpt.ij
                have hcw : ∀ t, t < n → wr.cell? ⟨g, off + t, none⟩ = some (.int .u64 (R1 (off + t))) := fun t ht => hur.cell off t (by omega)
                have HUR := hid hur
                have HPT := hid hpt
                clear hur hpt
                by_cases hij : i ≤ j0
                · have hijz : (i : Int) ≤ (j0 : Int) := by omega
                  go_wp2_with fail
                  go_quiet (first | (go_at_call 61; refine Calls.quiet_of_same (less _ _ _)))
                  go_wp2_with fail
                  · have hl : ltU (R1 (off + i)) (R1 (off + a)) = true := by assumption
                    exact ⟨⟨i + 1, by go_num, by omega, HPT.out.up hij (Int.le_of_lt (ltU_true hl)), HUR.out.drewN nq⟩, by simp [intOf]; omega⟩
                  · have hl : ltU (R1 (off + i)) (R1 (off + a)) = false := by assumption
                    go_meet
                    case rel => exact ⟨i, rfl, hi0i, HPT.out, fun _ => ltU_false hl, HUR.out.drewN nq⟩
                · have hijz : decide ((i : Int) ≤ (j0 : Int)) = false := decide_eq_false (by omega)
                  go_wp2_with fail
                  go_quiet (first | (go_at_call 61; refine Calls.quiet_of_same (less _ _ _)))
                  go_wp2_with fail
                  go_meet
                  case rel => exact ⟨i, rfl, hi0i, HPT.out, fun h => absurd h hij, HUR.out.drewN nq⟩
            case rest =>
              obtain ⟨i, rfl, hi0i, hpt, hge, hur⟩ := hcut
              clear HUR HPT
              have HUR := hid hur
              have HPT := hid hpt
              have HGE := hid hge
              have h1 := hpt.ai
              clear hur hpt hge
              go_upto_block 8 with fail
              go_cut [11] (fun vj wx => ∃ j : Nat, vj = .int .i64 j ∧ j ≤ j0 ∧ PT R1 off a b i j ∧ (i ≤ j → R1 (off + j) < R1 (off + a)) ∧ UR w wx g N R1)
              case first =>
                go_wp2_with fail
                go_loopw [11] (fun vj wr => ∃ j : Nat, vj = .int .i64 j ∧ j ≤ j0 ∧ PT R1 off a b i j ∧ UR w wr g N R1) (fun vj _ => (intOf vj).toNat + 1 - i)
                case atStart => exact ⟨j0, rfl, Nat.le_refl _, HPT.out, HUR.out⟩
                case round =>
                  clear HUR HPT
                  obtain ⟨j, rfl, hjj, hpt, hur⟩ := hrel
                  have h2 := hpt.jb
                  have h3 := hpt.ij
                  have hcw : ∀ t, t < n → wr.cell? ⟨g, off + t, none⟩ = some (.int .u64 (R1 (off + t))) := fun t ht => hur.cell off t (by omega)
                  have HUR := hid hur
                  have HPT := hid hpt
                  clear hur hpt
                  by_cases hij : i ≤ j
                  · have hijz : (i : Int) ≤ (j : Int) := by omega
                    go_wp2_with fail
                    go_quiet (first | (go_at_call 61; refine Calls.quiet_of_same (less _ _ _)))
                    go_wp2_with fail
                    · have hl : ltU (R1 (off + j)) (R1 (off + a)) = false := by
                          have : (!ltU (R1 (off + j)) (R1 (off + a))) = true := by assumption
                          simpa using this
                      exact ⟨⟨j - 1, by congr 1; omega, by omega, HPT.out.down hij (ltU_false hl), HUR.out.drewN nq⟩, by simp [intOf]; omega⟩
                    · have hl : ltU (R1 (off + j)) (R1 (off + a)) = true := by
                          have : (!ltU (R1 (off + j)) (R1 (off + a))) = false := by assumption
                          simpa using this
                      go_meet
                      case rel => exact ⟨j, rfl, hjj, HPT.out, fun _ => ltU_true hl, HUR.out.drewN nq⟩
                  · have hijz : decide ((i : Int) ≤ (j : Int)) = false := decide_eq_false (by omega)
                    go_wp2_with fail
                    go_quiet (first | (go_at_call 61; refine Calls.quiet_of_same (less _ _ _)))
                    go_wp2_with fail
                    go_meet
                    case rel => exact ⟨j, rfl, hjj, HPT.out, fun h => absurd h hij, HUR.out.drewN nq⟩
              case rest =>
                obtain ⟨j, rfl, hjj, hpt, hle, hur⟩ := hcut
                clear HUR HPT
                have h2 := hpt.jb
                have h3 := hpt.ij
                have hcw : ∀ t, t < n → wc.cell? ⟨g, off + t, none⟩ = some (.int .u64 (R1 (off + t))) := fun t ht => hur.cell off t (by omega)
                have hfw : ∀ t, t < n → wc.frozen? ⟨g, off + t, none⟩ = false := fun t ht => hur.frozen _
                have HUR := hid hur
                have HPT := hid hpt
                have HLE := hid hle
                clear hur hpt hle
                by_cases hij : j < i
                · have hijz : (j : Int) < (i : Int) := by omega
                  have HD := hid (HPT.out.done hij)
                  go_wp2_with fail
                  by_cases hk0 : j = a
                  · subst hk0
                    go_region
                    all_goals go_wp2
                    go_ret2
                    exact ⟨j, false, swp R1 (off + j) (off + j), rfl, by omega, by omega, (HUR.out.drewN 1).swap _ _, HSW.out.step (by omega) (by omega) (by omega) (by omega), HD.out.1, HD.out.2⟩
                  · have hk1 : ¬ (off + j = off + a) := by omega
                    go_region
                    all_goals go_wp2
                    go_ret2
                    exact ⟨j, false, swp R1 (off + j) (off + a), rfl, by omega, by omega, (HUR.out.drewN 1).swap _ _, HSW.out.step (by omega) (by omega) (by omega) (by omega), HD.out.1, HD.out.2⟩
                · have hijz : ¬ (j : Int) < (i : Int) := by omega
                  have hge := HGE.out (by omega)
                  have hle := HLE.out (by omega)
                  have hne : i < j := by
                    by_cases e : i = j
                    · subst e; omega
                    · omega
                  have hk1 : ¬ (off + i = off + j) := by omega
                  have HPT2 := hid (HPT.out.swap hne (by omega) (by omega))
                  have HSW2 := hid (HSW.out.step (i := off + i) (j := off + j) (by omega) (by omega) (by omega) (by omega))
                  have HUR5 := hid (fun q => (HUR.out.drewN q).swap (off + i) (off + j))
                  clear hge hle
                  go_wp2_with fail
                  go_region
                  all_goals go_wp2
                  exact ⟨⟨i + 1, j - 1, swp R1 (off + i) (off + j), by go_num, by congr 1; omega, HUR5.out 1, HSW2.out, HPT2.out⟩, by simp [intOf]; omega⟩

end Go.Proofs.Qxb6608903a.U
