/-
  zzCmpRunes (39), zzLcp (14), zzOrder.cmp (30) at kind 0.
-/
import Derived.Test.Qxb6608903aPf
import Derived.Test.Qxb6608903aSi
import Derived.Test.Qxb6608903aPa
namespace Go.Proofs.Qxb6608903a.CmpW
open Go.RowKit Plain Mem Go.Sort SortW
set_option linter.unusedVariables false

theorem drop_rn {t : List Int} {i : Nat} (h : i < t.length) : t.drop i = rn t i :: t.drop (i + 1) := by
  rw [List.drop_eq_getElem_cons h]
  congr 1
  unfold rn
  rw [List.getD_eq_getElem?_getD, List.getElem?_eq_getElem h]; rfl

theorem cmpR_step {a b : List Int} {i : Nat} (ha : i < a.length) (hb : i < b.length) : cmpR (a.drop i) (b.drop i) = if rn a i < rn b i then -1 else if rn b i < rn a i then 1 else cmpR (a.drop (i + 1)) (b.drop (i + 1)) := by
  rw [drop_rn ha, drop_rn hb]; rfl

theorem lcp_step {a b : List Int} {i : Nat} (ha : i < a.length) (hb : i < b.length) : lcp (a.drop i) (b.drop i) = if rn a i = rn b i then lcp (a.drop (i + 1)) (b.drop (i + 1)) + 1 else 0 := by
  rw [drop_rn ha, drop_rn hb]; rfl

theorem ret_int {k : IntKind} {a b : Int} (h : a = b) : Ending.returned (.int k a) = .returned (.int k b) := by rw [h]

/-- The cells of a text. -/
def RC (w : World) (a : Option Addr) (t : List Int) : Prop := t = [] ∨ ∃ b off, a = some ⟨b, off, none⟩ ∧ ∀ j, j < t.length → w.cell? ⟨b, off + j, none⟩ = some (.int .i32 (rn t j))

theorem RC.same {w w' : World} {a : Option Addr} {t : List Int} (h : RC w a t) (hb : Below w.heap.size w w') : RC w' a t := by
  rcases h with h | ⟨b, off, ha, hc⟩
  · exact .inl h
  · exact .inr ⟨b, off, ha, fun j hj => by rw [hb.cell (old_of (hc j hj))]; exact hc j hj⟩

set_option maxHeartbeats 1000000 in
theorem cmpRunes (w : World) (a1 a2 : Option Addr) (c1 c2 : Nat) (s t : List Int) (hs : s.length ≤ 4194304) (ht : t.length ≤ 4194304) (h1 : RC w a1 s) (h2 : RC w a2 t) :
    Calls Try.prog 39 #[.slice a1 s.length c1, .slice a2 t.length c2] w fun e w' => e = .returned (.int .i64 (cmpR s t)) ∧ ∃ q, w' = w.drewN q := by
  have H1 := hid h1
  have H2 := hid h2
  clear h1 h2
  go_enter Try.func39, Try.ntmps39
  go_wp2
  go_loopw [5] (fun iv wr => ∃ i q : Nat, iv = .int .i64 i ∧ i ≤ s.length ∧ i ≤ t.length ∧ cmpR (s.drop i) (t.drop i) = cmpR s t ∧ wr = w.drewN q) (fun iv _ => s.length - (intOf iv).toNat)
  case atStart => exact ⟨0, 0, rfl, Nat.zero_le _, Nat.zero_le _, rfl, rfl⟩
  case round =>
    obtain ⟨i, q, rfl, hi1, hi2, hcm, rfl⟩ := hrel
    have HCM := hid hcm
    clear hcm
    by_cases l1 : i < s.length
    · by_cases l2 : i < t.length
      · rcases H1.out with e | ⟨b1, o1, rfl, k1⟩
        · subst e; exact absurd l1 (by simp)
        · rcases H2.out with e | ⟨b2, o2, rfl, k2⟩
          · subst e; exact absurd l2 (by simp)
          · have x1 : w.cell? ⟨b1, o1 + i, none⟩ = some (.int .i32 (rn s i)) := k1 i l1
            have x2 : w.cell? ⟨b2, o2 + i, none⟩ = some (.int .i32 (rn t i)) := k2 i l2
            have HST := hid (cmpR_step l1 l2)
            have i0 : (0 : Int) ≤ (i : Int) := Int.natCast_nonneg _
            have i1 : (i : Int) < (s.length : Int) := by omega
            have i2 : (i : Int) < (t.length : Int) := by omega
            clear k1 k2
            by_cases y1 : rn s i < rn t i
            · have HF : Hid (cmpR s t = -1) := by unfold Hid; rw [← HCM.out, HST.out, if_pos y1]
              go_wp2
              go_quiet (fail)
              go_wp2
              go_ret
              exact ⟨ret_int HF.out.symm, _, World.drewN_drewN ..⟩
            · by_cases y2 : rn t i < rn s i
              · have HF : Hid (cmpR s t = 1) := by unfold Hid; rw [← HCM.out, HST.out, if_neg y1, if_pos y2]
                go_wp2
                go_quiet (fail)
                go_wp2
                go_quiet (fail)
                go_wp2
                go_ret
                exact ⟨ret_int HF.out.symm, by simp only [World.drewN_drewN]; exact ⟨_, rfl⟩⟩
              · have HF : Hid (cmpR (s.drop (i + 1)) (t.drop (i + 1)) = cmpR s t) := by unfold Hid; rw [← HCM.out, HST.out, if_neg y1, if_neg y2]
                go_wp2
                go_quiet (fail)
                go_wp2
                go_quiet (fail)
                go_wp2
                exact ⟨⟨i + 1, _, by go_num, by omega, by omega, HF.out, rfl⟩, by simp [intOf]; omega⟩
      · have HF : Hid (cmpR s t = 1) := by
          unfold Hid
          rw [← HCM.out, List.drop_eq_nil_of_le (show t.length ≤ i by omega), drop_rn l1]
          rfl
        have e : (t.length : Int) < (s.length : Int) := by omega
        have e2 : (t.length : Int) ≤ (s.length : Int) := by omega
        go_wp2
        go_ret
        exact ⟨ret_int HF.out.symm, _, rfl⟩
    · by_cases l2 : s.length < t.length
      · have HF : Hid (cmpR s t = -1) := by
          unfold Hid
          rw [← HCM.out, List.drop_eq_nil_of_le (show s.length ≤ i by omega), drop_rn (show i < t.length by omega)]
          rfl
        have e : (s.length : Int) < (t.length : Int) := by omega
        go_wp2
        go_ret
        exact ⟨ret_int HF.out.symm, _, rfl⟩
      · have HF : Hid (cmpR s t = 0) := by
          unfold Hid
          rw [← HCM.out, List.drop_eq_nil_of_le (show s.length ≤ i by omega), List.drop_eq_nil_of_le (show t.length ≤ i by omega)]
          rfl
        have e : (t.length : Int) ≤ (s.length : Int) := by omega
        have e2 : (s.length : Int) ≤ (t.length : Int) := by omega
        go_wp2
        go_ret
        exact ⟨ret_int HF.out.symm, _, rfl⟩

set_option maxHeartbeats 1000000 in
theorem lcpRunes (w : World) (a1 a2 : Option Addr) (c1 c2 : Nat) (s t : List Int) (hs : s.length ≤ 4194304) (ht : t.length ≤ 4194304) (h1 : RC w a1 s) (h2 : RC w a2 t) :
    Calls Try.prog 14 #[.slice a1 s.length c1, .slice a2 t.length c2] w fun e w' => e = .returned (.int .i64 (lcp s t : Nat)) ∧ ∃ q, w' = w.drewN q := by
  have H1 := hid h1
  have H2 := hid h2
  clear h1 h2
  go_enter Try.func14, Try.ntmps14
  go_wp2
  go_loopw [5] (fun iv wr => ∃ i q : Nat, iv = .int .i64 i ∧ i ≤ s.length ∧ i ≤ t.length ∧ lcp s t = i + lcp (s.drop i) (t.drop i) ∧ wr = w.drewN q) (fun iv _ => s.length - (intOf iv).toNat)
  case atStart => exact ⟨0, 0, rfl, Nat.zero_le _, Nat.zero_le _, by simp, rfl⟩
  case round =>
    obtain ⟨i, q, rfl, hi1, hi2, hcm, rfl⟩ := hrel
    have HCM := hid hcm
    clear hcm
    by_cases l1 : i < s.length
    · have d1 : decide (i < s.length) = true := by simpa using l1
      by_cases l2 : i < t.length
      · have d2 : decide (i < t.length) = true := by simpa using l2
        rcases H1.out with e | ⟨b1, o1, rfl, k1⟩
        · subst e; exact absurd l1 (by simp)
        · rcases H2.out with e | ⟨b2, o2, rfl, k2⟩
          · subst e; exact absurd l2 (by simp)
          · have x1 : w.cell? ⟨b1, o1 + i, none⟩ = some (.int .i32 (rn s i)) := k1 i l1
            have x2 : w.cell? ⟨b2, o2 + i, none⟩ = some (.int .i32 (rn t i)) := k2 i l2
            have HST := hid (lcp_step l1 l2)
            have i0 : (0 : Int) ≤ (i : Int) := Int.natCast_nonneg _
            have i1 : (i : Int) < (s.length : Int) := by omega
            have i2 : (i : Int) < (t.length : Int) := by omega
            clear k1 k2
            by_cases y1 : rn s i = rn t i
            · have HF : Hid (lcp s t = i + 1 + lcp (s.drop (i + 1)) (t.drop (i + 1))) := by unfold Hid; rw [HCM.out, HST.out, if_pos y1]; omega
              have y2 : (rn s i == rn t i) = true := by simpa using y1
              clear y1
              go_wp2
              go_quiet (fail)
              go_wp2
              exact ⟨⟨i + 1, _, by go_num, by omega, by omega, HF.out, rfl⟩, by simp [intOf]; omega⟩
            · have HF : Hid (lcp s t = i) := by unfold Hid; rw [HCM.out, HST.out, if_neg y1]; omega
              have y2 : (rn s i == rn t i) = false := by simpa using y1
              clear y1
              go_wp2
              go_quiet (fail)
              go_wp2
              go_ret
              exact ⟨ret_int (by rw [HF.out]), by simp only [World.drewN_drewN]; exact ⟨_, rfl⟩⟩
      · have d2 : decide (i < t.length) = false := by simpa using l2
        have HF : Hid (lcp s t = i) := by
          unfold Hid
          rw [HCM.out, List.drop_eq_nil_of_le (show t.length ≤ i by omega), drop_rn l1]
          rfl
        go_wp2
        go_quiet (fail)
        go_wp2
        go_ret
        exact ⟨ret_int (by rw [HF.out]), by simp only [World.drewN_drewN]; exact ⟨_, rfl⟩⟩
    · have d1 : decide (i < s.length) = false := by simpa using l1
      have HF : Hid (lcp s t = i) := by
        unfold Hid
        rw [HCM.out, List.drop_eq_nil_of_le (show s.length ≤ i by omega)]
        rfl
      go_wp2
      go_quiet (fail)
      go_wp2
      go_ret
      exact ⟨ret_int (by rw [HF.out]), by simp only [World.drewN_drewN]; exact ⟨_, rfl⟩⟩

end Go.Proofs.Qxb6608903a.CmpW
