/-
  The contract of zzLineIndexOK (10).
-/
import Derived.Test.Qxb6605878aClone
namespace Go.Proofs.Qxb6605878a.Line
open Go.RowKit
set_option linter.unusedVariables false

def OkL (f : Nat → Int) (n : Nat) : Prop := (∀ j, j < n → 0 ≤ f j) ∧ (∀ j, j + 1 < n → f j < f (j + 1)) ∧ (0 < n → f (n - 1) ≠ 9223372036854775807)

def OkPost (w : World) (f : Nat → Int) (n : Nat) (e : Ending) (w' : World) : Prop :=
  ∃ b : Bool, e = .returned (.bool b) ∧ (b = true → OkL f n) ∧ ∃ q, w' = w.drewN q

theorem OkPost.mk {w w' : World} {f : Nat → Int} {n : Nat} {b : Bool} (h : b = true → OkL f n) (q : Nat) (hq : w' = w.drewN q) : OkPost w f n (.returned (.bool b)) w' := ⟨b, rfl, h, q, hq⟩

set_option maxHeartbeats 400000 in
theorem ok_any (b off n cap : Nat) (f : Nat → Int) (w : World) (hn : n ≤ 1048576)
    (hc : ∀ j, j < n → w.cell? ⟨b, off + j, none⟩ = some (.int .i64 (f j))) :
    Calls Try.prog 10 #[.slice (some ⟨b, off, none⟩) n cap] w fun e w' => OkPost w f n e w' := by
  go_enter Try.func10, Try.ntmps10
  go_wp2
  go_loopw [3] (fun i wr => ∃ k : Nat, k ≤ n ∧ i = .int .i64 k ∧ (∀ j, j < k → 0 ≤ f j) ∧ (∀ j, j + 1 < k → f j < f (j + 1)) ∧ ∃ q, wr = w.drewN q)
    (fun i _ => n - (intOf i).toNat)
  case atStart =>
    exact ⟨0, Nat.zero_le _, rfl, fun j hj => by omega, fun j hj => by omega, 0, rfl⟩
  case round =>
    obtain ⟨k, hk, rfl, h1, h2, q, rfl⟩ := hrel
    by_cases hlt : k < n
    · have hcell : w.cell? ⟨b, off + k, none⟩ = some (.int .i64 (f k)) := hc k hlt
      by_cases hneg : f k < 0
      · clear hc h1 h2
        go_wp2
        go_ret
        exact OkPost.mk (b := false) (by simp) q rfl
      · by_cases hk0 : 0 < k
        · have hcell' : w.cell? ⟨b, off + (k - 1), none⟩ = some (.int .i64 (f (k - 1))) := hc (k - 1) (by omega)
          have hd : decide (0 < k) = true := by simpa using hk0
          by_cases hle : f k ≤ f (k - 1)
          · have hd' : decide (f k ≤ f (k - 1)) = true := by simpa using hle
            clear hc h1 h2
            go_wp2
            go_quiet (fail)
            go_wp2
            go_ret
            exact OkPost.mk (b := false) (by simp) (q + nq) (World.drewN_drewN ..)
          · have hd' : decide (f k ≤ f (k - 1)) = false := by simpa using hle
            have H1 : Hid (∀ j, j < k → 0 ≤ f j) := h1
            have H2 : Hid (∀ j, j + 1 < k → f j < f (j + 1)) := h2
            clear hc h1 h2
            go_wp2
            go_quiet (fail)
            go_wp2
            refine ⟨⟨k + 1, by omega, by go_num, fun j hj => ?_, fun j hj => ?_, q + nq, rfl⟩, by simp [intOf]; omega⟩
            · by_cases hj' : j = k
              · rw [hj']; exact hneg
              · exact H1.out j (by omega)
            · by_cases hj' : j + 1 = k
              · have ej : j = k - 1 := by omega
                rw [hj', ej]; omega
              · exact H2.out j (by omega)
        · have hd : decide (0 < k) = false := by simpa using hk0
          clear hc h1 h2
          go_wp2
          go_quiet (fail)
          go_wp2
          refine ⟨⟨k + 1, by omega, by go_num, fun j hj => ?_, fun j hj => by omega, q + nq, rfl⟩, by simp [intOf]; omega⟩
          obtain rfl : j = k := by omega
          exact hneg
    · by_cases h0 : 0 < n
      · have hcell' : w.cell? ⟨b, off + (n - 1), none⟩ = some (.int .i64 (f (n - 1))) := hc (n - 1) (by omega)
        have hkn : k = n := by omega
        have H1 : Hid (∀ j, j < n → 0 ≤ f j) := by rw [← hkn]; exact h1
        have H2 : Hid (∀ j, j + 1 < n → f j < f (j + 1)) := by rw [← hkn]; exact h2
        by_cases hm : f (n - 1) = 9223372036854775807
        · have hm' : (f (n - 1) == 9223372036854775807) = true := by simpa using hm
          clear hc h1 h2 hm
          go_wp2
          go_ret
          exact OkPost.mk (b := false) (by simp) q rfl
        · have hm' : (f (n - 1) == 9223372036854775807) = false := by simpa using hm
          have H3 : Hid (f (n - 1) ≠ 9223372036854775807) := hm
          clear hc h1 h2 hm
          go_wp2
          go_ret
          exact OkPost.mk (b := true) (fun _ => ⟨H1.out, H2.out, fun _ => H3.out⟩) q rfl
      · obtain rfl : n = 0 := by omega
        clear hc h1 h2
        go_wp2
        go_ret
        exact OkPost.mk (b := true) (fun _ => ⟨fun j hj => by omega, fun j hj => by omega, fun h => by omega⟩) q rfl

theorem ok_empty (a : Option Addr) (cap : Nat) (f : Nat → Int) (w : World) :
    Calls Try.prog 10 #[.slice a 0 cap] w fun e w' => OkPost w f 0 e w' := by
  go_enter Try.func10, Try.ntmps10
  go_wp2
  refine wp_loop_rounds 1 ?_
  rw [rounds_succ]
  go_wp2
  go_ret
  exact OkPost.mk (b := true) (fun _ => ⟨fun j hj => by omega, fun j hj => by omega, fun h => by omega⟩) 0 rfl

theorem ok_all (a : Option Addr) (n cap : Nat) (f : Nat → Int) (w : World) (hn : n ≤ 1048576) (hc : IntsAt w a n f) :
    Calls Try.prog 10 #[.slice a n cap] w fun e w' => OkPost w f n e w' := by
  rcases hc with rfl | ⟨b, off, rfl, hc⟩
  · exact ok_empty a cap f w
  · exact ok_any b off n cap f w hn hc

end Go.Proofs.Qxb6605878a.Line
