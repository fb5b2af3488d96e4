/-
  The contracts of lineIndex.line (28), lineIndex.start (27), slices.BinarySearch (32) and their shims (14, 13).
-/
import Derived.Test.Qxb6605878aRows
import Derived.WalkKit
import Derived.RowKit3
import Derived.Below
namespace Go.Proofs.Qxb6605878a.Line
open Go.RowKit
set_option linter.unusedVariables false

set_option maxHeartbeats 400000 in
theorem less_any (a b : Int) (w : World) :
    Calls Try.prog 34 #[.int .i64 a, .int .i64 b] w fun e w' => e = .returned (.bool (decide (a < b))) ∧ w' = w := by
  by_cases h : a < b
  · go_enter Try.func34, Try.ntmps34
    go_wp2
    go_ret
    exact ⟨by simp [h], rfl⟩
  · go_enter Try.func34, Try.ntmps34
    go_wp2
    go_ret
    exact ⟨by simp [h], rfl⟩

/-- The place that a binary search finds. -/
def Place (f : Nat → Int) (n : Nat) (t : Int) (p : Nat) : Prop := p ≤ n ∧ (∀ j, j < p → f j < t) ∧ ∀ j, p ≤ j → j < n → t ≤ f j

def Found (f : Nat → Int) (n : Nat) (t : Int) (e : Ending) : Prop := ∃ (p : Nat) (q : Bool), e = .returned (.tuple #[.int .i64 p, .bool q]) ∧ Place f n t p
theorem Found.mk {f : Nat → Int} {n : Nat} {t : Int} {p : Nat} (q : Bool) (h : Place f n t p) : Found f n t (.returned (.tuple #[.int .i64 p, .bool q])) := ⟨p, q, rfl, h⟩

set_option maxHeartbeats 400000 in
theorem search_empty (a : Option Addr) (cap : Nat) (t : Int) (w : World) :
    Calls Try.prog 32 #[.slice a 0 cap, .int .i64 t] w fun e w' => e = .returned (.tuple #[.int .i64 0, .bool false]) ∧ w' = w := by
  go_enter Try.func32, Try.ntmps32
  go_wp2
  refine wp_loop_rounds 1 ?_
  rw [rounds_succ]
  go_wp2
  go_ret2
  exact ⟨rfl, rfl⟩

set_option maxHeartbeats 400000 in
theorem search_any (b off n cap : Nat) (f : Nat → Int) (t : Int) (w : World) (hn : n ≤ 4611686018427387903)
    (hc : ∀ j, j < n → w.cell? ⟨b, off + j, none⟩ = some (.int .i64 (f j))) (hs : ∀ i j, i < j → j < n → f i < f j) :
    Calls Try.prog 32 #[.slice (some ⟨b, off, none⟩) n cap, .int .i64 t] w fun e w' =>
      Found f n t e ∧ w' = w := by
  have HS := hs
  go_enter Try.func32, Try.ntmps32
  go_wp2
  go_loop [7, 8] (fun lo hi => ∃ l h : Nat, l ≤ h ∧ h ≤ n ∧ lo = .int .i64 l ∧ hi = .int .i64 h ∧ (∀ j, j < l → f j < t) ∧ (∀ j, h ≤ j → j < n → t ≤ f j))
    (fun lo hi => (intOf hi).toNat - (intOf lo).toNat)
  case atStart => exact ⟨0, n, Nat.zero_le _, Nat.le_refl _, rfl, rfl, fun j hj => by omega, fun j hj hj' => by omega⟩
  case round =>
    obtain ⟨l, h, hlh, hh, rfl, rfl, hlo, hhi⟩ := hrel
    by_cases hlt : l < h
    · have hcell : w.cell? ⟨b, off + (l + h) / 2, none⟩ = some (.int .i64 (f ((l + h) / 2))) := hc _ (by omega)
      by_cases hq : f ((l + h) / 2) < t
      · go_wp2_with (go_at_call 34; refine (less_any _ _ _).mono ?_; rintro e w' ⟨rfl, rfl⟩)
        refine ⟨⟨(l + h) / 2 + 1, h, by omega, hh, by go_num, rfl, fun j hj => ?_, hhi⟩, by simp only [intOf]; omega⟩
        by_cases hj' : j = (l + h) / 2
        · rw [hj']; exact hq
        · exact Int.lt_trans (HS j ((l + h) / 2) (by omega) (by omega)) hq
      · go_wp2_with (go_at_call 34; refine (less_any _ _ _).mono ?_; rintro e w' ⟨rfl, rfl⟩)
        refine ⟨⟨l, (l + h) / 2, by omega, by omega, rfl, by go_num, hlo, fun j hj hj' => ?_⟩, by simp only [intOf]; omega⟩
        by_cases hj'' : j = (l + h) / 2
        · rw [hj'']; exact hq
        · have := HS ((l + h) / 2) j (by omega) hj'
          omega
    · have hp : Place f n t l := ⟨by omega, hlo, fun j hj hj' => hhi j (by omega) hj'⟩
      by_cases hl : l < n
      · have hcell : w.cell? ⟨b, off + l, none⟩ = some (.int .i64 (f l)) := hc _ (by omega)
        by_cases hq : f l = t
        · have hq' : (f l == t) = true := by simpa using hq
          clear hq
          go_wp2
          go_ret2
          exact ⟨Found.mk _ hp, rfl⟩
        · have hq' : (f l == t) = false := by simpa using hq
          clear hq
          go_wp2
          go_ret2
          exact ⟨Found.mk _ hp, rfl⟩
      · go_wp2
        go_ret2
        exact ⟨Found.mk _ hp, rfl⟩

/-- A slice of n ints, read in w: empty, or a row of cells. -/
def IntsAt (w : World) (a : Option Addr) (n : Nat) (f : Nat → Int) : Prop :=
  n = 0 ∨ ∃ b off, a = some ⟨b, off, none⟩ ∧ ∀ j, j < n → w.cell? ⟨b, off + j, none⟩ = some (.int .i64 (f j))

theorem search_all (a : Option Addr) (n cap : Nat) (f : Nat → Int) (t : Int) (w : World) (hn : n ≤ 4611686018427387903)
    (hc : IntsAt w a n f) (hs : ∀ i j, i < j → j < n → f i < f j) :
    Calls Try.prog 32 #[.slice a n cap, .int .i64 t] w fun e w' =>
      Found f n t e ∧ w' = w := by
  rcases hc with rfl | ⟨b, off, rfl, hc⟩
  · refine (search_empty a cap t w).mono ?_
    rintro e w' ⟨rfl, rfl⟩
    exact ⟨Found.mk (p := 0) false ⟨Nat.le_refl _, fun j hj => by omega, fun j hj hj' => by omega⟩, rfl⟩
  · exact search_any b off n cap f t w hn hc hs

set_option maxHeartbeats 400000 in
theorem line_all (a : Option Addr) (n cap : Nat) (f : Nat → Int) (t : Int) (w : World) (hn : n ≤ 4611686018427387903)
    (hc : IntsAt w a n f) (hs : ∀ i j, i < j → j < n → f i < f j) :
    Calls Try.prog 28 #[.slice a n cap, .int .i64 t] w fun e w' =>
      (∃ p : Nat, e = .returned (.int .i64 (p + 1)) ∧ Place f n t p) ∧ w' = w := by
  have HS : Hid (∀ i j, i < j → j < n → f i < f j) := hs
  have HC : Hid (IntsAt w a n f) := hc
  clear hs hc
  go_enter Try.func28, Try.ntmps28
  go_wp2_with fail
  refine (search_all a n cap f t _ hn HC.out HS.out).mono ?_
  rintro e w' ⟨⟨p, q, rfl, hp⟩, rfl⟩
  have hp1 := hp.1
  go_wp2
  go_ret
  exact ⟨⟨p, rfl, hp⟩, rfl⟩

set_option maxHeartbeats 400000 in
theorem zzLine_all (a : Option Addr) (n cap : Nat) (f : Nat → Int) (t : Int) (w : World) (hn : n ≤ 4611686018427387903)
    (hc : IntsAt w a n f) (hs : ∀ i j, i < j → j < n → f i < f j) :
    Calls Try.prog 14 #[.slice a n cap, .int .i64 t] w fun e w' =>
      (∃ p : Nat, e = .returned (.int .i64 (p + 1)) ∧ Place f n t p) ∧ w' = w := by
  have HS : Hid (∀ i j, i < j → j < n → f i < f j) := hs
  have HC : Hid (IntsAt w a n f) := hc
  clear hs hc
  go_enter Try.func14, Try.ntmps14
  go_wp2_with fail
  refine (line_all a n cap f t _ hn HC.out HS.out).mono ?_
  rintro e w' ⟨⟨p, rfl, hp⟩, rfl⟩
  go_wp2
  go_ret
  exact ⟨⟨p, rfl, hp⟩, rfl⟩

/-- Where a line starts. -/
def st (f : Nat → Int) (n : Nat) (k : Int) : Int :=
  if k ≤ 1 ∨ n = 0 then 0 else if k ≤ n + 1 then f (k.toNat - 2) + 1 else f (n - 1) + 1

set_option maxHeartbeats 400000 in
theorem start_all (a : Option Addr) (n cap : Nat) (f : Nat → Int) (k : Int) (w : World) (hn : n ≤ 4611686018427387903)
    (hc : IntsAt w a n f) (hb : ∀ j, j < n → 0 ≤ f j ∧ f j < 9223372036854775807) (hk : -9223372036854775808 ≤ k) (hk' : k ≤ 9223372036854775807) :
    Calls Try.prog 27 #[.slice a n cap, .int .i64 k] w fun e w' => e = .returned (.int .i64 (st f n k)) ∧ w' = w := by
  by_cases h1 : k ≤ 1
  · have H : Hid (st f n k = 0) := by unfold Hid st; rw [if_pos (.inl h1)]
    clear hc hb
    go_enter Try.func27, Try.ntmps27
    go_wp2
    go_ret
    exact ⟨by rw [H.out]; rfl, rfl⟩
  · rcases hc with rfl | ⟨b, off, rfl, hc⟩
    · have H : Hid (st f 0 k = 0) := by unfold Hid st; rw [if_pos (.inr rfl)]
      clear hb
      go_enter Try.func27, Try.ntmps27
      go_wp2
      go_ret
      exact ⟨by rw [H.out]; rfl, rfl⟩
    · by_cases h0 : n = 0
      · subst h0
        have H : Hid (st f 0 k = 0) := by unfold Hid st; rw [if_pos (.inr rfl)]
        clear hb hc
        go_enter Try.func27, Try.ntmps27
        go_wp2
        go_ret
        exact ⟨by rw [H.out]; rfl, rfl⟩
      · have h0' : ((n : Int) == 0) = false := by simp; omega
        obtain ⟨m, rfl⟩ : ∃ m : Nat, k = m + 2 := ⟨(k - 2).toNat, by omega⟩
        by_cases h2 : m + 1 ≤ n
        · have H : Hid (st f n (m + 2) = f m + 1) := by
            unfold Hid st; rw [if_neg (by omega), if_pos (by omega)]
            congr 1
          have hcell : w.cell? ⟨b, off + m, none⟩ = some (.int .i64 (f m)) := hc _ (by omega)
          have hb' := hb m (by omega)
          have h3 : (m : Int) + 2 ≤ n + 1 := by omega
          clear hb hc
          go_enter Try.func27, Try.ntmps27
          go_wp2
          go_ret
          exact ⟨by rw [H.out]; rfl, rfl⟩
        · have H : Hid (st f n (m + 2) = f (n - 1) + 1) := by
            unfold Hid st; rw [if_neg (by omega), if_neg (by omega)]
          have hcell : w.cell? ⟨b, off + (n - 1), none⟩ = some (.int .i64 (f (n - 1))) := hc _ (by omega)
          have hb' := hb (n - 1) (by omega)
          have h3 : (n : Int) + 1 < m + 2 := by omega
          have h4 : 1 ≤ n := by omega
          have h5 : (n : Int) + 1 ≤ m + 2 := by omega
          clear hb hc
          go_enter Try.func27, Try.ntmps27
          go_wp2
          go_ret
          exact ⟨by rw [H.out]; rfl, rfl⟩

set_option maxHeartbeats 400000 in
theorem zzStart_all (a : Option Addr) (n cap : Nat) (f : Nat → Int) (k : Int) (w : World) (hn : n ≤ 4611686018427387903)
    (hc : IntsAt w a n f) (hb : ∀ j, j < n → 0 ≤ f j ∧ f j < 9223372036854775807) (hk : -9223372036854775808 ≤ k) (hk' : k ≤ 9223372036854775807) :
    Calls Try.prog 13 #[.slice a n cap, .int .i64 k] w fun e w' => e = .returned (.int .i64 (st f n k)) ∧ w' = w := by
  have HB : Hid (∀ j, j < n → 0 ≤ f j ∧ f j < 9223372036854775807) := hb
  have HC : Hid (IntsAt w a n f) := hc
  clear hb hc
  go_enter Try.func13, Try.ntmps13
  go_wp2_with fail
  refine (start_all a n cap f k _ hn HC.out HB.out hk hk').mono ?_
  rintro e w' ⟨rfl, rfl⟩
  go_wp2
  go_ret
  exact ⟨rfl, rfl⟩

/-- A line number taken into the lines that there are. -/
def clamp (k : Int) (n : Nat) : Int := if k < 1 then 1 else if n + 1 < k then n + 1 else k

set_option maxHeartbeats 400000 in
theorem clamp_any (k : Int) (n : Nat) (w : World) (hn : n ≤ 4611686018427387903) :
    Calls Try.prog 12 #[.int .i64 k, .int .i64 n] w fun e w' => e = .returned (.int .i64 (clamp k n)) ∧ w' = w := by
  by_cases h1 : k < 1
  · have H : Hid (clamp k n = 1) := by unfold Hid clamp; rw [if_pos h1]
    go_enter Try.func12, Try.ntmps12
    go_wp2
    go_ret
    exact ⟨by rw [H.out]; rfl, rfl⟩
  · by_cases h2 : (n : Int) + 1 < k
    · have H : Hid (clamp k n = n + 1) := by unfold Hid clamp; rw [if_neg h1, if_pos h2]
      go_enter Try.func12, Try.ntmps12
      go_wp2
      go_ret
      exact ⟨by rw [H.out]; rfl, rfl⟩
    · have H : Hid (clamp k n = k) := by unfold Hid clamp; rw [if_neg h1, if_neg h2]
      go_enter Try.func12, Try.ntmps12
      go_wp2
      go_ret
      exact ⟨by rw [H.out]; rfl, rfl⟩

end Go.Proofs.Qxb6605878a.Line
