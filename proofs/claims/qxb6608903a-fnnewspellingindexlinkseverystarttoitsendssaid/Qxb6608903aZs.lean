/-
  The shims ZZnewSpelling 17, ZZspellingIndexTries 19, Start 20, Links 21; zzSameTrie 15.
-/
import Derived.Test.Qxb6608903aIy
namespace Go.Proofs.Qxb6608903a.Ix
open Go.RowKit Plain Mem Go.Sort Lk
open U hiding hid
open Cl hiding hid
open TrieW hiding hid zzSize zzNode children_any child_any path_any
open TrieG
set_option linter.unusedVariables false

set_option maxHeartbeats 400000 in
theorem spell17 (w : World) (s : ByteArray) (c : Int) : Calls Try.prog 17 #[.string s, .int .i64 c] w fun e w' => e = .returned (.agg #[.string s, .int .i64 c]) ∧ w' = w.alloc (.cells #[.string s, .int .i64 c] 40) := by
  go_enter Try.func17, Try.ntmps17
  go_wp2
  have hc0 : (w.alloc (.cells #[.string s, .int .i64 c] 40)).cell? ⟨w.heap.size, 0, none⟩ = some (.string s) := World.cell?_alloc_mark w #[.string s, .int .i64 c] 40 (0, 0) 0
  have hc1 : (w.alloc (.cells #[.string s, .int .i64 c] 40)).cell? ⟨w.heap.size, 1, none⟩ = some (.int .i64 c) := World.cell?_alloc_mark w #[.string s, .int .i64 c] 40 (0, 0) 1
  refine bodyPost_ret (v := .agg #[.string s, .int .i64 c]) (by simp [results, Try.results17, go_sem, hc0, hc1]) rfl ⟨rfl, rfl⟩

set_option maxHeartbeats 400000 in
theorem tries19 (w : World) (px : Nat) : Calls Try.prog 19 #[.pointer (some ⟨px, 0, none⟩)] w fun e w' => e = .returned (.tuple #[.pointer (some ⟨px, 0, none⟩), .pointer (some ⟨px, 1, none⟩)]) ∧ ∃ q, w' = w.drewN q := by
  go_enter Try.func19, Try.ntmps19
  go_wp2
  go_quiet (fail)
  go_wp2
  go_ret2
  exact ⟨by simp, _, rfl⟩

set_option maxHeartbeats 400000 in
theorem start20 (w : World) (px : Nat) (v : Value) (h : w.cell? ⟨px, 2, none⟩ = some v) : Calls Try.prog 20 #[.pointer (some ⟨px, 0, none⟩)] w fun e w' => e = .returned v ∧ w' = w := by
  go_enter Try.func20, Try.ntmps20
  go_wp2
  go_ret
  exact ⟨rfl, rfl⟩

set_option maxHeartbeats 400000 in
theorem links21 (w : World) (px : Nat) (v : Value) (h : w.cell? ⟨px, 3, none⟩ = some v) : Calls Try.prog 21 #[.pointer (some ⟨px, 0, none⟩)] w fun e w' => e = .returned v ∧ w' = w := by
  go_enter Try.func21, Try.ntmps21
  go_wp2
  go_ret
  exact ⟨rfl, rfl⟩

theorem cnt_perm {S S' : List (List Int)} (h : S.Perm S') (u : List Int) : cnt S u = cnt S' u := (h.filter _).length_eq

theorem fst_perm {S S' : List (List Int)} (h : S.Perm S') (M : List (List Int)) : ∀ j, fst S M j = fst S' M j
  | 0 => rfl
  | j + 1 => by
    show fst S M j + cnt S (M.getD j []) = fst S' M j + cnt S' (M.getD j [])
    rw [fst_perm h M j, cnt_perm h]

set_option maxHeartbeats 2000000 in
theorem same15 (w : World) (p o gn cn p' o' gn' cn' : Nat) (S S' M : List (List Int)) (hM : M.length ≤ 2097153) (h : TG w p o gn cn S M) (h' : TG w p' o' gn' cn' S' M) (hs : S.Perm S') :
    Calls Try.prog 15 #[.pointer (some ⟨p, o, none⟩), .pointer (some ⟨p', o', none⟩)] w fun e w' => e = .returned (.bool true) ∧ ∃ q, w' = w.drewN q := by
  have HA := hid (fun q => zzSize (w.drewN q) p o gn cn S M (h.drewN q))
  have HB := hid (fun q => zzSize (w.drewN q) p' o' gn' cn' S' M (h'.drewN q))
  have HNA := hid (fun q j hj => zzNode (w.drewN q) p o gn cn S M j hj hM (h.drewN q))
  have HNB := hid (fun q j hj => by
    have := zzNode (w.drewN q) p' o' gn' cn' S' M j hj hM (h'.drewN q)
    rw [← fst_perm hs M j, ← cnt_perm hs] at this
    exact this)
  clear h h' hs
  go_enter Try.func15, Try.ntmps15
  go_wp2_with fail
  refine (HA.out 0).mono ?_
  rintro e w1 ⟨rfl, rfl⟩
  go_wp2_with fail
  refine (HB.out 0).mono ?_
  rintro e w1 ⟨rfl, rfl⟩
  have hmm : ((M.length : Int) != (M.length : Int)) = false := by simp
  go_wp2
  go_loopw [6] (fun iv wr => ∃ i q : Nat, i ≤ M.length ∧ iv = .int .i64 i ∧ wr = w.drewN q) (fun iv _ => M.length - (intOf iv).toNat)
  case atStart => exact ⟨0, 0, Nat.zero_le _, rfl, rfl⟩
  case round =>
    obtain ⟨i, q, hi, rfl, rfl⟩ := hrel
    by_cases hlt : i < M.length
    · have HC1 := hid (HNA.out q i hlt)
      have HC2 := hid (fun q => HNB.out q i hlt)
      generalize lastC (M.getD i []) = a at *
      generalize fst S M i = b at *
      generalize cnt S (M.getD i []) = c at *
      have hcc : ((a : Int) != (a : Int)) = false := by simp
      have hcb : ((b : Int) != (b : Int)) = false := by simp
      have hc3 : ((c : Int) != (c : Int)) = false := by simp
      go_wp2_with fail
      refine HC1.out.mono ?_
      rintro e w1 ⟨rfl, q1, rfl⟩
      go_wp2_with fail
      refine (HC2.out (q + q1)).mono ?_
      rintro e w1 ⟨rfl, q2, rfl⟩
      go_wp2
      exact ⟨⟨i + 1, q + q1 + q2, by omega, by go_num, rfl⟩, by simp [intOf]; omega⟩
    · obtain rfl : i = M.length := by omega
      go_wp2
      go_ret
      exact ⟨rfl, q, rfl⟩

end Go.Proofs.Qxb6608903a.Ix
