/-
  Turned round: the same nodes, the same links. No Go in sight.
-/
import Derived.Test.Qxb6608903aIy
import Derived.Test.Qxb6608903aPh
namespace Go.Proofs.Qxb6608903a.Ix
open Go.RowKit Plain Mem Lk
open U hiding hid
set_option linter.unusedVariables false

/-- Place j of the turned ones. -/
def rot (n k j : Nat) : Nat := if j + k < n then j + k else j + k - n

theorem rot_lt {n k j : Nat} (hk : k ≤ n) (hj : j < n) : rot n k j < n := by unfold rot; split <;> omega

theorem rot_inj {n k i j : Nat} (hk : k ≤ n) (hi : i < n) (hj : j < n) (h : rot n k i = rot n k j) : i = j := by
  unfold rot at h; split at h <;> split at h <;> omega

theorem rot_perm {n k : Nat} (hk : k ≤ n) : ((List.range n).map (rot n k)).Perm (List.range n) := by
  refine (List.perm_ext_iff_of_nodup ?_ List.nodup_range).2 (fun x => ?_)
  · unfold List.Nodup
    rw [List.pairwise_map]
    exact List.Pairwise.imp_of_mem (fun ha hb hne h => hne (rot_inj hk (List.mem_range.1 ha) (List.mem_range.1 hb) h)) List.nodup_range
  · constructor
    · intro h
      obtain ⟨j, hj, rfl⟩ := List.mem_map.1 h
      exact List.mem_range.2 (rot_lt hk (List.mem_range.1 hj))
    · intro h
      have hx := List.mem_range.1 h
      refine List.mem_map.2 ?_
      by_cases e : k ≤ x
      · exact ⟨x - k, List.mem_range.2 (by omega), by unfold rot; rw [if_pos (by omega)]; omega⟩
      · exact ⟨x + n - k, List.mem_range.2 (by omega), by unfold rot; rw [if_neg (by omega)]; omega⟩

theorem prS_flat (M N : List (List Int)) (str : Nat → ByteArray) (ch : Nat → Int) (n : Nat) : ∀ k, k ≤ n → prS M N (tsT str n) ch k = (List.range k).flatMap fun j => prT M N (runes (str j)) (ch j) ((runes (str j)).length + 1)
  | 0, _ => rfl
  | k + 1, h => by
    show prS M N (tsT str n) ch k ++ prT M N (tx (tsT str n) k) (ch k) ((tx (tsT str n) k).length + 1) = _
    rw [prS_flat M N str ch n k (by omega), tsT_at str (show k < n by omega), List.range_succ, List.flatMap_append]
    simp

theorem prS_rot (M N : List (List Int)) (str : Nat → ByteArray) (ch : Nat → Int) {n k : Nat} (hk : k ≤ n) : (prS M N (tsT (fun j => str (rot n k j)) n) (fun j => ch (rot n k j)) n).Perm (prS M N (tsT str n) ch n) := by
  rw [prS_flat _ _ _ _ n n (Nat.le_refl _), prS_flat _ _ _ _ n n (Nat.le_refl _)]
  have h := (rot_perm hk).flatMap_right (fun j => prT M N (runes (str j)) (ch j) ((runes (str j)).length + 1))
  rw [List.flatMap_map] at h
  exact h

theorem rot_back {n k : Nat} (hk : k ≤ n) {j : Nat} (hj : j < n) : ∃ i, i < n ∧ rot n k i = j := by
  have := (rot_perm hk).mem_iff (a := j)
  have h2 := this.2 (List.mem_range.2 hj)
  obtain ⟨i, hi, e⟩ := List.mem_map.1 h2
  exact ⟨i, List.mem_range.1 hi, e⟩

theorem bld_rot (str : Nat → ByteArray) {n k : Nat} (hk : k ≤ n) (u : List Int) : u ∈ bldTo (tsT (fun j => str (rot n k j)) n) n ↔ u ∈ bldTo (tsT str n) n := by
  rw [bldTo_mem, bldTo_mem]
  refine or_congr Iff.rfl ⟨?_, ?_⟩
  · rintro ⟨j, hj, h⟩
    refine ⟨rot n k j, rot_lt hk hj, ?_⟩
    have e1 : (tsT (fun j => str (rot n k j)) n).getD j [] = runes (str (rot n k j)) := tsT_at _ hj
    have e2 : (tsT str n).getD (rot n k j) [] = runes (str (rot n k j)) := tsT_at _ (rot_lt hk hj)
    rw [e2, ← e1]; exact h
  · rintro ⟨j, hj, h⟩
    obtain ⟨i, hi, rfl⟩ := rot_back hk hj
    refine ⟨i, hi, ?_⟩
    have e1 : (tsT (fun j => str (rot n k j)) n).getD i [] = runes (str (rot n k i)) := tsT_at _ hi
    have e2 : (tsT str n).getD (rot n k i) [] = runes (str (rot n k i)) := tsT_at _ (rot_lt hk hi)
    rw [e1, ← e2]; exact h

theorem tsV_at' (str : Nat → ByteArray) {n j : Nat} (h : j < n) : (tsV str n).getD j [] = (runes (str j)).reverse := by
  have := tsV_at str h
  rw [tsT_at str h] at this
  exact this

theorem bldV_rot (str : Nat → ByteArray) {n k : Nat} (hk : k ≤ n) (u : List Int) : u ∈ bldTo (tsV (fun j => str (rot n k j)) n) n ↔ u ∈ bldTo (tsV str n) n := by
  rw [bldTo_mem, bldTo_mem]
  refine or_congr Iff.rfl ⟨?_, ?_⟩
  · rintro ⟨j, hj, h⟩
    refine ⟨rot n k j, rot_lt hk hj, ?_⟩
    have e1 : (tsV (fun j => str (rot n k j)) n).getD j [] = (runes (str (rot n k j))).reverse := tsV_at' _ hj
    have e2 : (tsV str n).getD (rot n k j) [] = (runes (str (rot n k j))).reverse := tsV_at' _ (rot_lt hk hj)
    rw [e2, ← e1]; exact h
  · rintro ⟨j, hj, h⟩
    obtain ⟨i, hi, rfl⟩ := rot_back hk hj
    refine ⟨i, hi, ?_⟩
    have e1 : (tsV (fun j => str (rot n k j)) n).getD i [] = (runes (str (rot n k i))).reverse := tsV_at' _ hi
    have e2 : (tsV str n).getD (rot n k i) [] = (runes (str (rot n k i))).reverse := tsV_at' _ (rot_lt hk hi)
    rw [e1, ← e2]; exact h

theorem bld_perm {S S' : List (List Int)} (h : Tr S) (h' : Tr S') (e : ∀ u, u ∈ S ↔ u ∈ S') : S.Perm S' := (List.perm_ext_iff_of_nodup h.nodup h'.nodup).2 e

theorem lenTo_rot (str : Nat → ByteArray) {n k : Nat} (hk : k ≤ n) : lenTo (tsT (fun j => str (rot n k j)) n) n = lenTo (tsT str n) n := by
  have h := (prS_rot [] [] str (fun _ => 0) hk).length_eq
  rw [prS_len, prS_len] at h
  omega

end Go.Proofs.Qxb6608903a.Ix
