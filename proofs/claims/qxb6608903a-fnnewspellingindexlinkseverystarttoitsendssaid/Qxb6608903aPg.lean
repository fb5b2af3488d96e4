/-
  Plain facts for the trie's law: how many nodes, and where a text leads.
-/
import Derived.Test.Qxb6608903aDp
import Derived.Test.Qxb6608903aPth
namespace Go.Proofs.Qxb6608903a.CmpW
open Go.RowKit Plain Mem Go.Sort SortW
set_option linter.unusedVariables false

theorem mem_seg {I : Nat → Nat} {n : Nat} (h : (seg I 0 n).Perm (List.range n)) {j : Nat} (hj : j < n) : ∃ p, p < n ∧ I p = j := by
  have : j ∈ seg I 0 n := h.mem_iff.2 (List.mem_range.2 hj)
  unfold seg at this
  rw [List.mem_map] at this
  obtain ⟨p, hp, e⟩ := this
  refine ⟨p, List.mem_range.1 hp, ?_⟩
  simpa using e

theorem nodes_len {T M : List (List Int)} (hbf : BF (bldTo T T.length) M M.length) {I : Nat → Nat} (hperm : (seg I 0 T.length).Perm (List.range T.length)) (hord : ∀ p q, p < q → q < T.length → cmpR (tx T (I p)) (tx T (I q)) ≤ 0) :
    M.length = 1 + cntTo (fun p => tx T (I p)) T.length := by
  rw [← upto_len]
  have hn := upto_nodup (t := fun p => tx T (I p)) hord T.length (Nat.le_refl _)
  have hm : ∀ u, u ∈ M ↔ u ∈ upto (fun p => tx T (I p)) T.length := by
    intro u
    rw [hbf.all (bldTo_tr T T.length), bldTo_mem, upto_mem]
    constructor
    · rintro (h | ⟨j, hj, h⟩)
      · exact .inl h
      · obtain ⟨p, hp, e⟩ := mem_seg hperm hj
        exact .inr ⟨p, hp, by rw [e]; exact h⟩
    · rintro (h | ⟨p, hp, h⟩)
      · exact .inl h
      · exact .inr ⟨I p, seg_range_lt hperm hp, h⟩
  exact ((List.perm_ext_iff_of_nodup hbf.nodup hn).2 hm).length_eq

/-- Each start of each text has a node. -/
theorem start_mem {T M : List (List Int)} (hbf : BF (bldTo T T.length) M M.length) {j : Nat} (hj : j < T.length) (b : Nat) : (tx T j).take b ∈ M := by
  rw [hbf.all (bldTo_tr T T.length), bldTo_mem]
  exact .inr ⟨j, hj, List.take_prefix _ _⟩

theorem lastC_take {t : List Int} {b : Nat} (h : b < t.length) : lastC (t.take (b + 1)) = rn t b := by
  have e : t.take (b + 1) = t.take b ++ [rn t b] := take_snoc_getD h
  rw [e]
  simp [lastC]

/-- Where the next character leads. -/
theorem step_place {T M : List (List Int)} (hbf : BF (bldTo T T.length) M M.length) {j : Nat} (hj : j < T.length) {b : Nat} (hb : b < (tx T j).length) :
    M.idxOf ((tx T j).take b) < M.length ∧ M.idxOf ((tx T j).take (b + 1)) < M.length ∧ fst (bldTo T T.length) M (M.idxOf ((tx T j).take b)) ≤ M.idxOf ((tx T j).take (b + 1)) ∧
    M.idxOf ((tx T j).take (b + 1)) < fst (bldTo T T.length) M (M.idxOf ((tx T j).take b)) + cnt (bldTo T T.length) (M.getD (M.idxOf ((tx T j).take b)) []) ∧ lastC (M.getD (M.idxOf ((tx T j).take (b + 1))) []) = rn (tx T j) b := by
  have h0 := start_mem hbf hj b
  have h1 := start_mem hbf hj (b + 1)
  have e : (tx T j).take (b + 1) = (tx T j).take b ++ [rn (tx T j) b] := take_snoc_getD hb
  obtain ⟨q, hq, hc⟩ := hbf.kid_place (ix_lt h0) (ix_lt h1) (r := rn (tx T j) b) (by rw [getD_ix h1, getD_ix h0]; exact e)
  refine ⟨ix_lt h0, ix_lt h1, by omega, by omega, ?_⟩
  rw [getD_ix h1]
  exact lastC_take hb

theorem idx_root {T M : List (List Int)} (hbf : BF (bldTo T T.length) M M.length) (t : List Int) : M.idxOf (t.take 0) = 0 := by
  have := ix_getD hbf.nodup hbf.pos
  rw [hbf.head] at this
  rw [List.take_zero, this]

theorem TXs.texts {w : World} {ta : Option Addr} {T : List (List Int)} (h : TXs w ta T) : T = [] ∨ ∃ b off, ta = some ⟨b, off, none⟩ ∧ ∀ j, j < T.length → ∃ u, w.cell? ⟨b, off + j, none⟩ = some u ∧ RunesAt w u (tx T j) := by
  rcases h with h | ⟨b, off, A, C, h1, h2⟩
  · exact .inl h
  · exact .inr ⟨b, off, h1, fun j hj => ⟨_, h2.cell j hj, A j, C j, rfl, h2.runes j hj⟩⟩

/-- What a bound's program says: only that it says something. -/
def Said (w : World) (e : Ending) (w' : World) : Prop := ∃ (b : Bool) (q : Nat), e = .returned (.bool b) ∧ w' = w.drewN q

set_option maxHeartbeats 1000000 in
theorem bytes7 (w : World) (ta : Option Addr) (cap : Nat) (T : List (List Int)) (h : TXs w ta T) : Calls Try.prog 7 #[.slice ta T.length cap] w fun e w' => Said w e w' := by
  have HTX := hid h
  clear h
  go_enter Try.func7, Try.ntmps7
  by_cases hT : T.length ≤ 1048576
  · go_wp2
    go_loopw [3, 4] (fun sv iv wr => ∃ s i q : Nat, i ≤ T.length ∧ iv = .int .i64 i ∧ s ≤ 1048576 ∧ sv = .int .i64 s ∧ wr = w.drewN q) (fun _ iv _ => T.length - (intOf iv).toNat)
    case atStart => exact ⟨T.length, 0, 0, Nat.zero_le _, rfl, hT, rfl, rfl⟩
    case round =>
      obtain ⟨s, i, q, hi, rfl, hs, rfl, rfl⟩ := hrel
      by_cases hlt : i < T.length
      · rcases HTX.out with e | ⟨b, off, A, C, rfl, htx⟩
        · rw [e] at hlt; exact absurd hlt (by simp)
        · have x2 : w.cell? ⟨b, off + i, none⟩ = some (.slice (A i) (tx T i).length (C i)) := htx.cell _ hlt
          clear htx
          by_cases h1 : (tx T i).length ≤ 1048576
          · by_cases h2 : s + (tx T i).length ≤ 1048576
            · go_wp2
              exact ⟨⟨s + (tx T i).length, i + 1, q, by omega, by go_num, h2, by go_num, rfl⟩, by simp [intOf]; omega⟩
            · go_wp2
              go_ret
              exact ⟨false, q, rfl, rfl⟩
          · go_wp2
            go_ret
            exact ⟨false, q, rfl, rfl⟩
      · obtain rfl : i = T.length := by omega
        go_wp2
        go_ret
        exact ⟨true, q, rfl, rfl⟩
  · go_wp2
    go_ret
    exact ⟨false, 0, rfl, rfl⟩

end Go.Proofs.Qxb6608903a.CmpW
