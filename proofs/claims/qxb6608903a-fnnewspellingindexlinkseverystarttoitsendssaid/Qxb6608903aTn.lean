/-
  The trie's small functions: ZZnewTrie (8), ZZtrieSize (9), ZZtrieNode (11), children (43), child (34).
-/
import Derived.Test.Qxb6608903aTr1
import Derived.Test.Qxb6608903aPd
namespace Go.Proofs.Qxb6608903a.TrieW
open Go.RowKit Plain Mem
set_option linter.unusedVariables false

/-- A trie lies at p: its struct, its nodes. -/
structure TrieAt (w : World) (p gn cn : Nat) (S M : List (List Int)) : Prop where
  st : w.rowIs p 65 1 (fun _ => .slice (some ⟨gn, 0, none⟩) M.length cn)
  nod : OwnK w 68 3 gn cn M.length (ndF S M M.length)

theorem TrieAt.below {w w' : World} {p gn cn : Nat} {S M : List (List Int)} (h : TrieAt w p gn cn S M) {B : Nat} (hb : Below B w w') (hp : p < B) (hg : gn < B) : TrieAt w' p gn cn S M :=
  ⟨h.st.of_block (hb.block _ hp), h.nod.below hb hg⟩

theorem TrieAt.same {w w' : World} {p gn cn : Nat} {S M : List (List Int)} (h : TrieAt w p gn cn S M) (h1 : w'.heap[p]? = w.heap[p]?) (h2 : w'.heap[gn]? = w.heap[gn]?) : TrieAt w' p gn cn S M :=
  ⟨h.st.of_block h1, h.nod.of_block h2⟩

theorem TrieAt.drewN {w : World} {p gn cn : Nat} {S M : List (List Int)} (h : TrieAt w p gn cn S M) (q : Nat) : TrieAt (w.drewN q) p gn cn S M := ⟨h.st, h.nod⟩

theorem TrieAt.c0 {w : World} {p gn cn : Nat} {S M : List (List Int)} (h : TrieAt w p gn cn S M) : w.cell? ⟨p, 0, none⟩ = some (.slice (some ⟨gn, 0, none⟩) M.length cn) := h.st.cell (by decide)
theorem TrieAt.chr {w : World} {p gn cn : Nat} {S M : List (List Int)} (h : TrieAt w p gn cn S M) {j : Nat} (hj : j < M.length) : w.cell? ⟨gn, j * 3, none⟩ = some (.int .i32 (lastC (M.getD j []))) := h.nod.cell (i := 0) hj (by decide)
theorem TrieAt.fir {w : World} {p gn cn : Nat} {S M : List (List Int)} (h : TrieAt w p gn cn S M) {j : Nat} (hj : j < M.length) : w.cell? ⟨gn, j * 3 + 1, none⟩ = some (.int .i32 (fst S M j : Nat)) := by
  have := h.nod.cell (i := 1) hj (by decide)
  unfold ndF at this
  rw [if_pos hj] at this
  exact this
theorem TrieAt.cou {w : World} {p gn cn : Nat} {S M : List (List Int)} (h : TrieAt w p gn cn S M) {j : Nat} (hj : j < M.length) : w.cell? ⟨gn, j * 3 + 2, none⟩ = some (.int .i32 (cnt S (M.getD j []) : Nat)) := by
  have := h.nod.cell (i := 2) hj (by decide)
  unfold ndF at this
  rw [if_pos hj, if_pos hj] at this
  exact this

/-- What ZZnewTrie leaves. -/
def MadeP (T : List (List Int)) (w : World) (e : Ending) (w' : World) : Prop :=
  ∃ (M : List (List Int)) (p gn cn : Nat), e = .returned (.pointer (some ⟨p, 0, none⟩)) ∧ BF (bldTo T T.length) M M.length ∧ TrieAt w' p gn cn (bldTo T T.length) M ∧ w.heap.size ≤ p ∧ w.heap.size ≤ gn ∧ Below w.heap.size w w'

set_option maxHeartbeats 1000000 in
theorem zzNewTrie (ta : Option Addr) (cap : Nat) (T : List (List Int)) (w : World) (hT : T.length ≤ 1048576) (hlen : lenTo T T.length ≤ 1048576)
    (hc : T = [] ∨ ∃ b off, ta = some ⟨b, off, none⟩ ∧ ∀ j, j < T.length → ∃ u, w.cell? ⟨b, off + j, none⟩ = some u ∧ RunesAt w u (tx T j)) :
    Calls Try.prog 8 #[.slice ta T.length cap] w fun e w' => MadeP T w e w' := by
  have HC := hid (newTrie_any ta cap T w hT hlen hc)
  clear hc
  go_enter Try.func8, Try.ntmps8
  go_wp2_with fail
  refine HC.out.mono ?_
  rintro e w1 ⟨M, gn, cn, rfl, hbf, hown, hg, hbel⟩
  have HBF := hid hbf
  have HOW := hid hown
  have hgl := hown.lt
  have hs1 := hbel.size
  clear hbf hown
  go_wp2
  go_ret
  refine ⟨M, w1.heap.size, gn, cn, rfl, HBF.out, ⟨?_, HOW.out.alloc _⟩, hs1, hg, hbel.alloc hs1 _⟩
  exact World.rowIs_alloc w1 #[.slice (some ⟨gn, 0, none⟩) M.length cn] 65 (fun _ => .slice (some ⟨gn, 0, none⟩) M.length cn) (fun i hi => by
    have h0 : i = 0 := by simpa using hi
    subst h0; rfl)

set_option maxHeartbeats 400000 in
theorem zzSize (w : World) (p gn cn : Nat) (S M : List (List Int)) (h : TrieAt w p gn cn S M) : Calls Try.prog 9 #[.pointer (some ⟨p, 0, none⟩)] w fun e w' => e = .returned (.int .i64 (M.length : Nat)) ∧ w' = w := by
  have h0 := h.c0
  clear h
  go_enter Try.func9, Try.ntmps9
  go_wp2
  go_ret
  exact ⟨rfl, rfl⟩

set_option maxHeartbeats 1000000 in
theorem zzNode (w : World) (p gn cn : Nat) (S M : List (List Int)) (j : Nat) (hj : j < M.length) (hM : M.length ≤ 2097153) (h : TrieAt w p gn cn S M) :
    Calls Try.prog 11 #[.pointer (some ⟨p, 0, none⟩), .int .i64 (j : Nat)] w fun e w' => e = .returned (.tuple #[.int .i32 (lastC (M.getD j [])), .int .i32 (fst S M j : Nat), .int .i32 (cnt S (M.getD j []) : Nat)]) ∧ ∃ q, w' = w.drewN q := by
  have h0 := h.c0
  have h1 := h.chr hj
  have h2 := h.fir hj
  have h3 := h.cou hj
  clear h
  generalize lastC (M.getD j []) = a at *
  generalize fst S M j = b at *
  generalize cnt S (M.getD j []) = c at *
  have hj1 : (0 : Int) ≤ (j : Int) := Int.natCast_nonneg _
  have hj2 : (j : Int) < (M.length : Int) := by omega
  go_enter Try.func11, Try.ntmps11
  go_wp2
  go_quiet (fail)
  go_wp2
  go_ret3
  exact ⟨rfl, _, rfl⟩

set_option maxHeartbeats 1000000 in
theorem children_any (w : World) (p gn cn : Nat) (S M : List (List Int)) (j : Nat) (hj : j < M.length) (hM : M.length ≤ 2097153) (hsum : fst S M j + cnt S (M.getD j []) ≤ M.length) (h : TrieAt w p gn cn S M) :
    Calls Try.prog 43 #[.pointer (some ⟨p, 0, none⟩), .int .i32 (j : Nat)] w fun e w' => e = .returned (.tuple #[.int .i32 (fst S M j : Nat), .int .i32 ((fst S M j + cnt S (M.getD j []) : Nat) : Int)]) ∧ ∃ q, w' = w.drewN q := by
  have h0 := h.c0
  have h2 := h.fir hj
  have h3 := h.cou hj
  clear h
  generalize fst S M j = b at *
  generalize cnt S (M.getD j []) = c at *
  have hj1 : (0 : Int) ≤ (j : Int) := Int.natCast_nonneg _
  have hj2 : (j : Int) < (M.length : Int) := by omega
  go_enter Try.func43, Try.ntmps43
  go_wp2
  go_quiet (fail)
  go_wp2
  go_ret2
  exact ⟨by simp, _, rfl⟩

set_option maxHeartbeats 1000000 in
theorem child_any (w : World) (p gn cn : Nat) (S M : List (List Int)) (j c : Nat) (r : Int) (hj : j < M.length) (hc : c < M.length) (hM : M.length ≤ 2097153) (hbf : BF S M M.length) (e : M.getD c [] = M.getD j [] ++ [r]) (h : TrieAt w p gn cn S M) :
    Calls Try.prog 34 #[.pointer (some ⟨p, 0, none⟩), .int .i32 (j : Nat), .int .i32 r] w fun e w' => e = .returned (.int .i32 (c : Nat)) ∧ ∃ q, w' = w.drewN q := by
  obtain ⟨q0, hq0, hcq⟩ := hbf.kid_place hj hc e
  have htop := hbf.top hj
  have hch : lastC (M.getD c []) = r := by rw [e, lastC_snoc]
  have HMONO : Hid (∀ q q', q < q' → q' < cnt S (M.getD j []) → lastC (M.getD (fst S M j + q) []) < lastC (M.getD (fst S M j + q') [])) := fun q q' h1 h2 => hbf.mono hj h1 h2
  have HCH : Hid (lastC (M.getD c []) = r) := hch
  have HT := hid h
  have HCON := hid (fun W (hW : TrieAt W p gn cn S M) => children_any W p gn cn S M j hj hM htop hW)
  have hjn : ((j : Int) == -1) = false := by simp
  generalize hF : fst S M j = F at *
  generalize hC : cnt S (M.getD j []) = C at *
  have HCQ := hid hcq
  have hcl : F ≤ c := by omega
  have hcu : c < F + C := by omega
  clear hbf e hch h hF hC hcq
  go_enter Try.func34, Try.ntmps34
  go_wp2_with fail
  refine (HCON.out _ HT.out).mono ?_
  rintro e w1 ⟨rfl, q1, rfl⟩
  clear HCON
  go_wp2
  go_loop [9, 10] (fun lo hi => ∃ a b : Nat, F ≤ a ∧ a ≤ c ∧ c ≤ b ∧ b ≤ F + C ∧ lo = .int .i32 a ∧ hi = .int .i32 b) (fun lo hi => (intOf hi).toNat - (intOf lo).toNat)
  case atStart => exact ⟨F, F + C, Nat.le_refl _, by omega, by omega, Nat.le_refl _, rfl, by go_num⟩
  case round =>
    obtain ⟨a, b, h1, h2, h3, h4, rfl, rfl⟩ := hrel
    have h0 : w.cell? ⟨p, 0, none⟩ = some (.slice (some ⟨gn, 0, none⟩) M.length cn) := HT.out.c0
    by_cases hlt : a < b
    · have hm : a + (b - a) / 2 < M.length := by omega
      have hcell : w.cell? ⟨gn, (a + (b - a) / 2) * 3, none⟩ = some (.int .i32 (lastC (M.getD (a + (b - a) / 2) []))) := HT.out.chr hm
      by_cases hmc : a + (b - a) / 2 < c
      · have hl : lastC (M.getD (a + (b - a) / 2) []) < r := by
          have hcq := HCQ.out
          have := HMONO.out (a + (b - a) / 2 - F) q0 (by omega) hq0
          rw [show F + (a + (b - a) / 2 - F) = a + (b - a) / 2 from by omega, ← hcq, HCH.out] at this
          exact this
        generalize lastC (M.getD (a + (b - a) / 2) []) = ch at *
        go_wp2
        exact ⟨⟨a + (b - a) / 2 + 1, b, by omega, by omega, h3, h4, by go_num, rfl⟩, by simp only [intOf]; omega⟩
      · have hl : r ≤ lastC (M.getD (a + (b - a) / 2) []) := by
          by_cases he : a + (b - a) / 2 = c
          · rw [he, HCH.out]; exact Int.le_refl _
          · have hcq := HCQ.out
            have := HMONO.out q0 (a + (b - a) / 2 - F) (by omega) (by omega)
            rw [show F + (a + (b - a) / 2 - F) = a + (b - a) / 2 from by omega, ← hcq, HCH.out] at this
            omega
        generalize lastC (M.getD (a + (b - a) / 2) []) = ch at *
        go_wp2
        exact ⟨⟨a, a + (b - a) / 2, h1, h2, by omega, by omega, rfl, by go_num⟩, by simp only [intOf]; omega⟩
    · obtain rfl : a = c := by omega
      have hcell : w.cell? ⟨gn, a * 3, none⟩ = some (.int .i32 (lastC (M.getD a []))) := HT.out.chr hc
      rw [HCH.out] at hcell
      have hrr : (r == r) = true := by simp
      have hlast : (a : Int) < (F : Int) + (C : Int) := by omega
      go_wp2
      go_ret
      exact ⟨rfl, _, rfl⟩

end Go.Proofs.Qxb6608903a.TrieW
