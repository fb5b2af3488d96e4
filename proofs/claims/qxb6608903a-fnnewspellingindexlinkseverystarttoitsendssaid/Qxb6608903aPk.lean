/-
  The pairs (node, link) of the spellings, plainly; the characters of a string.
-/
import Derived.Test.Qxb6608903aPj
import Derived.Test.Qxb6608903aLk
import Derived.Test.Qxb6608903aPa
import GoSem.Conv.StringToRunes
namespace Go.Proofs.Qxb6608903a.U
open Plain Mem Lk
set_option linter.unusedVariables false

/-- The characters from byte i on, at most b of them. -/
def rsL (s : ByteArray) : Nat → Nat → List Int
  | 0, _ => []
  | b + 1, i => if i < s.size then Int.ofNat (Utf8.decode s i).1 :: rsL s b (i + (Utf8.decode s i).2) else []

def runes (s : ByteArray) : List Int := rsL s s.size 0

theorem rsL_len (s : ByteArray) : ∀ b i, (rsL s b i).length ≤ b
  | 0, i => by simp [rsL]
  | b + 1, i => by
    unfold rsL
    split
    · have := rsL_len s b (i + (Utf8.decode s i).2)
      simp; omega
    · simp

theorem runes_len (s : ByteArray) : (runes s).length ≤ s.size := rsL_len s _ _

theorem runesFrom_eq (s : ByteArray) : ∀ b i acc, Conv.runesFrom s b i acc = acc ++ ((rsL s b i).map fun r => Value.int .i32 r).toArray
  | 0, i, acc => by simp [Conv.runesFrom, rsL]
  | b + 1, i, acc => by
    unfold Conv.runesFrom rsL
    split
    · show Conv.runesFrom s b (i + (Utf8.decode s i).2) (acc.push (.int .i32 (Int.ofNat (Utf8.decode s i).1))) = _
      rw [runesFrom_eq s b]
      simp
    · simp

theorem runesFrom_runes (s : ByteArray) : Conv.runesFrom s s.size 0 #[] = ((runes s).map fun r => Value.int .i32 r).toArray := by
  rw [runesFrom_eq]; simp [runes]

/-- The pairs of one split of a text. -/
def prB (M N : List (List Int)) (t : List Int) (c : Int) (b : Nat) : List (Nat × Int) :=
  [(M.idxOf (t.take b), lnk (N.idxOf (t.reverse.take (t.length - b))) false c)] ++ if b < t.length then [(M.idxOf (t.take b), lnk (N.idxOf (t.reverse.take (t.length - b - 1))) true c)] else []

/-- Of the first b splits. -/
def prT (M N : List (List Int)) (t : List Int) (c : Int) : Nat → List (Nat × Int)
  | 0 => []
  | b + 1 => prT M N t c b ++ prB M N t c b

/-- Of the first k spellings. -/
def prS (M N T : List (List Int)) (C : Nat → Int) : Nat → List (Nat × Int)
  | 0 => []
  | k + 1 => prS M N T C k ++ prT M N (tx T k) (C k) ((tx T k).length + 1)

theorem prT_len (M N : List (List Int)) (t : List Int) (c : Int) : ∀ b, b ≤ t.length → (prT M N t c b).length = 2 * b
  | 0, _ => rfl
  | b + 1, h => by
    unfold prT prB
    rw [List.length_append, prT_len M N t c b (by omega), if_pos (by omega)]
    simp; omega

theorem prT_len_all (M N : List (List Int)) (t : List Int) (c : Int) : (prT M N t c (t.length + 1)).length = 2 * t.length + 1 := by
  show (prT M N t c t.length ++ prB M N t c t.length).length = _
  unfold prB
  rw [List.length_append, prT_len M N t c _ (Nat.le_refl _), if_neg (by omega)]
  simp

theorem prS_len (M N T : List (List Int)) (C : Nat → Int) : ∀ k, (prS M N T C k).length = 2 * lenTo T k + k
  | 0 => rfl
  | k + 1 => by
    unfold prS
    rw [List.length_append, prS_len M N T C k, prT_len_all]
    show _ = 2 * (lenTo T k + (T.getD k []).length) + (k + 1)
    unfold tx
    omega

theorem prB_node {M N : List (List Int)} {t : List Int} {c : Int} {b : Nat} {p : Nat × Int} (h : p ∈ prB M N t c b) : p.1 = M.idxOf (t.take b) := by
  unfold prB at h
  split at h <;> simp at h
  · rcases h with rfl | rfl <;> rfl
  · rw [h]

theorem prT_node {M N : List (List Int)} {t : List Int} {c : Int} (hM : ∀ b, b ≤ t.length → t.take b ∈ M) : ∀ b, b ≤ t.length + 1 → ∀ p ∈ prT M N t c b, p.1 < M.length
  | 0, _, p, h => by simp [prT] at h
  | b + 1, hb, p, h => by
    unfold prT at h
    rcases List.mem_append.1 h with h | h
    · exact prT_node hM b (by omega) p h
    · rw [prB_node h]
      exact List.idxOf_lt_length_of_mem (hM b (by omega))

theorem prS_node {M N T : List (List Int)} {C : Nat → Int} (hM : ∀ j b, j < T.length → b ≤ (tx T j).length → (tx T j).take b ∈ M) : ∀ k, k ≤ T.length → ∀ p ∈ prS M N T C k, p.1 < M.length
  | 0, _, p, h => by simp [prS] at h
  | k + 1, hk, p, h => by
    unfold prS at h
    rcases List.mem_append.1 h with h | h
    · exact prS_node hM k (by omega) p h
    · exact prT_node (fun b hb => hM k b (by omega) hb) _ (Nat.le_refl _) p h

theorem prT_split (M N : List (List Int)) (t : List Int) (c : Int) {b : Nat} : ∀ k, b ≤ k → ∃ Q, prT M N t c k = prT M N t c b ++ Q
  | 0, h => ⟨[], by obtain rfl : b = 0 := by omega
                    simp⟩
  | k + 1, h => by
    by_cases e : b = k + 1
    · exact ⟨[], by rw [e]; simp⟩
    · obtain ⟨Q, hQ⟩ := prT_split M N t c k (b := b) (by omega)
      exact ⟨Q ++ prB M N t c k, by show prT M N t c k ++ prB M N t c k = _; rw [hQ, List.append_assoc]⟩

theorem prS_split (M N T : List (List Int)) (C : Nat → Int) {i : Nat} : ∀ k, i ≤ k → ∃ Q, prS M N T C k = prS M N T C i ++ Q
  | 0, h => ⟨[], by obtain rfl : i = 0 := by omega
                    simp⟩
  | k + 1, h => by
    by_cases e : i = k + 1
    · exact ⟨[], by rw [e]; simp⟩
    · obtain ⟨Q, hQ⟩ := prS_split M N T C k (i := i) (by omega)
      exact ⟨Q ++ prT M N (tx T k) (C k) ((tx T k).length + 1), by show prS M N T C k ++ _ = _; rw [hQ, List.append_assoc]⟩

/-- The pairs ahead of split b of spelling i. -/
def prU (M N T : List (List Int)) (C : Nat → Int) (i b : Nat) : List (Nat × Int) := prS M N T C i ++ prT M N (tx T i) (C i) b

theorem prU_zero (M N T : List (List Int)) (C : Nat → Int) (i : Nat) : prU M N T C i 0 = prS M N T C i := by simp [prU, prT]
theorem prU_end (M N T : List (List Int)) (C : Nat → Int) (i : Nat) : prU M N T C i ((tx T i).length + 1) = prS M N T C (i + 1) := rfl

/-- The first and, where there is one, the second link of a split. -/
def l1 (N : List (List Int)) (t : List Int) (c : Int) (b : Nat) : Int := lnk (N.idxOf (t.reverse.take (t.length - b))) false c
def l2 (N : List (List Int)) (t : List Int) (c : Int) (b : Nat) : Int := lnk (N.idxOf (t.reverse.take (t.length - b - 1))) true c

theorem prU_succ_lt (M N T : List (List Int)) (C : Nat → Int) {i b : Nat} (hb : b < (tx T i).length) :
    prU M N T C i (b + 1) = (prU M N T C i b ++ [(M.idxOf ((tx T i).take b), l1 N (tx T i) (C i) b)]) ++ [(M.idxOf ((tx T i).take b), l2 N (tx T i) (C i) b)] := by
  unfold prU l1 l2
  show _ ++ (prT M N (tx T i) (C i) b ++ prB M N (tx T i) (C i) b) = _
  unfold prB
  rw [if_pos hb]
  simp

theorem prU_succ_end (M N T : List (List Int)) (C : Nat → Int) (i : Nat) :
    prU M N T C i ((tx T i).length + 1) = prU M N T C i (tx T i).length ++ [(M.idxOf ((tx T i).take (tx T i).length), l1 N (tx T i) (C i) (tx T i).length)] := by
  unfold prU l1
  show _ ++ (prT M N (tx T i) (C i) (tx T i).length ++ prB M N (tx T i) (C i) (tx T i).length) = _
  unfold prB
  rw [if_neg (by omega)]
  simp

theorem prU_in (M N T : List (List Int)) (C : Nat → Int) {i b : Nat} (hi : i < T.length) (hb : b ≤ (tx T i).length + 1) : ∃ Q, prS M N T C T.length = prU M N T C i b ++ Q := by
  obtain ⟨Q1, h1⟩ := prS_split M N T C (i := i + 1) T.length hi
  obtain ⟨Q2, h2⟩ := prT_split M N (tx T i) (C i) (b := b) _ hb
  refine ⟨Q2 ++ Q1, ?_⟩
  rw [h1]
  show (prS M N T C i ++ prT M N (tx T i) (C i) ((tx T i).length + 1)) ++ Q1 = _
  rw [h2]
  simp [prU]

end Go.Proofs.Qxb6608903a.U
