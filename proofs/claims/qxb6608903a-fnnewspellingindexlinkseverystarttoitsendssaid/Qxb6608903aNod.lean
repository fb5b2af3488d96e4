/-
  The cells of the nodes while newTrie lays them out.
-/
import Derived.Test.Qxb6608903aPc
import Derived.Test.Qxb6608903aSrt
namespace Go.Proofs.Qxb6608903a.TrieW
open Go.RowKit Plain Mem Srt
set_option linter.unusedVariables false

/-- The cells of the nodes: the children of the first i are laid. -/
def ndF (S M : List (List Int)) (i c f : Nat) : Value :=
  if f = 0 then .int .i32 (lastC (M.getD c [])) else if f = 1 then .int .i32 (if c < i then (fst S M c : Int) else (S.idxOf (M.getD c []) : Int)) else .int .i32 (if c < i then (cnt S (M.getD c []) : Int) else 0)

/-- The cells of 'laid'. -/
def ldF (S M : List (List Int)) (c f : Nat) : Value := .int .i32 (S.idxOf (M.getD c []) : Nat)

theorem getD_append_right' {M D : List (List Int)} (q : Nat) : (M ++ D).getD (M.length + q) [] = D.getD q [] := by
  rw [List.getD_eq_getElem?_getD, List.getD_eq_getElem?_getD, List.getElem?_append_right (by omega)]
  congr 2
  omega

theorem ndF_old (S M D D' : List (List Int)) (i c f : Nat) (hi : i ≤ M.length) (hc : c < M.length) : ndF S (M ++ D) i c f = ndF S (M ++ D') i c f := by
  unfold ndF
  rw [getD_append_left' hc, getD_append_left' hc]
  by_cases h : c < i
  · rw [fst_append S M D c (by omega), fst_append S M D' c (by omega)]
  · simp [h]

theorem ndF_new (S M D : List (List Int)) (i q f : Nat) (hi : i ≤ M.length) (hf : f < 3) : ndF S (M ++ D) i (M.length + q) f = (encN S (D.getD q []))[f]! := by
  unfold ndF encN
  rw [getD_append_right', if_neg (show ¬ M.length + q < i by omega), if_neg (show ¬ M.length + q < i by omega)]
  match f, hf with
  | 0, _ => rfl
  | 1, _ => rfl
  | 2, _ => rfl

theorem own_node_pushed {w : World} {base g cap : Nat} {S M D : List (List Int)} {i : Nat} (hi : i ≤ M.length) {v : List Int} {c : Nat} (hv : S.idxOf v = c)
    (h : w.ownsRow base 68 3 (.slice (some ⟨g, 0, none⟩) ((M ++ D).length + 1) cap) ((M ++ D).length + 1) (Mem.flatK 3 (ndF S (M ++ D) i) (M ++ D).length ++ [.int .i32 (lastC v), .int .i32 (c : Nat), .int .i32 0])) :
    OwnK w 68 3 g cap (M ++ (D ++ [v])).length (ndF S (M ++ (D ++ [v])) i) ∧ base ≤ g := by
  have hl : (M ++ (D ++ [v])).length = (M ++ D).length + 1 := by simp; omega
  rw [hl]
  refine own_snoc h (fun c' f hc hf => ?_) (fun f hf => ?_)
  · rw [← List.append_assoc]
    have := ndF_old S (M ++ D) [v] [] i c' f (by simp; omega) hc
    rw [List.append_nil] at this
    exact this
  · rw [← List.append_assoc]
    have := ndF_new S (M ++ D) [v] i 0 f (by simp; omega) hf
    rw [Nat.add_zero] at this
    rw [this]
    have e : ([v] : List (List Int)).getD 0 [] = v := rfl
    rw [e]
    unfold encN
    rw [hv]
    match f, hf with
    | 0, _ => rfl
    | 1, _ => rfl
    | 2, _ => rfl

theorem own_sorted {w : World} {g cap : Nat} {S M D D' : List (List Int)} {i : Nat} (hi : i ≤ M.length) (hl : D'.length = D.length)
    (h : OwnK w 68 3 g cap (M.length + D.length) (fun c f => if c < M.length then ndF S (M ++ D) i c f else (encN S (D'.getD (c - M.length) []))[f]!)) :
    OwnK w 68 3 g cap (M ++ D').length (ndF S (M ++ D') i) := by
  rw [List.length_append, hl]
  refine h.congr fun c f hc hf => ?_
  by_cases e : c < M.length
  · rw [if_pos e]; exact ndF_old S M D D' i c f hi e
  · rw [if_neg e]
    have := ndF_new S M D' i (c - M.length) f hi hf
    rw [show M.length + (c - M.length) = c from by omega] at this
    exact this.symm

theorem own_laid_out {w : World} {g cap : Nat} {S M : List (List Int)} {i : Nat} (hi : i < M.length) {a b : Nat} (ha : a = fst S M i) (hb : b = cnt S (M.getD i [])) (h : OwnK w 68 3 g cap M.length (ndF S M i)) :
    OwnK ((w.setCell ⟨g, i * 3 + 1, none⟩ (.int .i32 a)).setCell ⟨g, i * 3 + 2, none⟩ (.int .i32 b)) 68 3 g cap M.length (ndF S M (i + 1)) := by
  refine ((h.set hi (i := 1) (by decide) (.int .i32 a)).set hi (i := 2) (by decide) (.int .i32 b)).congr fun c f hc hf => ?_
  subst ha hb
  unfold ndF
  match f, hf with
  | 0, _ => simp
  | 1, _ =>
    by_cases e : c = i
    · subst e; simp
    · have : (c < i + 1) = (c < i) := by simp; omega
      simp [e, this]
  | 2, _ =>
    by_cases e : c = i
    · subst e; simp
    · have : (c < i + 1) = (c < i) := by simp; omega
      simp [e, this]

theorem own_laid_pushed {w : World} {base g cap : Nat} {S M : List (List Int)} {v : List Int} {c : Nat} (hv : S.idxOf v = c)
    (h : w.ownsRow base 21 1 (.slice (some ⟨g, 0, none⟩) (M.length + 1) cap) (M.length + 1) (Mem.flatK 1 (ldF S M) M.length ++ [.int .i32 (c : Nat)])) :
    OwnK w 21 1 g cap (M ++ [v]).length (ldF S (M ++ [v])) ∧ base ≤ g := by
  rw [List.length_append]
  refine own_snoc h (fun c' f hc hf => ?_) (fun f hf => ?_)
  · unfold ldF; rw [getD_append_left' hc]
  · obtain rfl : f = 0 := by omega
    unfold ldF
    rw [getD_snoc, hv]
    rfl

end Go.Proofs.Qxb6608903a.TrieW
