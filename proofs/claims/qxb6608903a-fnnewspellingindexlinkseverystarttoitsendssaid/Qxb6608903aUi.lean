/-
  pdqsortOrdered (44) over a uint64: what its rounds keep, plainly.
-/
import Derived.Test.Qxb6608903aUh
import Derived.Test.Qxb6608903aUe
namespace Go.Proofs.Qxb6608903a.U
open Go.RowKit Mem Go.Sort
set_option linter.unusedVariables false

/-- All is in its place but what lies from l to h. -/
def Fr (R : Nat → Int) (lo hi l h : Nat) : Prop := ∀ i j, lo ≤ i → i < j → j < hi → ¬ (l ≤ i ∧ j < h) → R i ≤ R j

theorem Fr.start (R : Nat → Int) (lo hi : Nat) : Fr R lo hi lo hi := fun i j h1 h2 h3 h4 => absurd ⟨h1, h3⟩ h4

theorem Fr.sw {R S : Nat → Int} {lo hi l h : Nat} (hf : Fr R lo hi l h) (hw : Sw l h R S) (h1 : lo ≤ l) (h2 : h ≤ hi) : Fr S lo hi l h := by
  intro i j i1 i2 i3 i4
  by_cases ei : l ≤ i ∧ i < h
  · have ej : S j = R j := hw.out (by omega)
    rw [ej]
    exact hw.all (P := fun v => v ≤ R j) (fun k k1 k2 => hf k j (by omega) (by omega) i3 (by omega)) i ei.1 ei.2
  · have e : S i = R i := hw.out (by omega)
    rw [e]
    by_cases ej : l ≤ j ∧ j < h
    · exact hw.all (P := fun v => R i ≤ v) (fun k k1 k2 => hf i k i1 (by omega) (by omega) (by omega)) j ej.1 ej.2
    · rw [hw.out (k := j) (by omega)]
      exact hf i j i1 i2 i3 i4

theorem Fr.done {R : Nat → Int} {lo hi l h : Nat} (hf : Fr R lo hi l h) (hs : Srtd R l h) : Srtd R lo hi := by
  intro i j h1 h2 h3
  by_cases e : l ≤ i ∧ j < h
  · exact hs i j e.1 h2 e.2
  · exact hf i j h1 h2 h3 e

theorem Fr.right {R : Nat → Int} {lo hi l h m : Nat} (hf : Fr R lo hi l h) (h1 : ∀ k, l ≤ k → k < m → R k ≤ R m) (h2 : ∀ k, m < k → k < h → R m ≤ R k) (hs : Srtd R l m) : Fr R lo hi (m + 1) h := by
  intro i j i1 i2 i3 i4
  by_cases e : l ≤ i ∧ j < h
  · by_cases e1 : j < m
    · exact hs i j e.1 i2 e1
    · by_cases e2 : j = m
      · subst e2; exact h1 i e.1 i2
      · have b := h2 j (by omega) e.2
        by_cases e3 : i = m
        · subst e3; exact b
        · have a := h1 i e.1 (by omega)
          omega
  · exact hf i j i1 i2 i3 e

theorem Fr.left {R : Nat → Int} {lo hi l h m : Nat} (hf : Fr R lo hi l h) (h1 : ∀ k, l ≤ k → k < m → R k ≤ R m) (h2 : ∀ k, m < k → k < h → R m ≤ R k) (hs : Srtd R (m + 1) h) : Fr R lo hi l m := by
  intro i j i1 i2 i3 i4
  by_cases e : l ≤ i ∧ j < h
  · by_cases e1 : m + 1 ≤ i
    · exact hs i j e1 i2 e.2
    · by_cases e2 : i = m
      · subst e2; exact h2 j i2 e.2
      · have a := h1 i e.1 (by omega)
        by_cases e3 : j = m
        · subst e3; exact a
        · have b := h2 j (by omega) e.2
          omega
  · exact hf i j i1 i2 i3 e

theorem Fr.eq {R : Nat → Int} {lo hi l h m : Nat} {P : Int} (hf : Fr R lo hi l h) (h1 : ∀ k, l ≤ k → k < m → R k ≤ P) (h2 : ∀ k, l ≤ k → k < h → P ≤ R k) : Fr R lo hi m h := by
  intro i j i1 i2 i3 i4
  by_cases e : l ≤ i ∧ j < h
  · have a := h1 i e.1 (by omega)
    have b := h2 j (by omega) e.2
    omega
  · exact hf i j i1 i2 i3 e

/-- What a round of the sort finds. -/
structure INV (R0 R : Nat → Int) (off a b a1 b1 : Nat) : Prop where
  aa : a ≤ a1
  ab : a1 ≤ b1
  bb : b1 ≤ b
  sw : Sw (off + a) (off + b) R0 R
  low : Low R off a1 b1
  fr : Fr R (off + a) (off + b) (off + a1) (off + b1)

theorem INV.start {R : Nat → Int} {off a b : Nat} (h : a ≤ b) (hl : Low R off a b) : INV R R off a b a b := ⟨Nat.le_refl _, h, Nat.le_refl _, .refl, hl, Fr.start _ _ _⟩

theorem INV.step {R0 R S : Nat → Int} {off a b a1 b1 : Nat} (h : INV R0 R off a b a1 b1) (hw : Sw (off + a1) (off + b1) R S) : INV R0 S off a b a1 b1 :=
  ⟨h.aa, h.ab, h.bb, h.sw.trans (hw.mono (by have := h.aa; omega) (by have := h.bb; omega)), h.low.sw hw, h.fr.sw hw (by have := h.aa; omega) (by have := h.bb; omega)⟩

theorem INV.done {R0 R : Nat → Int} {off a b a1 b1 : Nat} (h : INV R0 R off a b a1 b1) (hs : Srtd R (off + a1) (off + b1)) : Sw (off + a) (off + b) R0 R ∧ Srtd R (off + a) (off + b) := ⟨h.sw, h.fr.done hs⟩

/-- What a sorted part of a partition leaves of it. -/
theorem part_keep {S T : Nat → Int} {off a1 b1 m x y : Nat} (hw : Sw (off + x) (off + y) S T) (hxy : (x = a1 ∧ y = m) ∨ (x = m + 1 ∧ y = b1)) (ham : a1 ≤ m) (hmb : m < b1)
    (h1 : ∀ k, a1 ≤ k → k < m → S (off + k) ≤ S (off + m)) (h2 : ∀ k, m < k → k < b1 → S (off + m) ≤ S (off + k)) :
    (∀ k, off + a1 ≤ k → k < off + m → T k ≤ T (off + m)) ∧ ∀ k, off + m < k → k < off + b1 → T (off + m) ≤ T k := by
  have em : T (off + m) = S (off + m) := hw.out (by omega)
  rw [em]
  have g1 : ∀ k, off + a1 ≤ k → k < off + m → S k ≤ S (off + m) := fun k k1 k2 => by
    have := h1 (k - off) (by omega) (by omega)
    rw [show off + (k - off) = k by omega] at this
    exact this
  have g2 : ∀ k, off + m < k → k < off + b1 → S (off + m) ≤ S k := fun k k1 k2 => by
    have := h2 (k - off) (by omega) (by omega)
    rw [show off + (k - off) = k by omega] at this
    exact this
  rcases hxy with ⟨rfl, rfl⟩ | ⟨rfl, rfl⟩
  · refine ⟨fun k k1 k2 => hw.all (P := fun v => v ≤ S (off + y)) (fun k k1 k2 => g1 k k1 k2) k k1 k2, fun k k1 k2 => ?_⟩
    rw [hw.out (k := k) (by omega)]; exact g2 k k1 k2
  · refine ⟨fun k k1 k2 => ?_, fun k k1 k2 => hw.all (P := fun v => S (off + m) ≤ v) (fun k k1 k2 => g2 k (by omega) k2) k (by omega) k2⟩
    rw [hw.out (k := k) (by omega)]; exact g1 k k1 k2

theorem INV.right {R0 S T : Nat → Int} {off a b a1 b1 m : Nat} (h : INV R0 S off a b a1 b1) (ham : a1 ≤ m) (hmb : m < b1) (h1 : ∀ k, a1 ≤ k → k < m → S (off + k) ≤ S (off + m)) (h2 : ∀ k, m < k → k < b1 → S (off + m) ≤ S (off + k))
    (hw : Sw (off + a1) (off + m) S T) (hs : Srtd T (off + a1) (off + m)) : INV R0 T off a b (m + 1) b1 := by
  have k := h.step (hw.mono (Nat.le_refl _) (by omega))
  obtain ⟨p1, p2⟩ := part_keep hw (.inl ⟨rfl, rfl⟩) ham hmb h1 h2
  have := k.fr.right p1 p2 hs
  exact ⟨by have := h.aa; omega, by omega, h.bb, k.sw, fun x x0 x1 x2 => p2 x (by omega) x2, this⟩

theorem INV.left {R0 S T : Nat → Int} {off a b a1 b1 m : Nat} (h : INV R0 S off a b a1 b1) (ham : a1 ≤ m) (hmb : m < b1) (h1 : ∀ k, a1 ≤ k → k < m → S (off + k) ≤ S (off + m)) (h2 : ∀ k, m < k → k < b1 → S (off + m) ≤ S (off + k))
    (hw : Sw (off + (m + 1)) (off + b1) S T) (hs : Srtd T (off + (m + 1)) (off + b1)) : INV R0 T off a b a1 m := by
  have k := h.step (hw.mono (by omega) (Nat.le_refl _))
  obtain ⟨p1, p2⟩ := part_keep hw (.inr ⟨rfl, rfl⟩) ham hmb h1 h2
  have := k.fr.left p1 p2 hs
  exact ⟨h.aa, ham, by have := h.bb; omega, k.sw, fun x x0 x1 x2 => k.low x x0 x1 (by omega), this⟩

theorem INV.eq {R0 R S : Nat → Int} {off a b a1 b1 m p : Nat} (h : INV R0 R off a b a1 b1) (hm1 : a1 < m) (hm2 : m ≤ b1) (hmin : ∀ x, off + a1 ≤ x → x < off + b1 → R (off + p) ≤ R x) (hw : Sw (off + a1) (off + b1) R S)
    (h1 : ∀ k, a1 ≤ k → k < m → S (off + k) ≤ R (off + p)) : INV R0 S off a b m b1 := by
  have k := h.step hw
  have g1 : ∀ k, off + a1 ≤ k → k < off + m → S k ≤ R (off + p) := fun k k1 k2 => by
    have := h1 (k - off) (by omega) (by omega)
    rw [show off + (k - off) = k by omega] at this
    exact this
  have g2 : ∀ k, off + a1 ≤ k → k < off + b1 → R (off + p) ≤ S k := hw.all (P := fun v => R (off + p) ≤ v) hmin
  refine ⟨by have := h.aa; omega, hm2, h.bb, k.sw, fun x x0 x1 x2 => ?_, k.fr.eq g1 g2⟩
  have u := g1 (off + (m - 1)) (by omega) (by omega)
  have v := g2 x (by omega) x2
  omega

end Go.Proofs.Qxb6608903a.U
