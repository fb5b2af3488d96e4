/-
  slices.Clone (35) at []rune.
-/
import Derived.Test.Qxb6608903aPth
import Derived.Test.Qxb6608903aCm
namespace Go.Proofs.Qxb6608903a.Cl
open Go.RowKit Plain Mem Go.Sort CmpW
open TrieW hiding hid
set_option linter.unusedVariables false

theorem hid {p : Prop} (h : p) : Hid p := h

/-- A row of runes. -/
def runF (t : List Int) (c i : Nat) : Value := .int .i32 (rn t c)

/-- What Clone leaves. -/
def Cloned (w : World) (t : List Int) (e : Ending) (w' : World) : Prop :=
  ∃ (g cap : Nat), e = .returned (.slice (some ⟨g, 0, none⟩) t.length cap) ∧ OwnK w' 21 1 g cap t.length (runF t) ∧ w.heap.size ≤ g ∧ Below w.heap.size w w'

set_option maxHeartbeats 2000000 in
set_option maxRecDepth 100000 in
theorem clone_any (w : World) (b off cap : Nat) (t : List Int) (ht : t.length ≤ 16777216) (hc : ∀ j, j < t.length → w.cell? ⟨b, off + j, none⟩ = some (.int .i32 (rn t j))) :
    Calls Try.prog 35 #[.slice (some ⟨b, off, none⟩) t.length cap] w fun e w' => Cloned w t e w' := by
  have HC := hid hc
  clear hc
  obtain ⟨i2, hi2, hz0, hz1, hz2⟩ := info_parts info21
  have q22 : ∀ (w : World) (a : Option Addr) (n c n' c' : Nat), (binOp .eql 24 (.slice a n c) (.slice none n' c')).run Try.prog w = .ok (.bool a.isNone) w := fun w a n c n' c' => Lib.run_eql_slice_nil w _ _ a n c n' c' Try.underlying24
  go_enter Try.func35, Try.ntmps35
  go_wp2_with (at_builtin; refine wpList_append_own _ rfl _ _ 24 rfl w.heap.size 21 i2 _ 1 4 Try.underlying24 hi2 hz0 hz1 hz2 rfl (by decide) _ _ _ rfl (World.ownsRow_made w #[] 0 (Nat.le_refl _) (Nat.zero_le _) (by simp)) ⟨b, off, none⟩ t.length cap (t.map fun r => .int .i32 r) rfl ?c1 ?c2 ?c3 ?c4 ?c5 ?c6 ?_)
  case c1 => simp
  case c2 =>
    intro j u hj
    rw [Addr.add_lit]
    rw [List.getElem?_map] at hj
    have hlt : j < t.length := by
      by_cases h : j < t.length
      · exact h
      · rw [List.getElem?_eq_none (by omega)] at hj; simp at hj
    have := HC.out j hlt
    rw [List.getElem?_eq_getElem hlt] at hj
    simp at hj
    subst hj
    refine Lib.cell?_alloc_some _ ?_
    rw [this]
    unfold rn
    rw [List.getD_eq_getElem?_getD, List.getElem?_eq_getElem hlt]
    rfl
  case c3 => intro v hv; simp at hv; obtain ⟨r, _, rfl⟩ := hv; rfl
  case c4 => rw [Nat.zero_add]; unfold maxLen; omega
  case c5 => rw [Nat.zero_add]; omega
  case c6 => simp
  intro v' w1 hown hgrow hnil
  have HO := hid hown
  have HG := hid hgrow
  have HN := hid hnil
  clear hown hgrow hnil hi2 hz0 hz1 hz2
  go_wp2
  go_ret
  obtain ⟨g, cp, e⟩ : ∃ g cp, v' = .slice (some ⟨g, 0, none⟩) t.length cp := by
    rcases HO.out.2 with ⟨h1, _⟩ | ⟨g', cap', cur, hv, _⟩
    · exact absurd h1 HN.out
    · exact ⟨g', cap', hv⟩
  subst e
  have := own_of (F := runF t) HO.out (fun c i hcn hi => by
    obtain rfl : i = 0 := by omega
    rw [Nat.mul_one, Nat.add_zero, List.getElem?_map, List.getElem?_eq_getElem hcn]
    unfold runF rn
    rw [List.getD_eq_getElem?_getD, List.getElem?_eq_getElem hcn]
    rfl)
  exact ⟨g, cp, rfl, this.1, this.2, ((Below.refl _ w).alloc (Nat.le_refl _) _).grown HG.out (by simp) (by intro k hk; simp [Value.ownBlock] at hk; omega)⟩

end Go.Proofs.Qxb6608903a.Cl
