/-
  The proof of 'Rows.FnLineStartIsFirstByteOfLineSaid', over the shell that the guide's tool wrote for this function.
-/
import Derived.Test.Qxb6605878aRows
import Derived.WalkKit
import Derived.ProofKit
import Derived.OpenShut
import Derived.ShutString
import Derived.ChangeOld
import Derived.Below
import Derived.Test.Qxb6605878aPlain
namespace Go.Proofs.Qxb6605878a.fnLineStartIsFirstByteOfLine
open Go.ChangeShapes Go.WideShapes Go.ChangeAt Go.RowKit Line
open Go.ChangeMaps (open_string shut_string)
set_option linter.unusedVariables false

theorem own : ownKnob Try.prog.godebug = none := by kernel_rfl
theorem laidOut : laidOutB Try.prog = true := by kernel_rfl

/-- WHAT THE WALK IS TOLD OF A SLICE OF INTEGERS THAT CAME IN: it is nil; or it leads to a row of 'cap' cells, the numbers 'zs' (the first 'len' are its elements, the rest its spare room), each fitting its kind. -/
def IsRow (k : IntKind) (w : World) (a : Option Addr) (len cap : Nat) (zs : List Int) : Prop :=
  (a = none ∧ len = 0 ∧ cap = 0 ∧ zs = []) ∨
  ∃ x, a = some x ∧ len ≤ cap ∧ cap ≤ maxLen ∧ zs.length = cap ∧ (∀ i, i < zs.length → w.cell? (x.add i) = some (.int k (zs.getD i 0))) ∧ ∀ n ∈ zs, (Lit.int k n).wf = true

theorem intsAt_of {w : World} {a : Option Addr} {len cap : Nat} {zs : List Int} (h : IsRow .i64 w a len cap zs) :
    IntsAt w a len (fun j => zs.getD j 0) ∧ (a = none → len = 0) ∧ len ≤ maxLen ∧ ∀ j, j < len → zs.getD j 0 ≤ 9223372036854775807 := by
  rcases h with ⟨rfl, rfl, rfl, rfl⟩ | ⟨x, rfl, hl, hm, hz, hc, hw⟩
  · exact ⟨.inl rfl, fun _ => rfl, Nat.zero_le _, fun j hj => absurd hj (Nat.not_lt_zero j)⟩
  · refine ⟨?_, fun h => absurd h (by simp), Nat.le_trans hl hm, fun j hj => ?_⟩
    · by_cases h0 : len = 0
      · exact .inl h0
      · obtain ⟨b, off, rfl, hc'⟩ := ints_at hc (by omega)
        exact .inr ⟨b, off, rfl, fun j hj => hc' j (by omega)⟩
    · have := range_i64 hw j
      simpa [List.getD] using this.2

theorem dr_below (w : World) (q : Nat) : Below w.heap.size w (w.drewN q) := ⟨rfl, rfl, rfl, Nat.le_refl _, fun _ _ => rfl⟩

theorem ret_true {b : Bool} (h : b = true) : Ending.returned (.bool b) = .returned (.bool true) := by rw [h]

set_option maxHeartbeats 400000 in
theorem law_any (a : Option Addr) (n cap : Nat) (f : Nat → Int) (k : Int) (w : World) (hn : n ≤ maxLen) (ha : a = none → n = 0) (hc : IntsAt w a n f)
    (hb : ∀ j, j < n → f j ≤ 9223372036854775807) (hk : -9223372036854775808 ≤ k) (hk' : k ≤ 9223372036854775807) :
    Calls Try.prog 3 #[.slice a n cap, .int .i64 k] w fun e w' => e = .returned (.bool true) ∧ Below w.heap.size w w' := by
  have HC : Hid (IntsAt w a n f) := hc
  have HA : Hid (a = none → n = 0) := ha
  have HB : Hid (∀ j, j < n → f j ≤ 9223372036854775807) := hb
  have hm := hn
  unfold maxLen at hm
  clear hc ha hb
  by_cases h1 : n ≤ 1048576
  · by_cases h2 : n ≤ 131072
    · have h2' : (n : Int) ≤ 131072 := by omega
      go_enter Try.func3, Try.ntmps3
      go_wp2_with fail
      refine (bytes9 a n cap k _ hn).mono ?_
      rintro e w' ⟨rfl, rfl⟩
      rw [decide_eq_true h1]
      go_wp2_with fail
      refine (ok_all a n cap f _ h1 HC.out).mono ?_
      rintro e w' ⟨b, rfl, hok, q, rfl⟩
      cases b with
      | false =>
        go_wp2
        go_ret
        exact ⟨rfl, dr_below _ _⟩
      | true =>
        have HO : Hid (OkL f n) := hok rfl
        clear hok
        go_wp2_with fail
        refine (clone_all a n cap f _ h1 HA.out (by exact HC.out)).mono ?_
        rintro e w1 ⟨a', cap', rfl, hc', hbel⟩
        have hbel0 : Below w'.heap.size w' w1 := (dr_below w' q).trans hbel
        have HC' : Hid (IntsAt w1 a' n f) := hc'
        have HB' : Hid (∀ j, j < n → 0 ≤ f j ∧ f j < 9223372036854775807) := top_of HO.out HB.out
        clear hc' hbel
        go_wp2_with fail
        refine (clamp_any k n _ (by omega)).mono ?_
        rintro e w2 ⟨rfl, rfl⟩
        go_wp2_with fail
        refine (zzStart_all a' n cap' f k _ (by omega) HC'.out HB'.out hk hk').mono ?_
        rintro e w3 ⟨rfl, rfl⟩
        go_wp2_with fail
        refine (zzLine_all a' n cap' f _ _ (by omega) HC'.out (sorted_of HO.out)).mono ?_
        rintro e w4 ⟨⟨p, rfl, hp⟩, rfl⟩
        rw [place_start HO.out hp]
        rcases st_cases f n k with ⟨e1, e2⟩ | ⟨m, hm, e1, e2⟩
        · rw [e1, e2]
          clear e1 e2
          go_wp2
          go_ret
          exact ⟨rfl, hbel0⟩
        · have hfm := HB'.out m hm
          rw [e1, e2]
          clear e1 e2
          have n1 : ((m : Int) + 2 == 1) = false := by simp; omega
          go_wp2_with fail
          refine (zzLine_all a' n cap' f _ _ (by omega) HC'.out (sorted_of HO.out)).mono ?_
          rintro e w5 ⟨⟨p', rfl, hp'⟩, rfl⟩
          rw [place_at HO.out hm hp']
          clear hp'
          go_wp2
          go_ret
          exact ⟨ret_true (by simp; omega), hbel0⟩
    · have h2' : (131072 : Int) < n := by omega
      go_enter Try.func3, Try.ntmps3
      go_wp2_with fail
      refine (bytes9 a n cap k _ hn).mono ?_
      rintro e w' ⟨rfl, rfl⟩
      rw [decide_eq_true h1]
      go_wp2
      go_ret
      exact ⟨rfl, Below.refl _ _⟩
  · go_enter Try.func3, Try.ntmps3
    go_wp2_with fail
    refine (bytes9 a n cap k _ hn).mono ?_
    rintro e w' ⟨rfl, rfl⟩
    rw [decide_eq_false h1]
    go_wp2
    go_ret
    exact ⟨rfl, Below.refl _ _⟩

/-! ### STEP 1: THE WALK: the Go text returns true, AND WRITES NOTHING THAT WAS THERE: 'Below w.heap.size w w'' (Derived/Below.lean: '.refl', '.alloc', '.drew', '.setCell' at a new block, '.trans'). Open each 'IsRow' by 'rcases' AHEAD of 'go_enter'; part every test ahead of the walk. -/
theorem walk (a0 : Option Addr) (len0 cap0 : Nat) (z0 : List Int) (a1 : Int) (w : World) (w0 : IsRow .i64 w a0 len0 cap0 z0) (w1 : (Lit.int .i64 a1).wf = true) :
    Calls Try.prog 3 #[.slice a0 len0 cap0, .int .i64 a1] w fun e w' => e = .returned (.bool true) ∧ Below w.heap.size w w' := by
  obtain ⟨hc, ha, hn, hb⟩ := intsAt_of w0
  have hk := bounds_i64 w1
  exact law_any a0 len0 cap0 _ a1 w hn ha hc hb hk.1 hk.2

/-! ### THE ROW's STEP: WRITTEN OUT: LEAVE IT -/
set_option maxRecDepth 100000 in
theorem lifted (os : Os) (started : os.Started) (H : Type) (enc : TypeId × Value → H) :
    ReturnsInHanded {} Try.checked os 3 .any (Rows.fnLineStartIsFirstByteOfLineSpec.pre6 enc Try.prog Try.f3 Rows.fnLineStartIsFirstByteOfLineRow.domain false) (Rows.fnLineStartIsFirstByteOfLineSpec.post enc Try.prog Try.f3 false true false false) := by
  refine returnsInHanded_of_change (C := Try.checked) own started (by kernel_rfl) Try.func3
    (ChangeSpec.witness6 (enc := enc) (C := Try.checked) false ⟨#[], #[.slice none 0 0, .int .i64 0], []⟩ 8 (by kernel_rfl) (by kernel_rfl) (by kernel_rfl) (by kernel_rfl)) ?_
  intro W base args ds gs before hval0 hW hcnd _
  have hval : ∀ (j : Nat) t v, Try.f3.params[j]? = some t → args[j]? = some v → Value.okWide Try.prog W .any base t v := hval0
  have hW' := hW
  obtain ⟨p, q, hA0, hV, rfl, hfz, hnd⟩ := hW
  have hA : DataW.TrodAll enc Try.prog W 0 (fun _ => true) true Try.f3.params.toList args.toList ds p := hA0
  rw [Try.params3] at hA hval
  obtain ⟨v0, vs0, d0, ds0, p0, q0, hargs, rfl, rfl, h0, r0⟩ := trodAll_cons hA
  obtain ⟨v1, vs1, d1, ds1, p1, q1, rfl, rfl, rfl, h1, r1⟩ := trodAll_cons r0
  obtain ⟨rfl, rfl, rfl⟩ := trodAll_nil r1
  obtain rfl : args = #[v0, v1] := by cases args; simp_all
  obtain ⟨rfl, rfl⟩ := trodVars_none hV
  obtain ⟨a0, len0, cap0, rfl⟩ := okWide_slice Try.underlying22 (hval 0 22 v0 rfl rfl)
  have k0 := h0
  have lt0 : ∀ x ∈ p0, x.block < W.heap.size := by obtain ⟨m, hm⟩ := k0; exact DataW.trod_lt m _ _ _ hm
  obtain ⟨z0, w0⟩ : ∃ zs, IsRow .i64 W a0 len0 cap0 zs := by
    obtain ⟨fuel, hf⟩ := h0
    rcases open_ints Try.underlying22 Try.underlying3 (by kernel_rfl) hf with ⟨hcs, _⟩ | ⟨x, l, c, zs, hcs, _, hl, hm, hz, _, hcell, hwz⟩
    · simp [Value.cells] at hcs
      obtain ⟨rfl, rfl, rfl⟩ := hcs
      exact ⟨[], .inl ⟨rfl, rfl, rfl, rfl⟩⟩
    · simp [Value.cells] at hcs
      obtain ⟨rfl, rfl, rfl⟩ := hcs
      exact ⟨zs, .inr ⟨_, rfl, hl, hm, by simpa using hz, hcell, hwz⟩⟩
  obtain ⟨a1, rfl, rfl, rfl, w1⟩ := open_int Try.underlying3 (hval 1 3 v1 rfl rfl) h1
  clear hA0 hval0
  refine (walk a0 len0 cap0 z0 a1 W w0 w1).mono fun e W' ⟨he, bel⟩ => ?_
  subst he
  exact ⟨_, rfl, _, _, _, [], _, [], hW', trodAll_mk1 (shut_bool Try.underlying4 _), (trodAll_cons_mk (Below.trod laidOut (by kernel_rfl) (of_decide_eq_true (by kernel_rfl)) k0 bel lt0) (trodAll_cons_mk (shut_int Try.underlying3 w1) trodAll_mk0)), rfl, bel.frame _, fun h => by cases h⟩

theorem over : Rows.fnLineStartIsFirstByteOfLineRow.holds Try.pinned (OpenSpec.ofChange Rows.fnLineStartIsFirstByteOfLineSpec) :=
  OpenClaim.holds_of_wide 3 Try.f3 rfl rfl rfl rfl rfl rfl rfl ⟨rfl, rfl, rfl, rfl, rfl⟩ rfl rfl rfl rfl rfl (by kernel_rfl) Try.func3 (by kernel_rfl)
    (of_decide_eq_true (by kernel_rfl)) (by unfold Func.isWrapper; first | (rw [if_pos (by decide +kernel)]; kernel_rfl) | (rw [if_neg (by decide +kernel)]; exact ⟨rfl, rfl⟩))
    (fun os started H enc _ => lifted os started H enc)

end Go.Proofs.Qxb6605878a.fnLineStartIsFirstByteOfLine
namespace Go.Proofs.Qxb6605878a

/-- THE STATEMENT. -/
theorem fnLineStartIsFirstByteOfLine_proved : Rows.FnLineStartIsFirstByteOfLineSaid := fnLineStartIsFirstByteOfLine.over

end Go.Proofs.Qxb6605878a
