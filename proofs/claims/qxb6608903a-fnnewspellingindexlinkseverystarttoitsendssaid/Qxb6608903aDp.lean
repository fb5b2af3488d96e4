/-
  zzOrder.cmp (30) at kind 0; zzDistinctPrefixes (10).
-/
import Derived.Test.Qxb6608903aCm
namespace Go.Proofs.Qxb6608903a.CmpW
open Go.RowKit Plain Mem Go.Sort SortW
set_option linter.unusedVariables false

/-- The texts in memory, with their slices by number. -/
structure TX (w : World) (b off : Nat) (T : List (List Int)) (A : Nat → Option Addr) (C : Nat → Nat) : Prop where
  cell : ∀ j, j < T.length → w.cell? ⟨b, off + j, none⟩ = some (.slice (A j) (tx T j).length (C j))
  runes : ∀ j, j < T.length → RC w (A j) (tx T j)

theorem TX.same {w w' : World} {b off : Nat} {T : List (List Int)} {A : Nat → Option Addr} {C : Nat → Nat} (h : TX w b off T A C) (hb : Below w.heap.size w w') : TX w' b off T A C :=
  ⟨fun j hj => by rw [hb.cell (old_of (h.cell j hj))]; exact h.cell j hj, fun j hj => (h.runes j hj).same hb⟩

set_option maxHeartbeats 1000000 in
theorem cmp0 (w : World) (po b off cap : Nat) (T : List (List Int)) (A : Nat → Option Addr) (C : Nat → Nat) (x y : Nat) (hx : x < T.length) (hy : y < T.length) (hlen : ∀ j, j < T.length → (tx T j).length ≤ 4194304) (hT : T.length ≤ 16777216)
    (h0 : w.cell? ⟨po, 0, none⟩ = some (.int .i64 0)) (h1 : w.cell? ⟨po, 1, none⟩ = some (.slice (some ⟨b, off, none⟩) T.length cap)) (h : TX w b off T A C) :
    Calls Try.prog 30 #[.pointer (some ⟨po, 0, none⟩), .int .i64 (x : Nat), .int .i64 (y : Nat)] w fun e w' => e = .returned (.int .i64 (cmpR (tx T x) (tx T y))) ∧ ∃ q os, w' = grow (w.drewN q) os := by
  have c1 := h.cell x hx
  have c2 := h.cell y hy
  have HC := hid (fun n => cmpRunes (w.drewN n) (A x) (A y) (C x) (C y) (tx T x) (tx T y) (hlen x hx) (hlen y hy) (h.runes x hx) (h.runes y hy))
  clear h hlen
  generalize cmpR (tx T x) (tx T y) = r at *
  have x0 : (0 : Int) ≤ (x : Int) := Int.natCast_nonneg _
  have x1 : (x : Int) < (T.length : Int) := by omega
  have y0 : (0 : Int) ≤ (y : Int) := Int.natCast_nonneg _
  have y1 : (y : Int) < (T.length : Int) := by omega
  go_enter Try.func30, Try.ntmps30
  go_wp2
  go_quiet ((go_at_call 39; exact Calls.quiet_of (HC.out _)))
  go_wp2
  go_ret
  exact ⟨rfl, nq, #[], by simp⟩

theorem cmpOK0 (w : World) (po b off cap : Nat) (T : List (List Int)) (A : Nat → Option Addr) (C : Nat → Nat) (hlen : ∀ j, j < T.length → (tx T j).length ≤ 4194304) (hT : T.length ≤ 16777216)
    (h0 : w.cell? ⟨po, 0, none⟩ = some (.int .i64 0)) (h1 : w.cell? ⟨po, 1, none⟩ = some (.slice (some ⟨b, off, none⟩) T.length cap)) (h : TX w b off T A C) :
    CmpOK (.pointer (some ⟨po, 0, none⟩)) T.length (fun x y => cmpR (tx T x) (tx T y)) w := fun W hW x y hx hy =>
  cmp0 W po b off cap T A C x y hx hy hlen hT (by rw [hW.cell (old_of h0)]; exact h0) (by rw [hW.cell (old_of h1)]; exact h1) (h.same hW)

theorem cntTo_le (t : Nat → List Int) (L : Nat) (ht : ∀ p, (t p).length ≤ L) (p : Nat) : cntTo t p ≤ p * L := by
  induction p with
  | zero => simp [cntTo]
  | succ p ih =>
    unfold cntTo
    have := ht p
    rw [Nat.succ_mul]
    omega

theorem cntTo_le' (t : Nat → List Int) (L : Nat) (p : Nat) (ht : ∀ q, q < p → (t q).length ≤ L) : cntTo t p ≤ p * L := by
  induction p with
  | zero => simp [cntTo]
  | succ p ih =>
    have hi := ih (fun q hq => ht q (by omega))
    unfold cntTo
    have := ht p (by omega)
    rw [Nat.succ_mul]
    omega

/-- The texts as they are handed in. -/
def TXs (w : World) (ta : Option Addr) (T : List (List Int)) : Prop := T = [] ∨ ∃ b off A C, ta = some ⟨b, off, none⟩ ∧ TX w b off T A C

theorem TXs.same {w w' : World} {ta : Option Addr} {T : List (List Int)} (h : TXs w ta T) (hb : Below w.heap.size w w') : TXs w' ta T := by
  rcases h with h | ⟨b, off, A, C, h1, h2⟩
  · exact .inl h
  · exact .inr ⟨b, off, A, C, h1, h2.same hb⟩

theorem cmpOKs (w : World) (po cap : Nat) (ta : Option Addr) (T : List (List Int)) (hlen : ∀ j, j < T.length → (tx T j).length ≤ 4194304) (hT : T.length ≤ 16777216)
    (h0 : w.cell? ⟨po, 0, none⟩ = some (.int .i64 0)) (h1 : w.cell? ⟨po, 1, none⟩ = some (.slice ta T.length cap)) (h : TXs w ta T) :
    CmpOK (.pointer (some ⟨po, 0, none⟩)) T.length (fun x y => cmpR (tx T x) (tx T y)) w := by
  rcases h with h | ⟨b, off, A, C, rfl, h2⟩
  · intro W hW x y hx hy
    rw [h] at hx
    exact absurd hx (by simp)
  · exact cmpOK0 w po b off cap T A C hlen hT h0 h1 h2

set_option maxHeartbeats 2000000 in
theorem distinct (w : World) (ta : Option Addr) (cap : Nat) (T : List (List Int)) (hlen : ∀ j, j < T.length → (tx T j).length ≤ 4194304) (hT : T.length ≤ 1048576) (h : TXs w ta T) :
    Calls Try.prog 10 #[.slice ta T.length cap] w fun e w' => ∃ I : Nat → Nat, (seg I 0 T.length).Perm (List.range T.length) ∧ (∀ p q, p < q → q < T.length → cmpR (tx T (I p)) (tx T (I q)) ≤ 0) ∧ e = .returned (.int .i64 (cntTo (fun p => tx T (I p)) T.length : Nat)) ∧ Below w.heap.size w w' := by
  have HTX := hid h
  have HLEN := hid hlen
  clear h hlen
  go_enter Try.func10, Try.ntmps10
  go_wp2_with fail
  have hbel1 : RowKit.Below w.heap.size w (w.alloc (.cells #[.int .i64 0, .slice ta T.length cap, .slice none 0 0, .slice none 0 0] 61)) := (Below.refl _ _).alloc (Nat.le_refl _) _
  have hc0 : (w.alloc (.cells #[.int .i64 0, .slice ta T.length cap, .slice none 0 0, .slice none 0 0] 61)).cell? ⟨w.heap.size, 0, none⟩ = some (.int .i64 0) := by simp
  have hc1 : (w.alloc (.cells #[.int .i64 0, .slice ta T.length cap, .slice none 0 0, .slice none 0 0] 61)).cell? ⟨w.heap.size, 1, none⟩ = some (.slice ta T.length cap) := by simp
  have hs1 : w.heap.size ≤ (w.alloc (.cells #[.int .i64 0, .slice ta T.length cap, .slice none 0 0, .slice none 0 0] 61)).heap.size := by simp
  generalize w.alloc (.cells #[.int .i64 0, .slice ta T.length cap, .slice none 0 0, .slice none 0 0] 61) = w1 at hbel1 hc0 hc1 hs1 ⊢
  have HTX1 := hid (HTX.out.same hbel1)
  have HS := hid (sortIdx (.pointer (some ⟨w.heap.size, 0, none⟩)) T.length (fun x y => cmpR (tx T x) (tx T y)) w1 (by omega) (cmpOKs w1 w.heap.size cap ta T HLEN.out (by omega) hc0 hc1 HTX1.out) (fun a b c _ _ _ h1 h2 => cmpR_trans _ _ _ h1 h2) (fun a b _ _ h => by rw [cmpR_anti]; omega))
  clear hc0 hc1
  refine HS.out.mono ?_
  rintro e w2 ⟨g, I, rfl, hrow, hperm, hord, hg, hbel2⟩
  clear HS
  have HROW := hid hrow
  have HPERM := hid hperm
  have HORD := hid hord
  have HTX2 := hid (HTX1.out.same hbel2)
  have hb2 : RowKit.Below w.heap.size w w2 := hbel1.trans (hbel2.mono hs1)
  have hgl := hrow.lt
  clear hrow hperm hord HTX1 HTX
  go_wp2
  go_loopw [5, 6] (fun cv pv wr => ∃ p q : Nat, p ≤ T.length ∧ pv = .int .i64 p ∧ cv = .int .i64 (cntTo (fun p => tx T (I p)) p : Nat) ∧ wr = w2.drewN q)
    (fun _ pv _ => T.length - (intOf pv).toNat)
  case atStart => exact ⟨0, 0, Nat.zero_le _, rfl, rfl, rfl⟩
  case round =>
    obtain ⟨p, q, hp, rfl, rfl, rfl⟩ := hrel
    by_cases hlt : p < T.length
    · rcases HTX2.out with e | ⟨b, off, A, C, rfl, htx⟩
      · rw [e] at hlt; exact absurd hlt (by simp)
      · have hIp : I p < T.length := seg_range_lt HPERM.out hlt
        have x1 : w2.cell? ⟨g, p, none⟩ = some (.int .i64 (I p : Nat)) := HROW.out.cell hlt
        have x2 : w2.cell? ⟨b, off + I p, none⟩ = some (.slice (A (I p)) (tx T (I p)).length (C (I p))) := htx.cell _ hIp
        have hl1 := HLEN.out _ hIp
        have HCS : Hid (cntTo (fun p => tx T (I p)) (p + 1) = cntTo (fun p => tx T (I p)) p + ((tx T (I p)).length - shr (fun p => tx T (I p)) p)) := rfl
        have hcb : cntTo (fun p => tx T (I p)) p ≤ 4398046511104 := by
          have := cntTo_le' (fun p => tx T (I p)) 4194304 p (fun q hq => HLEN.out _ (seg_range_lt HPERM.out (by omega)))
          have h3 : p * 4194304 ≤ 1048576 * 4194304 := Nat.mul_le_mul_right _ (by omega)
          omega
        have HTX3 := hid htx
        clear htx
        by_cases hp0 : p = 0
        · subst hp0
          have hb0 : ((0 : Int) == 0) = true := by simp
          go_wp2
          refine ⟨⟨1, q, by omega, rfl, ?_, rfl⟩, by simp [intOf]; omega⟩
          rw [HCS.out]
          have e0 : shr (fun p => tx T (I p)) 0 = 0 := rfl
          rw [e0]
          go_num
        · have hpb : ((p : Int) == 0) = false := by simp; omega
          have hIq : I (p - 1) < T.length := seg_range_lt HPERM.out (by omega)
          have x3 : w2.cell? ⟨g, p - 1, none⟩ = some (.int .i64 (I (p - 1) : Nat)) := HROW.out.cell (by omega)
          have x4 : w2.cell? ⟨b, off + I (p - 1), none⟩ = some (.slice (A (I (p - 1))) (tx T (I (p - 1))).length (C (I (p - 1)))) := HTX3.out.cell _ hIq
          have HL := hid (fun n => lcpRunes (w2.drewN n) (A (I p)) (A (I (p - 1))) (C (I p)) (C (I (p - 1))) (tx T (I p)) (tx T (I (p - 1))) hl1 (HLEN.out _ hIq) (HTX3.out.runes _ hIp) (HTX3.out.runes _ hIq))
          have HLE := lcp_le (tx T (I p)) (tx T (I (p - 1)))
          have HSR : Hid (shr (fun p => tx T (I p)) p = lcp (tx T (I p)) (tx T (I (p - 1)))) := by
            obtain ⟨p', rfl⟩ : ∃ p', p = p' + 1 := ⟨p - 1, by omega⟩
            exact rfl
          go_wp2_with (go_at_call 14; refine (HL.out _).mono ?_; rintro e w5 ⟨rfl, q5, rfl⟩)
          refine ⟨⟨p + 1, q + q5, by omega, rfl, ?_, by simp⟩, by simp [intOf]; omega⟩
          rw [HCS.out, HSR.out]
          go_num
    · obtain rfl : p = T.length := by omega
      go_wp2
      go_ret
      exact ⟨I, HPERM.out, HORD.out, rfl, hb2.trans (dr_below _ _ _)⟩

end Go.Proofs.Qxb6608903a.CmpW
