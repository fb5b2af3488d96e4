/-
  siftDownOrdered (69), heapSortOrdered (56) over a uint64.
-/
import Derived.Test.Qxb6608903aUb
import Derived.BigRegion
namespace Go.Proofs.Qxb6608903a.U
open Go.RowKit Mem Go.Sort
set_option linter.unusedVariables false

/-- A heap from lo on, below hi. -/
def Heap (H : Nat → Int) (lo hi : Nat) : Prop := ∀ c, 1 ≤ c → c < hi → lo ≤ (c - 1) / 2 → H c ≤ H ((c - 1) / 2)

/-- A heap but for what lies at root. -/
structure Sift (H : Nat → Int) (lo hi root : Nat) : Prop where
  le : lo ≤ root
  a : ∀ c, 1 ≤ c → c < hi → lo ≤ (c - 1) / 2 → (c - 1) / 2 ≠ root → H c ≤ H ((c - 1) / 2)
  b : ∀ c, 1 ≤ c → c < hi → (c - 1) / 2 = root → 1 ≤ root → lo ≤ (root - 1) / 2 → H c ≤ H ((root - 1) / 2)

theorem Sift.start {H : Nat → Int} {lo hi : Nat} (h : Heap H (lo + 1) hi) : Sift H lo hi lo :=
  ⟨Nat.le_refl _, fun c h1 h2 h3 h4 => h c h1 h2 (by omega), fun c h1 h2 h3 h4 h5 => by omega⟩

theorem Sift.step {H : Nat → Int} {lo hi root ch : Nat} (h : Sift H lo hi root) (hch : ch = 2 * root + 1 ∨ ch = 2 * root + 2) (h1 : ch < hi) (hmax : ∀ c, c < hi → c = 2 * root + 1 ∨ c = 2 * root + 2 → H c ≤ H ch) (hl : H root < H ch) :
    Sift (swp H root ch) lo hi ch := by
  have hle := h.le
  refine ⟨by omega, fun c c1 c2 c3 c4 => ?_, fun c c1 c2 c3 c4 c5 => ?_⟩
  · by_cases e1 : c = ch
    · have e2 : (c - 1) / 2 = root := by omega
      unfold swp
      rw [if_neg (by omega), if_pos e1, e2, if_pos rfl]
      omega
    · by_cases e2 : (c - 1) / 2 = root
      · unfold swp
        rw [if_neg (by omega), if_neg e1, e2, if_pos rfl]
        exact hmax c c2 (by omega)
      · by_cases e3 : c = root
        · subst e3
          unfold swp
          rw [if_pos rfl, if_neg e2, if_neg c4]
          exact h.b ch (by omega) h1 (by omega) c1 c3
        · unfold swp
          rw [if_neg e3, if_neg e1, if_neg e2, if_neg c4]
          exact h.a c c1 c2 c3 e2
  · have e2 : (ch - 1) / 2 = root := by omega
    unfold swp
    rw [e2, if_neg (by omega), if_neg (by omega), if_pos rfl]
    have := h.a c c1 c2 (by omega) (by omega)
    rw [c3] at this
    exact this

theorem Sift.leaf {H : Nat → Int} {lo hi root : Nat} (h : Sift H lo hi root) (h1 : hi ≤ 2 * root + 1) : Heap H lo hi := fun c c1 c2 c3 => h.a c c1 c2 c3 (by omega)

theorem Sift.stop {H : Nat → Int} {lo hi root ch : Nat} (h : Sift H lo hi root) (hmax : ∀ c, c < hi → c = 2 * root + 1 ∨ c = 2 * root + 2 → H c ≤ H ch) (hl : H ch ≤ H root) : Heap H lo hi := by
  intro c c1 c2 c3
  by_cases e : (c - 1) / 2 = root
  · have := hmax c c2 (by omega)
    rw [e]; omega
  · exact h.a c c1 c2 c3 e

theorem Heap.top {H : Nat → Int} {n : Nat} (h : Heap H 0 n) : ∀ k c, c ≤ k → c < n → H c ≤ H 0 := by
  intro k
  induction k with
  | zero => intro c h1 h2; rw [show c = 0 by omega]; omega
  | succ k ih =>
    intro c h1 h2
    by_cases e : c = 0
    · subst e; omega
    · have a := h c (by omega) h2 (Nat.zero_le _)
      have b := ih ((c - 1) / 2) (by omega) (by omega)
      omega

/-- The numbers from base on. -/
def vw (R : Nat → Int) (base : Nat) : Nat → Int := fun k => R (base + k)

theorem vw_swp (R : Nat → Int) (base i j : Nat) : vw (swp R (base + i) (base + j)) base = swp (vw R base) i j := by
  funext k
  unfold vw swp
  by_cases e1 : k = i
  · simp [e1]
  · by_cases e2 : k = j
    · subst e2; simp [e1]
    · rw [if_neg (by omega), if_neg (by omega), if_neg e1, if_neg e2]

set_option maxHeartbeats 2000000 in
theorem sift (w : World) (g N off n cap lo hi first : Nat) (R : Nat → Int) (hrow : w.rowIs g 50 N (rowU R)) (hoN : off + n ≤ N) (hN : N ≤ 16777216) (hfh : first + hi ≤ n) (hlo : lo ≤ 16777216) (hheap : Heap (vw R (off + first)) (lo + 1) hi) :
    Calls Try.prog 69 #[.slice (some ⟨g, off, none⟩) n cap, .int .i64 lo, .int .i64 hi, .int .i64 first] w fun e w' => e = .returned (.tuple #[]) ∧ ∃ R', UR w w' g N R' ∧ Sw (off + first) (off + first + hi) R R' ∧ Heap (vw R' (off + first)) lo hi := by
  have HUR := hid (UR.start hrow)
  have HS := hid (Sift.start hheap)
  clear hrow hheap
  go_enter Try.func69, Try.ntmps69
  go_wp2
  go_loopw [8] (fun vr wr => ∃ (root : Nat) (R1 : Nat → Int), vr = .int .i64 root ∧ root ≤ 16777216 ∧ UR w wr g N R1 ∧ Sw (off + first) (off + first + hi) R R1 ∧ Sift (vw R1 (off + first)) lo hi root) (fun vr _ => hi - (intOf vr).toNat)
  case atStart => exact ⟨lo, R, rfl, hlo, HUR.out, .refl, HS.out⟩
  case round =>
    clear HUR HS
    obtain ⟨root, R1, rfl, hr, hur, hsw, hs⟩ := hrel
    by_cases hch : 2 * root + 1 < hi
    · have hcw : ∀ t, t < n → wr.cell? ⟨g, off + t, none⟩ = some (.int .u64 (R1 (off + t))) := fun t ht => hur.cell off t (by omega)
      have hfw : ∀ t, t < n → wr.frozen? ⟨g, off + t, none⟩ = false := fun t ht => hur.frozen _
      have HUR := hid hur
      have HSW := hid hsw
      have HS := hid hs
      clear hur hsw hs
      have h0z : ¬ ((hi : Int) ≤ 2 * (root : Int) + 1) := by omega
      have HV : Hid (∀ b : Bool, (b = true → 2 * root + 2 < hi ∧ ltU (R1 (off + (first + (2 * root + 1)))) (R1 (off + (first + (2 * root + 1) + 1))) = true) → (b = false → 2 * root + 2 < hi → ltU (R1 (off + (first + (2 * root + 1)))) (R1 (off + (first + (2 * root + 1) + 1))) = false) →
          ∃ ch : Nat, ch = (if b = true then 2 * root + 2 else 2 * root + 1) ∧ ch < hi ∧ ∀ c, c < hi → c = 2 * root + 1 ∨ c = 2 * root + 2 → vw R1 (off + first) c ≤ vw R1 (off + first) ch) := by
        intro b hb1 hb2
        have e1 : off + first + (2 * root + 1) = off + (first + (2 * root + 1)) := by omega
        have e2 : off + first + (2 * root + 2) = off + (first + (2 * root + 1) + 1) := by omega
        cases b with
        | true =>
          obtain ⟨h1, h2⟩ := hb1 rfl
          have := ltU_true h2
          refine ⟨2 * root + 2, rfl, h1, fun c c1 c2 => ?_⟩
          unfold vw
          rcases c2 with rfl | rfl
          · rw [e1, e2]; omega
          · omega
        | false =>
          refine ⟨2 * root + 1, rfl, hch, fun c c1 c2 => ?_⟩
          unfold vw
          rcases c2 with rfl | rfl
          · omega
          · have := ltU_false (hb2 rfl c1)
            rw [e1, e2]; omega
      go_wp2_with fail
      go_cut [36] (fun cv wx => ∃ (b : Bool) (q : Nat), cv = .bool b ∧ wx = wr.drewN q ∧ (b = true → 2 * root + 2 < hi ∧ ltU (R1 (off + (first + (2 * root + 1)))) (R1 (off + (first + (2 * root + 1) + 1))) = true) ∧ (b = false → 2 * root + 2 < hi → ltU (R1 (off + (first + (2 * root + 1)))) (R1 (off + (first + (2 * root + 1) + 1))) = false))
      case first =>
        by_cases h1 : 2 * root + 2 < hi
        · have h1z : 2 * (root : Int) + 1 + 1 < (hi : Int) := by omega
          go_quiet (first | (go_at_call 61; refine Calls.quiet_of_same (less _ _ _)))
          go_wp2
          go_meet
          case rel =>
            refine ⟨_, nq, rfl, rfl, fun h => ⟨h1, ?_⟩, fun h _ => ?_⟩
            · rw [show off + (first + (2 * root + 1)) = off + (first + 2 * root + 1) by omega, show off + (first + (2 * root + 1) + 1) = off + (first + 2 * root + 2) by omega]; exact h
            · rw [show off + (first + (2 * root + 1)) = off + (first + 2 * root + 1) by omega, show off + (first + (2 * root + 1) + 1) = off + (first + 2 * root + 2) by omega]; exact h
        · have h1z : decide (2 * (root : Int) + 1 + 1 < (hi : Int)) = false := decide_eq_false (by omega)
          go_quiet (first | (go_at_call 61; refine Calls.quiet_of_same (less _ _ _)))
          go_wp2
          go_meet
          case rel => exact ⟨false, nq, rfl, rfl, fun h => by simp at h, fun _ h => absurd h h1⟩
      case rest =>
        obtain ⟨b, q1, rfl, rfl, hb1, hb2⟩ := hcut
        obtain ⟨ch, hch1, hch3, hmax⟩ := HV.out b hb1 hb2
        have HMAX := hid hmax
        clear hmax hb1 hb2 HV
        go_upto_if 36 with fail
        go_cut [9] (fun cv wx => cv = .int .i64 ch ∧ wx = wr.drewN q1)
        case first =>
          cases b
          · go_wp2
            go_meet
            case rel => exact ⟨by rw [hch1]; go_num, rfl⟩
          · go_wp2
            go_meet
            case rel => exact ⟨by rw [hch1]; go_num, rfl⟩
        case rest =>
          obtain ⟨rfl, rfl⟩ := hcut
          have hch2 : ch = 2 * root + 1 ∨ ch = 2 * root + 2 := by rw [hch1]; split <;> simp
          have HCH2 := hid hch2
          have hrc : root < ch := by omega
          clear hch1 hch2 h0z hch
          have hcw2 : ∀ t, t < n → (wr.drewN q1).cell? ⟨g, off + t, none⟩ = some (.int .u64 (R1 (off + t))) := hcw
          have hfw2 : ∀ t, t < n → (wr.drewN q1).frozen? ⟨g, off + t, none⟩ = false := hfw
          have HUR2 := hid (HUR.out.drewN q1)
          clear hcw hfw HUR
          generalize wr.drewN q1 = wr2 at hcw2 hfw2 HUR2 ⊢
          go_wp2_with fail
          go_quiet (first | (go_at_call 61; refine Calls.quiet_of_same (less _ _ _)))
          go_wp2
          · have hl : ltU (R1 (off + (first + root))) (R1 (off + (first + ch))) = false := by
              have : (!ltU (R1 (off + (first + root))) (R1 (off + (first + ch)))) = true := by assumption
              simpa using this
            (try simp only [Exit.inBlock, Exit.then]); refine bodyPost_ret (results_none rfl _ _ _) rfl ?_
            refine ⟨rfl, R1, HUR2.out.drewN nq, HSW.out, HS.out.stop HMAX.out ?_⟩
            have := ltU_false hl
            unfold vw
            rw [show off + first + ch = off + (first + ch) by omega, show off + first + root = off + (first + root) by omega]
            exact this
          · have hl : ltU (R1 (off + (first + root))) (R1 (off + (first + ch))) = true := by
              have : (!ltU (R1 (off + (first + root))) (R1 (off + (first + ch)))) = false := by assumption
              simpa using this
            have hcw3 : ∀ t, t < n → (wr2.drewN nq).cell? ⟨g, off + t, none⟩ = some (.int .u64 (R1 (off + t))) := hcw2
            have hfw3 : ∀ t, t < n → (wr2.drewN nq).frozen? ⟨g, off + t, none⟩ = false := hfw2
            have HUR3 := hid (HUR2.out.drewN nq)
            clear hcw2 hfw2 HUR2
            generalize wr2.drewN nq = wr3 at hcw3 hfw3 HUR3 ⊢
            go_region
            all_goals go_wp2
            go_roundw
            case rel =>
              refine ⟨ch, swp R1 (off + (first + root)) (off + (first + ch)), rfl, by omega, (HUR3.out.drewN 1).swap _ _, HSW.out.step (by omega) (by omega) (by omega) (by omega), ?_⟩
              rw [show off + (first + ch) = off + first + ch by omega, show off + (first + root) = off + first + root by omega, vw_swp]
              refine HS.out.step HCH2.out hch3 HMAX.out ?_
              have := ltU_true hl
              unfold vw
              rw [show off + first + ch = off + (first + ch) by omega, show off + first + root = off + (first + root) by omega]
              exact this
            case measure => simp [intOf]; omega
    · have HUR := hid hur
      have HSW := hid hsw
      have HS := hid hs
      clear hur hsw hs
      go_wp2
      go_end0
      exact ⟨rfl, R1, HUR.out, HSW.out, HS.out.leaf (by omega)⟩

/-- The second half of the heap sort: a heap below i, what is behind it in order and not less. -/
structure HS (H : Nat → Int) (i m : Nat) : Prop where
  heap : Heap H 0 i
  srt : Srtd H i m
  le : ∀ p q, p < i → i ≤ q → q < m → H p ≤ H q

theorem HS.start {H : Nat → Int} {m : Nat} (h : Heap H 0 m) : HS H m m := ⟨h, fun i j h1 h2 h3 => by omega, fun p q h1 h2 h3 => by omega⟩

/-- The top goes behind. -/
theorem HS.swap {H : Nat → Int} {i m : Nat} (h : HS H (i + 1) m) (him : i < m) : Heap (swp H 0 i) 1 i ∧ Srtd (swp H 0 i) i m ∧ ∀ p q, p < i → i ≤ q → q < m → swp H 0 i p ≤ swp H 0 i q := by
  have e0 : swp H 0 i i = H 0 := by
    unfold swp
    by_cases e : i = 0
    · rw [if_pos e, e]
    · rw [if_neg e, if_pos rfl]
  have eg : ∀ q, i < q → swp H 0 i q = H q := fun q hq => by unfold swp; rw [if_neg (by omega), if_neg (by omega)]
  have top : ∀ c, c < i + 1 → H c ≤ H 0 := fun c hc => h.heap.top c c (Nat.le_refl _) hc
  have low : ∀ p, p < i → ∃ c, c < i + 1 ∧ swp H 0 i p = H c := fun p hp => by
    unfold swp
    by_cases e : p = 0
    · exact ⟨i, by omega, by rw [if_pos e]⟩
    · exact ⟨p, by omega, by rw [if_neg e, if_neg (by omega)]⟩
  refine ⟨fun c c1 c2 c3 => ?_, fun a b h1 h2 h3 => ?_, fun p q h1 h2 h3 => ?_⟩
  · have := h.heap c c1 (by omega) (Nat.zero_le _)
    unfold swp
    rw [if_neg (by omega), if_neg (by omega), if_neg (by omega), if_neg (by omega)]
    exact this
  · rw [eg b (by omega)]
    by_cases e : a = i
    · subst e
      rw [e0]
      exact h.le 0 b (by omega) (by omega) h3
    · rw [eg a (by omega)]
      exact h.srt a b (by omega) h2 h3
  · obtain ⟨c, hc, e⟩ := low p h1
    rw [e]
    by_cases e2 : q = i
    · subst e2; rw [e0]; exact top c hc
    · rw [eg q (by omega)]
      exact h.le c q hc (by omega) h3

theorem HS.next {R R' : Nat → Int} {base i m : Nat} (hs : Srtd (vw R base) i m) (hl : ∀ p q, p < i → i ≤ q → q < m → vw R base p ≤ vw R base q) (hw : Sw base (base + i) R R') (hh : Heap (vw R' base) 0 i) : HS (vw R' base) i m := by
  have same : ∀ q, i ≤ q → vw R' base q = vw R base q := fun q hq => hw.out (Or.inr (by omega))
  refine ⟨hh, fun a b h1 h2 h3 => ?_, fun p q h1 h2 h3 => ?_⟩
  · rw [same a h1, same b (by omega)]; exact hs a b h1 h2 h3
  · rw [same q h2]
    exact hw.all (P := fun x => x ≤ vw R base q) (fun k k1 k2 => by
      have := hl (k - base) q (by omega) h2 h3
      unfold vw at this ⊢
      rw [show base + (k - base) = k by omega] at this
      exact this) (base + p) (by omega) (by omega)

set_option maxHeartbeats 2000000 in
theorem heapSort (w : World) (g N off n cap a b : Nat) (R : Nat → Int) (hrow : w.rowIs g 50 N (rowU R)) (hoN : off + n ≤ N) (hN : N ≤ 16777216) (hab : a < b) (hb : b ≤ n) :
    Calls Try.prog 56 #[.slice (some ⟨g, off, none⟩) n cap, .int .i64 a, .int .i64 b] w fun e w' => e = .returned (.tuple #[]) ∧ ∃ R', UR w w' g N R' ∧ Sw (off + a) (off + b) R R' ∧ Srtd R' (off + a) (off + b) := by
  obtain ⟨m, hm⟩ : ∃ m, m = b - a := ⟨b - a, rfl⟩
  have HUR := hid (UR.start hrow)
  clear hrow
  go_enter Try.func56, Try.ntmps56
  go_wp2
  have em : ((b : Int) - (a : Int)) = (m : Int) := by omega
  simp only [em]
  clear em
  have hm1 : 1 ≤ m := by omega
  have hm2 : a + m ≤ n := by omega
  have HM := hid hm
  clear hm
  go_loopw [9] (fun iv wr => ∃ (k : Nat) (R1 : Nat → Int), iv = .int .i64 ((k : Int) - 1) ∧ k ≤ m + 1 ∧ UR w wr g N R1 ∧ Sw (off + a) (off + b) R R1 ∧ Heap (vw R1 (off + a)) k m) (fun iv _ => (intOf iv + 1).toNat)
  case atStart => exact ⟨(m - 1) / 2 + 1, R, by congr 1; omega, by omega, HUR.out, .refl, fun c c1 c2 c3 => by omega⟩
  case round =>
    clear HUR
    obtain ⟨k, R1, rfl, hk, hur, hsw, hh⟩ := hrel
    have HUR := hid hur
    have HSW := hid hsw
    have HH := hid hh
    clear hur hsw hh
    cases k with
    | succ k =>
      have ek : (((k + 1 : Nat) : Int) - 1) = (k : Int) := by omega
      rw [ek]
      have HC := hid (sift wr g N off n cap k m a R1 HUR.out.row hoN hN hm2 (by omega) HH.out)
      go_wp2_with fail
      refine HC.out.mono ?_
      rintro e w2 ⟨rfl, R2, hur2, hsw2, hh2⟩
      have HUR2 := hid (HUR.out.trans hur2)
      have HSW2 := hid (HSW.out.trans (hsw2.mono (Nat.le_refl _) (by have := HM.out; omega)))
      have HH2 := hid hh2
      clear hur2 hsw2 hh2 HC
      go_wp2
      exact ⟨⟨k, R2, rfl, by omega, HUR2.out, HSW2.out, HH2.out⟩, by simp [intOf]⟩
    | zero =>
      have hneg : ¬ (0 : Int) ≤ ((0 : Nat) : Int) - 1 := by omega
      have HS0 := hid (HS.start HH.out)
      go_wp2
      go_loopw [10] (fun iv wr => ∃ (k : Nat) (R1 : Nat → Int), iv = .int .i64 ((k : Int) - 1) ∧ k ≤ m ∧ UR w wr g N R1 ∧ Sw (off + a) (off + b) R R1 ∧ HS (vw R1 (off + a)) k m) (fun iv _ => (intOf iv + 1).toNat)
      case atStart => exact ⟨m, R1, rfl, Nat.le_refl _, HUR.out, HSW.out, HS0.out⟩
      case round =>
        clear HUR HSW HH HS0
        obtain ⟨k, R1, rfl, hk, hur, hsw, hh⟩ := hrel
        cases k with
        | succ k =>
          have ek : (((k + 1 : Nat) : Int) - 1) = (k : Int) := by omega
          rw [ek]
          have hcw : ∀ t, t < n → wr.cell? ⟨g, off + t, none⟩ = some (.int .u64 (R1 (off + t))) := fun t ht => hur.cell off t (by omega)
          have hfw : ∀ t, t < n → wr.frozen? ⟨g, off + t, none⟩ = false := fun t ht => hur.frozen _
          have HUR := hid hur
          have HSW := hid hsw
          have HH := hid (hh.swap (by omega))
          clear hur hsw hh
          go_wp2_with fail
          go_cut [10] (fun iv wx => iv = .int .i64 k ∧ UR w wx g N (swp R1 (off + a) (off + (a + k))))
          case first =>
            by_cases hk0 : k = 0
            · subst hk0
              go_region
              all_goals go_wp2
              all_goals go_meet
              case rel => exact ⟨rfl, (HUR.out.drewN 1).swap _ _⟩
            · go_region
              all_goals go_wp2
              all_goals go_meet
              case rel => exact ⟨rfl, (HUR.out.drewN 1).swap _ _⟩
          case rest =>
            obtain ⟨rfl, hur2⟩ := hcut
            clear hcw hfw HUR
            have ev : vw (swp R1 (off + a) (off + (a + k))) (off + a) = swp (vw R1 (off + a)) 0 k := by
              rw [← vw_swp, show off + a + 0 = off + a by omega, show off + a + k = off + (a + k) by omega]
            have HC := hid (sift wc g N off n cap 0 k a _ hur2.row hoN hN (by omega) (by omega) (by
              rw [ev]
              exact HH.out.1))
            have HUR := hid hur2
            have EV := hid ev
            clear hur2 ev
            go_wp2_with fail
            refine HC.out.mono ?_
            rintro e w2 ⟨rfl, R2, hur2, hsw2, hh2⟩
            have HUR2 := hid (HUR.out.trans hur2)
            have HSW2 := hid ((HSW.out.step (i := off + a) (j := off + (a + k)) (by omega) (by omega) (by omega) (by have := HM.out; omega)).trans (hsw2.mono (Nat.le_refl _) (by have := HM.out; omega)))
            have HH2 : Hid (HS (vw R2 (off + a)) k m) := by
              have e := EV.out
              exact HS.next (by rw [e]; exact HH.out.2.1) (by rw [e]; exact HH.out.2.2) hsw2 hh2
            clear hur2 hsw2 hh2 HC
            go_wp2
            exact ⟨⟨k, R2, rfl, by omega, HUR2.out, HSW2.out, HH2.out⟩, by simp [intOf]⟩
        | zero =>
          have HUR := hid hur
          have HSW := hid hsw
          have HH := hid hh
          clear hur hsw hh
          go_wp2
          go_end0
          refine ⟨rfl, R1, HUR.out, HSW.out, fun x y h1 h2 h3 => ?_⟩
          have := HM.out
          have := HH.out.srt (x - (off + a)) (y - (off + a)) (by omega) (by omega) (by omega)
          unfold vw at this
          rw [show off + a + (x - (off + a)) = x by omega, show off + a + (y - (off + a)) = y by omega] at this
          exact this

end Go.Proofs.Qxb6608903a.U
