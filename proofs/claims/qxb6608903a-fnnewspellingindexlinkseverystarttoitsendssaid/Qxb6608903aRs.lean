/-
  zzRankStart (24).
-/
import Derived.Test.Qxb6608903aRl
namespace Go.Proofs.Qxb6608903a.Ix
open Go.RowKit Mem Go.Sort Plain
open CmpW
open SortW hiding hid
set_option linter.unusedVariables false

theorem hidR {p : Prop} (h : p) : Hid p := h

/-- What the row of distinct starts says: start x is the label of node x + 1. -/
structure DL (T M : List (List Int)) (sn : Nat) (A L : Nat → Nat) : Prop where
  len : M.length = sn + 1
  a : ∀ x, x < sn → A x < T.length ∧ L x ≤ (tx T (A x)).length
  lab : ∀ x, x < sn → (tx T (A x)).take (L x) = M.getD (x + 1) []
  srt : M.Pairwise slex
  nil : M.getD 0 [] = []

set_option maxHeartbeats 4000000 in
theorem rank24 (w : World) (b cap sb sn scap : Nat) (T M : List (List Int)) (G C A L : Nat → Nat) (i l : Nat) (hi : i < T.length) (hl : l ≤ (tx T i).length) (hl0 : l ≠ 0) (p : Nat) (hp : p < sn) (hpl : M.getD (p + 1) [] = (tx T i).take l)
    (hlen : ∀ j, j < T.length → (tx T j).length ≤ 4194304) (hT : T.length ≤ 16777216) (hsn : sn ≤ 4194304) (h : TB w b T G C) (hs : PR w sb sn .i64 A (fun j => (L j : Nat))) (hD : DL T M sn A L) :
    Calls Try.prog 24 #[.slice (some ⟨b, 0, none⟩) T.length cap, .slice (some ⟨sb, 0, none⟩) sn scap, .int .i64 (i : Nat), .int .i64 (l : Nat)] w fun e w' => e = .returned (.int .i64 ((p + 1 : Nat) : Int)) ∧ ∃ q os, w' = grow (w.drewN q) os := by
  have hz : ((l : Int) == 0) = false := by simp; omega
  have hbe : Below w.heap.size w (w.alloc (.cells #[.int .i64 (i : Nat), .int .i64 (l : Nat)] 73)) := (Below.refl _ _).alloc (Nat.le_refl _) _
  have h2 := h.same hbe
  have hs2 := hs.same hbe
  have t0 : (w.alloc (.cells #[.int .i64 (i : Nat), .int .i64 (l : Nat)] 73)).cell? ⟨w.heap.size, 0, none⟩ = some (.int .i64 (i : Nat)) := World.cell?_alloc_mark w #[.int .i64 (i : Nat), .int .i64 (l : Nat)] 73 (0, 0) 0
  have t1 : (w.alloc (.cells #[.int .i64 (i : Nat), .int .i64 (l : Nat)] 73)).cell? ⟨w.heap.size, 1, none⟩ = some (.int .i64 (l : Nat)) := World.cell?_alloc_mark w #[.int .i64 (i : Nat), .int .i64 (l : Nat)] 73 (0, 0) 1
  have hgr : ∀ q os, ∃ q' os', grow ((w.alloc (.cells #[.int .i64 (i : Nat), .int .i64 (l : Nat)] 73)).drewN q) os = grow (w.drewN q') os' := fun q os => ⟨q, #[.cells #[.int .i64 (i : Nat), .int .i64 (l : Nat)] 73] ++ os, by
    rw [← grow_grow]; rfl⟩
  have HGR := hidR hgr
  generalize hW : w.alloc (.cells #[.int .i64 (i : Nat), .int .i64 (l : Nat)] 73) = W at *
  have HW := hidR hW
  have HC := hidR (fun x (hx : x < sn) wr (hb : Below W.heap.size W wr) n os => cmpStart (grow (wr.drewN n) os) b cap T G C (A x) i (L x) l (hD.a x hx).1 hi (hD.a x hx).2 hl hlen hT (h2.same (hb.trans ((grow_bel wr n os).mono hb.size))))
  have HPL := hidR (fun x (hx : x < sn) => (show cmpS ((tx T (A x)).take (L x)) ((tx T i).take l) < 0 ↔ x < p by
    rw [hD.lab x hx, ← hpl]
    have := cmpS_place hD.srt (i := x + 1) (p := p + 1) (by rw [hD.len]; omega) (by rw [hD.len]; omega)
    rw [this]; omega))
  have HS2 := hidR hs2
  have HT0 := hidR t0
  have HT1 := hidR t1
  have mixed : Try.prog.follows .mixedOrders = true := by kernel_rfl
  clear h hs h2 hs2 hbe hgr hD hpl hlen t0 t1 hW
  go_enter Try.func24, Try.ntmps24
  go_wp2_with fail
  rw [HW.out]
  go_loopw [10, 11] (fun lv hv wr => ∃ lo hi : Nat, lo ≤ p ∧ p ≤ hi ∧ hi ≤ sn ∧ lv = .int .i64 lo ∧ hv = .int .i64 hi ∧ Below W.heap.size W wr ∧ ∃ q os, wr = grow (w.drewN q) os) (fun lv hv _ => (intOf hv).toNat - (intOf lv).toNat)
  case atStart => exact ⟨0, sn, Nat.zero_le _, by omega, Nat.le_refl _, rfl, rfl, Below.refl _ _, by have h := HGR.out 0 #[]; rw [grow_empty] at h; exact h⟩
  case round =>
    obtain ⟨lo, hi', h1, h2, h3, rfl, rfl, hbel, hgw⟩ := hrel
    have HBEL := hidR hbel
    have HGW := hidR hgw
    by_cases hlt : lo < hi'
    · obtain ⟨md, hmd⟩ : ∃ md, md = lo + (hi' - lo) / 2 := ⟨_, rfl⟩
      have hm : md < sn := by omega
      have HMD := hidR hmd
      have em : (lo : Int) + ((hi' : Int) - (lo : Int)) / 2 = (md : Int) := by omega
      have HEM := hidR em
      clear hmd em hbel hgw
      go_upto_region 6 with fail
      go_cut [12] (fun v12 wx => v12 = .int .i64 (md : Nat) ∧ wx = wr)
      case first =>
        go_wp2
        go_meet
        case rel => exact ⟨by rw [← HEM.out], rfl⟩
      case rest =>
        obtain ⟨rfl, rfl⟩ := hcut
        have hbel := HBEL.out
        obtain ⟨s1, s2⟩ := HS2.out.same hbel _ hm
        dsimp only at s2
        have t0 : wc.cell? ⟨w.heap.size, 0, none⟩ = some (.int .i64 (i : Nat)) := by rw [hbel.cell (old_of HT0.out)]; exact HT0.out
        have t1 : wc.cell? ⟨w.heap.size, 1, none⟩ = some (.int .i64 (l : Nat)) := by rw [hbel.cell (old_of HT1.out)]; exact HT1.out
        have g1 : ∀ n os, (grow (wc.drewN n) os).cell? ⟨sb, md * 2, none⟩ = _ := fun n os => cell_grown (old_of s1) s1 n os
        have g2 : ∀ n os, (grow (wc.drewN n) os).cell? ⟨sb, md * 2 + 1, none⟩ = _ := fun n os => cell_grown (old_of s2) s2 n os
        have g5 : ∀ n os, (grow (wc.drewN n) os).cell? ⟨w.heap.size, 0, none⟩ = _ := fun n os => cell_grown (old_of t0) t0 n os
        have g6 : ∀ n os, (grow (wc.drewN n) os).cell? ⟨w.heap.size, 1, none⟩ = _ := fun n os => cell_grown (old_of t1) t1 n os
        have HCC := hidR (fun n os => HC.out _ hm wc hbel n os)
        have hpl := HPL.out _ hm
        generalize cmpS ((tx T (A md)).take (L md)) ((tx T i).take l) = r at *
        generalize A md = aa at *
        generalize L md = ll at *
        have q0 : (0 : Int) ≤ (md : Int) := Int.natCast_nonneg _
        have q1 : (md : Int) < (sn : Int) := by omega
        have HPX := hidR hpl
        clear s1 s2 t0 t1 hbel hpl HC HPL HS2 HT0 HT1 HEM
        have HR : Hid (lo ≤ p ∧ p ≤ hi' ∧ hi' ≤ sn ∧ lo < hi' ∧ md < sn ∧ sn ≤ 4194304) := ⟨h1, h2, h3, hlt, hm, hsn⟩
        clear hz hl hl0 hi hp h1 h2 h3 hlt hm hT
        by_cases hr : r < 0
        · have hmp := HPX.out.1 hr
          go_wp2
          go_quiet_grown ((go_at_call 29; exact Calls.grown_of (HCC.out _ _)))
          go_wp2
          obtain ⟨q', os', e'⟩ := HGW.out
          obtain ⟨h1, h2, h3, hlt, hm, hsn⟩ := HR.out
          refine ⟨⟨md + 1, hi', by omega, h2, h3, by go_num, rfl, HBEL.out.trans ((grow_bel wc nq osq).mono HBEL.out.size), q' + nq, os' ++ osq, ?_⟩, by have := HMD.out; simp only [intOf]; omega⟩
          rw [e']
          show grow (grow ((w.drewN q').drewN nq) os') osq = _
          rw [grow_grow, World.drewN_drewN]
        · have hmp : ¬ (md < p) := fun h => hr (HPX.out.2 h)
          go_wp2
          go_quiet_grown ((go_at_call 29; exact Calls.grown_of (HCC.out _ _)))
          go_wp2
          obtain ⟨q', os', e'⟩ := HGW.out
          obtain ⟨h1, h2, h3, hlt, hm, hsn⟩ := HR.out
          refine ⟨⟨lo, md, h1, by omega, by have := HMD.out; omega, rfl, by go_num, HBEL.out.trans ((grow_bel wc nq osq).mono HBEL.out.size), q' + nq, os' ++ osq, ?_⟩, by have := HMD.out; simp only [intOf]; omega⟩
          rw [e']
          show grow (grow ((w.drewN q').drewN nq) os') osq = _
          rw [grow_grow, World.drewN_drewN]
    · obtain rfl : lo = p := by omega
      clear hbel hgw
      go_wp2
      go_ret
      exact ⟨by simp, HGW.out⟩

theorem rank0 (w : World) (x y : Value) (i : Nat) :
    Calls Try.prog 24 #[x, y, .int .i64 (i : Nat), .int .i64 ((0 : Nat) : Int)] w fun e w' => e = .returned (.int .i64 0) ∧ ∃ q os, w' = grow (w.drewN q) os := by
  go_enter Try.func24, Try.ntmps24
  go_wp2
  go_ret
  exact ⟨rfl, 0, #[], by rw [grow_empty]; rfl⟩

theorem idxOf_at {M : List (List Int)} (h : M.Nodup) {i : Nat} (hi : i < M.length) : M.idxOf (M.getD i []) = i := by
  have h1 : M.idxOf (M.getD i []) < M.length := List.idxOf_lt_length_of_mem (getD_mem hi)
  refine getD_inj h h1 hi ?_
  rw [getD_eq h1, List.getElem_idxOf]

theorem slex_nodup {M : List (List Int)} (h : M.Pairwise slex) : M.Nodup := by
  rw [List.nodup_iff_pairwise_ne]
  refine h.imp ?_
  intro a b hab e
  subst e
  exact slex_irrefl a hab

/-- The rank of a start: the node that bears it. -/
theorem rankI (w : World) (b cap sb sn scap : Nat) (T M : List (List Int)) (G C A L : Nat → Nat) (i l : Nat) (hi : i < T.length) (hl : l ≤ (tx T i).length) (hm : (tx T i).take l ∈ M)
    (hlen : ∀ j, j < T.length → (tx T j).length ≤ 4194304) (hT : T.length ≤ 16777216) (hsn : sn ≤ 4194304) (h : TB w b T G C) (hs : PR w sb sn .i64 A (fun j => (L j : Nat))) (hD : DL T M sn A L) :
    Calls Try.prog 24 #[.slice (some ⟨b, 0, none⟩) T.length cap, .slice (some ⟨sb, 0, none⟩) sn scap, .int .i64 (i : Nat), .int .i64 (l : Nat)] w fun e w' => e = .returned (.int .i64 ((M.idxOf ((tx T i).take l) : Nat) : Int)) ∧ ∃ q os, w' = grow (w.drewN q) os := by
  have hnd := slex_nodup hD.srt
  by_cases hl0 : l = 0
  · subst hl0
    rw [List.take_zero]
    have h0 : M.idxOf ([] : List Int) = 0 := by
      have := idxOf_at hnd (i := 0) (by have := hD.len; omega)
      rw [hD.nil] at this
      exact this
    rw [h0]
    exact rank0 w _ _ i
  · obtain ⟨x, hx, ex⟩ := exists_getD hm
    have hx0 : x ≠ 0 := by
      rintro rfl
      rw [hD.nil] at ex
      have := congrArg List.length ex
      rw [List.length_take] at this
      simp at this
      omega
    obtain ⟨p, rfl⟩ : ∃ p, x = p + 1 := ⟨x - 1, by omega⟩
    have := rank24 w b cap sb sn scap T M G C A L i l hi hl hl0 p (by have := hD.len; omega) ex hlen hT hsn h hs hD
    rw [← ex, idxOf_at hnd hx]
    exact this

end Go.Proofs.Qxb6608903a.Ix
