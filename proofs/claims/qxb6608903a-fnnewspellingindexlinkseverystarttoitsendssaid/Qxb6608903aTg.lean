/-
  The trie's methods at a trie that lies anywhere (a field of a struct too).
-/
import Derived.Test.Qxb6608903aPth
namespace Go.Proofs.Qxb6608903a.TrieG
open Go.RowKit Plain Mem
open TrieW hiding zzSize zzNode children_any child_any path_any
set_option linter.unusedVariables false

/-- A trie lies at offset o of block p. -/
structure TG (w : World) (p o gn cn : Nat) (S M : List (List Int)) : Prop where
  c0 : w.cell? ⟨p, o, none⟩ = some (.slice (some ⟨gn, 0, none⟩) M.length cn)
  nod : OwnK w 68 3 gn cn M.length (ndF S M M.length)

theorem TG.plt {w : World} {p o gn cn : Nat} {S M : List (List Int)} (h : TG w p o gn cn S M) : p < w.heap.size := old_of h.c0

theorem TG.same {w w' : World} {p o gn cn : Nat} {S M : List (List Int)} (h : TG w p o gn cn S M) (h1 : w'.heap[p]? = w.heap[p]?) (h2 : w'.heap[gn]? = w.heap[gn]?) : TG w' p o gn cn S M :=
  ⟨far_cell h1 h.c0, h.nod.of_block h2⟩

theorem TG.below {w w' : World} {p o gn cn : Nat} {S M : List (List Int)} (h : TG w p o gn cn S M) {B : Nat} (hb : Below B w w') (hp : p < B) (hg : gn < B) : TG w' p o gn cn S M := h.same (hb.block _ hp) (hb.block _ hg)

theorem TG.drewN {w : World} {p o gn cn : Nat} {S M : List (List Int)} (h : TG w p o gn cn S M) (q : Nat) : TG (w.drewN q) p o gn cn S M := ⟨h.c0, h.nod⟩

theorem TG.chr {w : World} {p o gn cn : Nat} {S M : List (List Int)} (h : TG w p o gn cn S M) {j : Nat} (hj : j < M.length) : w.cell? ⟨gn, j * 3, none⟩ = some (.int .i32 (lastC (M.getD j []))) := h.nod.cell (i := 0) hj (by decide)
theorem TG.fir {w : World} {p o gn cn : Nat} {S M : List (List Int)} (h : TG w p o gn cn S M) {j : Nat} (hj : j < M.length) : w.cell? ⟨gn, j * 3 + 1, none⟩ = some (.int .i32 (fst S M j : Nat)) := by
  have := h.nod.cell (i := 1) hj (by decide)
  unfold ndF at this
  simpa [hj] using this
theorem TG.cou {w : World} {p o gn cn : Nat} {S M : List (List Int)} (h : TG w p o gn cn S M) {j : Nat} (hj : j < M.length) : w.cell? ⟨gn, j * 3 + 2, none⟩ = some (.int .i32 (cnt S (M.getD j []) : Nat)) := by
  have := h.nod.cell (i := 2) hj (by decide)
  unfold ndF at this
  simpa [hj] using this

set_option maxHeartbeats 400000 in
theorem zzSize (w : World) (p o gn cn : Nat) (S M : List (List Int)) (h : TG w p o gn cn S M) : Calls Try.prog 9 #[.pointer (some ⟨p, o, none⟩)] w fun e w' => e = .returned (.int .i64 (M.length : Nat)) ∧ w' = w := by
  have h0 := h.c0
  clear h
  go_enter Try.func9, Try.ntmps9
  go_wp2
  go_ret
  exact ⟨rfl, rfl⟩

set_option maxHeartbeats 1000000 in
theorem zzNode (w : World) (p o gn cn : Nat) (S M : List (List Int)) (j : Nat) (hj : j < M.length) (hM : M.length ≤ 2097153) (h : TG w p o gn cn S M) :
    Calls Try.prog 11 #[.pointer (some ⟨p, o, none⟩), .int .i64 (j : Nat)] w fun e w' => e = .returned (.tuple #[.int .i32 (lastC (M.getD j [])), .int .i32 (fst S M j : Nat), .int .i32 (cnt S (M.getD j []) : Nat)]) ∧ ∃ q, w' = w.drewN q := by
  have h0 := h.c0
  have h1 := h.chr hj
  have h2 := h.fir hj
  have h3 := h.cou hj
  clear h
  generalize lastC (M.getD j []) = a at *
  generalize fst S M j = b at *
  generalize cnt S (M.getD j []) = c at *
  have hj1 : (0 : Int) ≤ (j : Int) := Int.natCast_nonneg _
  have hj2 : (j : Int) < (M.length : Int) := by omega
  go_enter Try.func11, Try.ntmps11
  go_wp2
  go_quiet (fail)
  go_wp2
  go_ret3
  exact ⟨rfl, _, rfl⟩

set_option maxHeartbeats 1000000 in
theorem children_any (w : World) (p o gn cn : Nat) (S M : List (List Int)) (j : Nat) (hj : j < M.length) (hM : M.length ≤ 2097153) (hsum : fst S M j + cnt S (M.getD j []) ≤ M.length) (h : TG w p o gn cn S M) :
    Calls Try.prog 43 #[.pointer (some ⟨p, o, none⟩), .int .i32 (j : Nat)] w fun e w' => e = .returned (.tuple #[.int .i32 (fst S M j : Nat), .int .i32 ((fst S M j + cnt S (M.getD j []) : Nat) : Int)]) ∧ ∃ q, w' = w.drewN q := by
  have h0 := h.c0
  have h2 := h.fir hj
  have h3 := h.cou hj
  clear h
  generalize fst S M j = b at *
  generalize cnt S (M.getD j []) = c at *
  have hj1 : (0 : Int) ≤ (j : Int) := Int.natCast_nonneg _
  have hj2 : (j : Int) < (M.length : Int) := by omega
  go_enter Try.func43, Try.ntmps43
  go_wp2
  go_quiet (fail)
  go_wp2
  go_ret2
  exact ⟨by simp, _, rfl⟩

set_option maxHeartbeats 1000000 in
theorem child_any (w : World) (p o gn cn : Nat) (S M : List (List Int)) (j c : Nat) (r : Int) (hj : j < M.length) (hc : c < M.length) (hM : M.length ≤ 2097153) (hbf : BF S M M.length) (e : M.getD c [] = M.getD j [] ++ [r]) (h : TG w p o gn cn S M) :
    Calls Try.prog 34 #[.pointer (some ⟨p, o, none⟩), .int .i32 (j : Nat), .int .i32 r] w fun e w' => e = .returned (.int .i32 (c : Nat)) ∧ ∃ q, w' = w.drewN q := by
  obtain ⟨q0, hq0, hcq⟩ := hbf.kid_place hj hc e
  have htop := hbf.top hj
  have hch : lastC (M.getD c []) = r := by rw [e, lastC_snoc]
  have HMONO : Hid (∀ q q', q < q' → q' < cnt S (M.getD j []) → lastC (M.getD (fst S M j + q) []) < lastC (M.getD (fst S M j + q') [])) := fun q q' h1 h2 => hbf.mono hj h1 h2
  have HCH : Hid (lastC (M.getD c []) = r) := hch
  have HT := hid h
  have HCON := hid (fun W (hW : TG W p o gn cn S M) => children_any W p o gn cn S M j hj hM htop hW)
  have hjn : ((j : Int) == -1) = false := by simp
  generalize hF : fst S M j = F at *
  generalize hC : cnt S (M.getD j []) = C at *
  have HCQ := hid hcq
  have hcl : F ≤ c := by omega
  have hcu : c < F + C := by omega
  clear hbf e hch h hF hC hcq
  go_enter Try.func34, Try.ntmps34
  go_wp2_with fail
  refine (HCON.out _ HT.out).mono ?_
  rintro e w1 ⟨rfl, q1, rfl⟩
  clear HCON
  go_wp2
  go_loop [9, 10] (fun lo hi => ∃ a b : Nat, F ≤ a ∧ a ≤ c ∧ c ≤ b ∧ b ≤ F + C ∧ lo = .int .i32 a ∧ hi = .int .i32 b) (fun lo hi => (intOf hi).toNat - (intOf lo).toNat)
  case atStart => exact ⟨F, F + C, Nat.le_refl _, by omega, by omega, Nat.le_refl _, rfl, by go_num⟩
  case round =>
    obtain ⟨a, b, h1, h2, h3, h4, rfl, rfl⟩ := hrel
    have h0 : w.cell? ⟨p, o, none⟩ = some (.slice (some ⟨gn, 0, none⟩) M.length cn) := HT.out.c0
    by_cases hlt : a < b
    · have hm : a + (b - a) / 2 < M.length := by omega
      have hcell : w.cell? ⟨gn, (a + (b - a) / 2) * 3, none⟩ = some (.int .i32 (lastC (M.getD (a + (b - a) / 2) []))) := HT.out.chr hm
      by_cases hmc : a + (b - a) / 2 < c
      · have hl : lastC (M.getD (a + (b - a) / 2) []) < r := by
          have hcq := HCQ.out
          have := HMONO.out (a + (b - a) / 2 - F) q0 (by omega) hq0
          rw [show F + (a + (b - a) / 2 - F) = a + (b - a) / 2 from by omega, ← hcq, HCH.out] at this
          exact this
        generalize lastC (M.getD (a + (b - a) / 2) []) = ch at *
        go_wp2
        exact ⟨⟨a + (b - a) / 2 + 1, b, by omega, by omega, h3, h4, by go_num, rfl⟩, by simp only [intOf]; omega⟩
      · have hl : r ≤ lastC (M.getD (a + (b - a) / 2) []) := by
          by_cases he : a + (b - a) / 2 = c
          · rw [he, HCH.out]; exact Int.le_refl _
          · have hcq := HCQ.out
            have := HMONO.out q0 (a + (b - a) / 2 - F) (by omega) (by omega)
            rw [show F + (a + (b - a) / 2 - F) = a + (b - a) / 2 from by omega, ← hcq, HCH.out] at this
            omega
        generalize lastC (M.getD (a + (b - a) / 2) []) = ch at *
        go_wp2
        exact ⟨⟨a, a + (b - a) / 2, h1, h2, by omega, by omega, rfl, by go_num⟩, by simp only [intOf]; omega⟩
    · obtain rfl : a = c := by omega
      have hcell : w.cell? ⟨gn, a * 3, none⟩ = some (.int .i32 (lastC (M.getD a []))) := HT.out.chr hc
      rw [HCH.out] at hcell
      have hrr : (r == r) = true := by simp
      have hlast : (a : Int) < (F : Int) + (C : Int) := by omega
      go_wp2
      go_ret
      exact ⟨rfl, _, rfl⟩

set_option maxHeartbeats 2000000 in
theorem path_any (w : World) (p o gn cn : Nat) (S M : List (List Int)) (ta : Option Addr) (tcap : Nat) (t : List Int) (v : Value) (base : Nat) (hM : M.length ≤ 2097153) (ht : t.length ≤ 1048576) (hbf : BF S M M.length) (hpre : ∀ j, j ≤ t.length → t.take j ∈ M)
    (h : TG w p o gn cn S M) (hpv : some p ≠ v.ownBlock) (hgv : some gn ≠ v.ownBlock) (hbase : base ≤ w.heap.size) (hown : w.ownsRow base 21 1 v 0 [])
    (htx : t = [] ∨ ∃ b off, ta = some ⟨b, off, none⟩ ∧ some b ≠ v.ownBlock ∧ ∀ j, j < t.length → w.cell? ⟨b, off + j, none⟩ = some (.int .i32 (rn t j))) :
    Calls Try.prog 27 #[.pointer (some ⟨p, o, none⟩), .slice ta t.length tcap, v] w fun e w' => Pathed w base v M t e w' := by
  have HT := hid h
  have HTX := hid htx
  have HPRE := hid hpre
  have HBF := hid hbf
  have HOWN := hid (World.ownsRow.alloc hown (.cells #[.int .i32 0] 21))
  have hpl := h.plt
  have hgl := h.nod.lt
  have HPV := hid hpv
  have HGV := hid hgv
  clear h htx hpre hbf hown hpv hgv
  obtain ⟨i2, hi2, hz0, hz1, hz2⟩ := info_parts info21
  go_enter Try.func27, Try.ntmps27
  go_wp2_with (at_builtin; refine wpList_append_lies _ rfl _ _ 24 rfl base 21 i2 _ 1 4 Try.underlying24 hi2 hz0 hz1 hz2 rfl (by decide) v 0 [] rfl HOWN.out ⟨w.heap.size, 0, none⟩ 1 1 [.int .i32 0] rfl rfl ?c1 ?c2 (by decide) ?c3 ?c4 ?c5 (w.heap.size + 1) ?c6 ?_)
  case c1 => exact World.news_of_block (Go.Deep.blk_alloc_new w _)
  case c2 => intro v hv; simp at hv; subst hv; rfl
  case c3 => unfold maxLen; omega
  case c4 => omega
  case c5 => simp; omega
  case c6 => simp
  intro g cp w1 hown1 hgrow hat hlt8
  obtain ⟨ho1, hbg⟩ := own_first_path (t := t) HBF.out.head HBF.out.nodup HBF.out.pos hown1
  have HO1 := hid ho1
  have hgat : v.ownBlock = some g ∨ w.heap.size ≤ g := by
    rcases hat with e | e
    · exact .inl e
    · exact .inr (by omega)
  have hgr1 : w.grownBy w1 v.ownBlock := ⟨hgrow.os, hgrow.tape, hgrow.output, by have := hgrow.size; simp at this; omega, fun k hk hne => by
    rw [hgrow.block k (by simp; omega) hne]
    exact Below.heap_alloc w _ k hk⟩
  have HGR1 := hid hgr1
  have HAT := hid hgat
  clear hown1 hgrow hat hlt8 ho1 hgr1 hgat hi2 hz0 hz1 hz2 HOWN
  go_wp2
  go_loopw [2, 7, 16] (fun pv nv jv wr => ∃ j g cp : Nat, j ≤ t.length ∧ jv = .int .i64 j ∧ nv = .int .i32 (M.idxOf (t.take j) : Nat) ∧ pv = .slice (some ⟨g, 0, none⟩) (j + 1) cp ∧ OwnK wr 21 1 g cp (j + 1) (pthF M t) ∧ base ≤ g ∧ (v.ownBlock = some g ∨ w.heap.size ≤ g) ∧ w.grownBy wr v.ownBlock)
    (fun _ _ jv _ => t.length - (intOf jv).toNat)
  case atStart =>
    refine ⟨0, g, cp, Nat.zero_le _, rfl, ?_, rfl, HO1.out, hbg, HAT.out, HGR1.out⟩
    have := ix_getD HBF.out.nodup HBF.out.pos
    rw [HBF.out.head] at this
    rw [List.take_zero, this]
    rfl
  case round =>
    obtain ⟨j, g', cp', hj, rfl, rfl, rfl, hown, hbg', hat', hgr⟩ := hrel
    clear HO1 HGR1 HAT
    have HAT := hid hat'
    have HGR := hid hgr
    have HO := hid hown
    clear hat' hgr hown
    by_cases hlt : j < t.length
    · rcases HTX.out with h0 | ⟨b, off, rfl, hbv, hcs⟩
      · subst h0; exact absurd hlt (by simp)
      · have hcell : wr.cell? ⟨b, off + j, none⟩ = some (.int .i32 (rn t j)) := far_cell (HGR.out.block b (old_of (hcs j hlt)) hbv) (hcs j hlt)
        have hm0 := HPRE.out j hj
        have hm1 := HPRE.out (j + 1) hlt
        have htk : t.take (j + 1) = t.take j ++ [rn t j] := take_snoc_getD hlt
        have HTW : Hid (TG wr p o gn cn S M) := HT.out.same (HGR.out.block p hpl HPV.out) (HGR.out.block gn hgl HGV.out)
        have HCH := hid (fun W (hW : TG W p o gn cn S M) => child_any W p o gn cn S M (M.idxOf (t.take j)) (M.idxOf (t.take (j + 1))) (rn t j) (ix_lt hm0) (ix_lt hm1) hM HBF.out (by rw [getD_ix hm1, getD_ix hm0]; exact htk) hW)
        clear hcs
        generalize hx0 : M.idxOf (t.take j) = x0 at *
        generalize hx1 : M.idxOf (t.take (j + 1)) = x1 at *
        have HX1 := hid hx1
        clear hx0 hx1 hm0 hm1 htk
        go_wp2_with fail
        refine (HCH.out _ HTW.out).mono ?_
        rintro e w2 ⟨rfl, q, rfl⟩
        have HOWN2 := hid ((((HO.out.drewN q).alloc (.cells #[.int .i32 (x1 : Nat)] 21)).owns (by decide) hbg'))
        have hwrs := HGR.out.size
        obtain ⟨i2, hi2, hz0, hz1, hz2⟩ := info_parts info21
        go_wp2_with (at_builtin; refine wpList_append_lies _ rfl _ _ 24 rfl base 21 i2 _ 1 4 Try.underlying24 hi2 hz0 hz1 hz2 rfl (by decide) _ (j + 1) _ rfl HOWN2.out ⟨wr.heap.size, 0, none⟩ 1 1 [.int .i32 (x1 : Nat)] rfl rfl ?c1 ?c2 (by decide) ?c3 ?c4 ?c5 (wr.heap.size + 1) ?c6 ?_)
        case c1 => exact World.news_of_block (Go.Deep.blk_alloc_new (wr.drewN q) _)
        case c2 => intro v hv; simp at hv; subst hv; rfl
        case c3 => unfold maxLen; omega
        case c4 => omega
        case c5 => simp; omega
        case c6 => simp
        intro g2 cp2 w8 hown2 hgrow hat hlt8
        obtain ⟨ho2, hb2⟩ := own_next_path HX1.out hown2
        have HO2 := hid ho2
        have hgr2 : w.grownBy w8 v.ownBlock := grown_trans (g := g') (grown_alloc (grown_drewN HGR.out q) _) hgrow HAT.out
        have hat2 : v.ownBlock = some g2 ∨ w.heap.size ≤ g2 := by
          rcases hat with e | e
          · have : g2 = g' := by simp [Value.ownBlock] at e; omega
            rw [this]; exact HAT.out
          · exact .inr (by omega)
        have HGR2 := hid hgr2
        have HAT2 := hid hat2
        clear hown2 hgrow hat hlt8 ho2 hgr2 hat2 hi2 hz0 hz1 hz2 HOWN2
        go_wp2
        exact ⟨⟨j + 1, g2, cp2, by omega, by go_num, by rw [HX1.out], rfl, HO2.out, hb2, HAT2.out, HGR2.out⟩, by simp [intOf]; omega⟩
    · obtain rfl : j = t.length := by omega
      go_wp2
      go_ret
      exact ⟨g', cp', rfl, HO.out, hbg', HAT.out, HGR.out⟩

end Go.Proofs.Qxb6608903a.TrieG
