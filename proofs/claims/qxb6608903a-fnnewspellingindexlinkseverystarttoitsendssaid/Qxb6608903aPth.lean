/-
  trie.path (27), ZZtriePath (12).
-/
import Derived.Test.Qxb6608903aTn
namespace Go.Proofs.Qxb6608903a.TrieW
open Go.RowKit Plain Mem
set_option linter.unusedVariables false

theorem grown_trans {w w1 w2 : World} {row : Option Nat} {g : Nat} (h1 : w.grownBy w1 row) (h2 : w1.grownBy w2 (some g)) (hg : row = some g ∨ w.heap.size ≤ g) : w.grownBy w2 row :=
  ⟨h2.os.trans h1.os, h2.tape.trans h1.tape, h2.output.trans h1.output, Nat.le_trans h1.size h2.size, fun k hk hne => by
    have hs := h1.size
    rw [h2.block k (by omega) ?_, h1.block k hk hne]
    intro e
    simp at e
    rcases hg with hg | hg
    · exact hne (by rw [e, hg])
    · omega⟩

theorem grown_alloc {w w1 : World} {row : Option Nat} (h : w.grownBy w1 row) (o : Obj) : w.grownBy (w1.alloc o) row :=
  ⟨h.os, h.tape, h.output, Nat.le_trans h.size (by simp), fun k hk hne => by
    have hs := h.size
    rw [Below.heap_alloc w1 o k (by omega)]
    exact h.block k hk hne⟩

theorem grown_drewN {w w1 : World} {row : Option Nat} (h : w.grownBy w1 row) (q : Nat) : w.grownBy (w1.drewN q) row := ⟨h.os, h.tape, h.output, h.size, h.block⟩

/-- The places of a text's starts. -/
def pthF (M : List (List Int)) (t : List Int) (b i : Nat) : Value := .int .i32 (M.idxOf (t.take b) : Nat)

/-- What a path leaves. -/
def Pathed (w : World) (base : Nat) (v : Value) (M : List (List Int)) (t : List Int) (e : Ending) (w' : World) : Prop :=
  ∃ g cap : Nat, e = .returned (.slice (some ⟨g, 0, none⟩) (t.length + 1) cap) ∧ OwnK w' 21 1 g cap (t.length + 1) (pthF M t) ∧ base ≤ g ∧ (v.ownBlock = some g ∨ w.heap.size ≤ g) ∧ w.grownBy w' v.ownBlock

theorem own_first_path {w : World} {base g cap : Nat} {M : List (List Int)} {t : List Int} (hM : M.getD 0 [] = []) (hn : M.Nodup) (hp : 0 < M.length)
    (h : w.ownsRow base 21 1 (.slice (some ⟨g, 0, none⟩) (0 + 1) cap) (0 + 1) ([] ++ [.int .i32 0])) : OwnK w 21 1 g cap (0 + 1) (pthF M t) ∧ base ≤ g := by
  refine own_of h fun c i hc hi => ?_
  obtain rfl : c = 0 := by omega
  obtain rfl : i = 0 := by omega
  have := ix_getD hn hp
  rw [hM] at this
  unfold pthF
  rw [List.take_zero, this]
  rfl

theorem own_next_path {w : World} {base g cap j : Nat} {M : List (List Int)} {t : List Int} {c : Nat} (hc : M.idxOf (t.take (j + 1)) = c)
    (h : w.ownsRow base 21 1 (.slice (some ⟨g, 0, none⟩) (j + 1 + 1) cap) (j + 1 + 1) (Mem.flatK 1 (pthF M t) (j + 1) ++ [.int .i32 (c : Nat)])) : OwnK w 21 1 g cap (j + 1 + 1) (pthF M t) ∧ base ≤ g := by
  refine own_snoc h (fun _ _ _ _ => rfl) (fun f hf => ?_)
  obtain rfl : f = 0 := by omega
  unfold pthF
  rw [hc]
  rfl

set_option maxHeartbeats 2000000 in
theorem path_any (w : World) (p gn cn : Nat) (S M : List (List Int)) (ta : Option Addr) (tcap : Nat) (t : List Int) (v : Value) (base : Nat) (hM : M.length ≤ 2097153) (ht : t.length ≤ 1048576) (hbf : BF S M M.length) (hpre : ∀ j, j ≤ t.length → t.take j ∈ M)
    (h : TrieAt w p gn cn S M) (hpv : some p ≠ v.ownBlock) (hgv : some gn ≠ v.ownBlock) (hbase : base ≤ w.heap.size) (hown : w.ownsRow base 21 1 v 0 [])
    (htx : t = [] ∨ ∃ b off, ta = some ⟨b, off, none⟩ ∧ some b ≠ v.ownBlock ∧ ∀ j, j < t.length → w.cell? ⟨b, off + j, none⟩ = some (.int .i32 (rn t j))) :
    Calls Try.prog 27 #[.pointer (some ⟨p, 0, none⟩), .slice ta t.length tcap, v] w fun e w' => Pathed w base v M t e w' := by
  have HT := hid h
  have HTX := hid htx
  have HPRE := hid hpre
  have HBF := hid hbf
  have HOWN := hid (World.ownsRow.alloc hown (.cells #[.int .i32 0] 21))
  have hpl := h.st.lt
  have hgl := h.nod.lt
  have HPV := hid hpv
  have HGV := hid hgv
  clear h htx hpre hbf hown hpv hgv
  obtain ⟨i2, hi2, hz0, hz1, hz2⟩ := info_parts info21
  go_enter Try.func27, Try.ntmps27
  go_wp2_with (at_builtin; refine wpList_append_lies _ rfl _ _ 24 rfl base 21 i2 _ 1 4 Try.underlying24 hi2 hz0 hz1 hz2 rfl (by decide) v 0 [] rfl HOWN.out ⟨w.heap.size, 0, none⟩ 1 1 [.int .i32 0] rfl rfl ?c1 ?c2 (by decide) ?c3 ?c4 ?c5 (w.heap.size + 1) ?c6 ?_)
  case c1 => exact World.news_of_block (Go.Deep.blk_alloc_new w _)
  case c2 => intro v hv; simp at hv; subst hv; rfl
  case c3 => unfold maxLen; omega
  case c4 => omega
  case c5 => simp; omega
  case c6 => simp
  intro g cp w1 hown1 hgrow hat hlt8
  obtain ⟨ho1, hbg⟩ := own_first_path (t := t) HBF.out.head HBF.out.nodup HBF.out.pos hown1
  have HO1 := hid ho1
  have hgat : v.ownBlock = some g ∨ w.heap.size ≤ g := by
    rcases hat with e | e
    · exact .inl e
    · exact .inr (by omega)
  have hgr1 : w.grownBy w1 v.ownBlock := ⟨hgrow.os, hgrow.tape, hgrow.output, by have := hgrow.size; simp at this; omega, fun k hk hne => by
    rw [hgrow.block k (by simp; omega) hne]
    exact Below.heap_alloc w _ k hk⟩
  have HGR1 := hid hgr1
  have HAT := hid hgat
  clear hown1 hgrow hat hlt8 ho1 hgr1 hgat hi2 hz0 hz1 hz2 HOWN
  go_wp2
  go_loopw [2, 7, 16] (fun pv nv jv wr => ∃ j g cp : Nat, j ≤ t.length ∧ jv = .int .i64 j ∧ nv = .int .i32 (M.idxOf (t.take j) : Nat) ∧ pv = .slice (some ⟨g, 0, none⟩) (j + 1) cp ∧ OwnK wr 21 1 g cp (j + 1) (pthF M t) ∧ base ≤ g ∧ (v.ownBlock = some g ∨ w.heap.size ≤ g) ∧ w.grownBy wr v.ownBlock)
    (fun _ _ jv _ => t.length - (intOf jv).toNat)
  case atStart =>
    refine ⟨0, g, cp, Nat.zero_le _, rfl, ?_, rfl, HO1.out, hbg, HAT.out, HGR1.out⟩
    have := ix_getD HBF.out.nodup HBF.out.pos
    rw [HBF.out.head] at this
    rw [List.take_zero, this]
    rfl
  case round =>
    obtain ⟨j, g', cp', hj, rfl, rfl, rfl, hown, hbg', hat', hgr⟩ := hrel
    clear HO1 HGR1 HAT
    have HAT := hid hat'
    have HGR := hid hgr
    have HO := hid hown
    clear hat' hgr hown
    by_cases hlt : j < t.length
    · rcases HTX.out with h0 | ⟨b, off, rfl, hbv, hcs⟩
      · subst h0; exact absurd hlt (by simp)
      · have hcell : wr.cell? ⟨b, off + j, none⟩ = some (.int .i32 (rn t j)) := far_cell (HGR.out.block b (old_of (hcs j hlt)) hbv) (hcs j hlt)
        have hm0 := HPRE.out j hj
        have hm1 := HPRE.out (j + 1) hlt
        have htk : t.take (j + 1) = t.take j ++ [rn t j] := take_snoc_getD hlt
        have HTW : Hid (TrieAt wr p gn cn S M) := HT.out.same (HGR.out.block p hpl HPV.out) (HGR.out.block gn hgl HGV.out)
        have HCH := hid (fun W (hW : TrieAt W p gn cn S M) => child_any W p gn cn S M (M.idxOf (t.take j)) (M.idxOf (t.take (j + 1))) (rn t j) (ix_lt hm0) (ix_lt hm1) hM HBF.out (by rw [getD_ix hm1, getD_ix hm0]; exact htk) hW)
        clear hcs
        generalize hx0 : M.idxOf (t.take j) = x0 at *
        generalize hx1 : M.idxOf (t.take (j + 1)) = x1 at *
        have HX1 := hid hx1
        clear hx0 hx1 hm0 hm1 htk
        go_wp2_with fail
        refine (HCH.out _ HTW.out).mono ?_
        rintro e w2 ⟨rfl, q, rfl⟩
        have HOWN2 := hid ((((HO.out.drewN q).alloc (.cells #[.int .i32 (x1 : Nat)] 21)).owns (by decide) hbg'))
        have hwrs := HGR.out.size
        obtain ⟨i2, hi2, hz0, hz1, hz2⟩ := info_parts info21
        go_wp2_with (at_builtin; refine wpList_append_lies _ rfl _ _ 24 rfl base 21 i2 _ 1 4 Try.underlying24 hi2 hz0 hz1 hz2 rfl (by decide) _ (j + 1) _ rfl HOWN2.out ⟨wr.heap.size, 0, none⟩ 1 1 [.int .i32 (x1 : Nat)] rfl rfl ?c1 ?c2 (by decide) ?c3 ?c4 ?c5 (wr.heap.size + 1) ?c6 ?_)
        case c1 => exact World.news_of_block (Go.Deep.blk_alloc_new (wr.drewN q) _)
        case c2 => intro v hv; simp at hv; subst hv; rfl
        case c3 => unfold maxLen; omega
        case c4 => omega
        case c5 => simp; omega
        case c6 => simp
        intro g2 cp2 w8 hown2 hgrow hat hlt8
        obtain ⟨ho2, hb2⟩ := own_next_path HX1.out hown2
        have HO2 := hid ho2
        have hgr2 : w.grownBy w8 v.ownBlock := grown_trans (g := g') (grown_alloc (grown_drewN HGR.out q) _) hgrow HAT.out
        have hat2 : v.ownBlock = some g2 ∨ w.heap.size ≤ g2 := by
          rcases hat with e | e
          · have : g2 = g' := by simp [Value.ownBlock] at e; omega
            rw [this]; exact HAT.out
          · exact .inr (by omega)
        have HGR2 := hid hgr2
        have HAT2 := hid hat2
        clear hown2 hgrow hat hlt8 ho2 hgr2 hat2 hi2 hz0 hz1 hz2 HOWN2
        go_wp2
        exact ⟨⟨j + 1, g2, cp2, by omega, by go_num, by rw [HX1.out], rfl, HO2.out, hb2, HAT2.out, HGR2.out⟩, by simp [intOf]; omega⟩
    · obtain rfl : j = t.length := by omega
      go_wp2
      go_ret
      exact ⟨g', cp', rfl, HO.out, hbg', HAT.out, HGR.out⟩

set_option maxHeartbeats 1000000 in
theorem zzPath (w : World) (p gn cn : Nat) (S M : List (List Int)) (ta : Option Addr) (tcap : Nat) (t : List Int) (hM : M.length ≤ 2097153) (ht : t.length ≤ 1048576) (hbf : BF S M M.length) (hpre : ∀ j, j ≤ t.length → t.take j ∈ M)
    (h : TrieAt w p gn cn S M) (htx : t = [] ∨ ∃ b off, ta = some ⟨b, off, none⟩ ∧ ∀ j, j < t.length → w.cell? ⟨b, off + j, none⟩ = some (.int .i32 (rn t j))) :
    Calls Try.prog 12 #[.pointer (some ⟨p, 0, none⟩), .slice ta t.length tcap] w fun e w' => Pathed w w.heap.size (.slice none 0 0) M t e w' := by
  have HC := hid (path_any w p gn cn S M ta tcap t (.slice none 0 0) w.heap.size hM ht hbf hpre h (by simp [Value.ownBlock]) (by simp [Value.ownBlock]) (Nat.le_refl _) (World.ownsRow_nil _ _ _ _)
    (by rcases htx with h0 | ⟨b, off, h1, h2⟩
        · exact .inl h0
        · exact .inr ⟨b, off, h1, by simp [Value.ownBlock], h2⟩))
  clear hbf hpre h htx
  go_enter Try.func12, Try.ntmps12
  go_wp2_with fail
  refine HC.out.mono ?_
  rintro e w1 ⟨g, cap, rfl, ho, hb, hat, hgr⟩
  have HO := hid ho
  have HAT := hid hat
  have HGR := hid hgr
  clear ho hat hgr
  go_wp2
  go_ret
  exact ⟨g, cap, rfl, HO.out, hb, HAT.out, HGR.out⟩

end Go.Proofs.Qxb6608903a.TrieW
