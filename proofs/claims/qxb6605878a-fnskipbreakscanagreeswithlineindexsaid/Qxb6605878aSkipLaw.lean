/-
  The walk of FnSkipBreakScanAgreesWithLineIndex (5).
-/
import Derived.Test.Qxb6605878aBytes
namespace Go.Proofs.Qxb6605878a.Brk
open Go.RowKit Line Scan
set_option linter.unusedVariables false

/-- What the first loop has built, as the contracts want it. -/
theorem ints_of_owns {w : World} {base : Nat} {v : Value} {l : List Nat} (h : w.ownsRow base 3 1 v l.length (l.map fun j => Value.int .i64 (j : Nat))) :
    ∃ a cap, v = .slice a l.length cap ∧ IntsAt w a l.length (fun j => ((l.getD j 0 : Nat) : Int)) := by
  rcases h.2 with ⟨rfl, hl⟩ | ⟨g, cap, cur, rfl, hb, hg, hcap, hm, hcs, htk⟩
  · exact ⟨none, 0, by rw [hl], .inl hl⟩
  · refine ⟨_, cap, rfl, .inr ⟨g, 0, rfl, fun j hj => ?_⟩⟩
    have h1 : (cur.toList.take (l.length * 1))[j]? = (l.map fun j => Value.int .i64 (j : Nat))[j]? := by rw [htk]
    rw [List.getElem?_take_of_lt (by omega), Array.getElem?_toList, List.getElem?_map, List.getElem?_eq_getElem hj] at h1
    simp [World.cell?, hg, h1, List.getD_eq_getElem?_getD, hj]

theorem own_ge {w : World} {base e size : Nat} {v : Value} {n : Nat} {xs : List Value} (h : w.ownsRow base e size v n xs) : ∀ k, v.ownBlock = some k → base ≤ k := by
  intro k hk
  rcases h.2 with ⟨rfl, _⟩ | ⟨g, cap, cur, rfl, hb, _⟩
  · simp [Value.ownBlock] at hk
  · simp [Value.ownBlock] at hk
    omega

theorem place_yes {g : Nat → Int} {n k p : Nat} (hk : k < n) (h : g k = 10) (hp : Line.Place (F g n) (brk g n).length ((k : Int) + 1) p) : (p : Int) + 1 = (brk g k).length + 1 + 1 := by
  have h1 := place_cnt g n (k + 1) hk
  rw [cnt_yes g k h] at h1
  have := place_uniq hp h1
  omega

theorem place_no {g : Nat → Int} {n k p : Nat} (hk : k < n) (h : g k ≠ 10) (hp : Line.Place (F g n) (brk g n).length ((k : Int) + 1) p) : (p : Int) + 1 = (brk g k).length + 1 := by
  have h1 := place_cnt g n (k + 1) hk
  rw [cnt_no g k h] at h1
  have := place_uniq hp h1
  omega

theorem st_yes {g : Nat → Int} {n k : Nat} (hk : k < n) (h : g k = 10) : st (F g n) (brk g n).length (((brk g k).length : Int) + 1 + 1) = k + 1 := by
  have h1 := ls_yes g n k hk h
  unfold ls at h1
  rw [cnt_yes g k h] at h1
  exact h1

theorem scan_yes {w : World} {p : Nat} {d : Value} {g : Nat → Int} {n k : Nat} (hk : k < n) (h : g k = 10) (hs : ScanIs w p d ((k : Int) + 1) (((brk g k).length : Int) + 1 + 1) ((k : Int) + 1)) :
    ScanIs w p d ((k + 1 : Nat) : Int) (((brk g (k + 1)).length : Int) + 1) (ls g n (k + 1)) := by
  rw [ls_yes g n k hk h, cnt_yes g k h]; exact hs

theorem scan_no {w : World} {p : Nat} {d : Value} {g : Nat → Int} {n k : Nat} (h : g k ≠ 10) (hs : ScanIs w p d ((k : Int) + 1) (((brk g k).length : Int) + 1) (ls g n k)) :
    ScanIs w p d ((k + 1 : Nat) : Int) (((brk g (k + 1)).length : Int) + 1) (ls g n (k + 1)) := by
  rw [ls_no g n k h, cnt_no g k h]; exact hs

theorem dr_below (B : Nat) (w : World) (q : Nat) : Below B w (w.drewN q) := ⟨rfl, rfl, rfl, Nat.le_refl _, fun _ _ => rfl⟩

set_option maxHeartbeats 1000000 in
theorem law_any (a : Option Addr) (n cap : Nat) (g : Nat → Int) (w : World) (hn : n ≤ maxLen) (ha : a = none → n = 0) (hc : BytesAt w a n g) :
    Calls Try.prog 5 #[.slice a n cap] w fun e w' => e = .returned (.bool true) ∧ Below w.heap.size w w' := by
  have HC : Hid (BytesAt w a n g) := hc
  have HA : Hid (a = none → n = 0) := ha
  have hm := hn
  unfold maxLen at hm
  clear hc ha
  by_cases h1 : n ≤ 1048576
  · have h1' : (n : Int) ≤ 1048576 := by omega
    go_enter Try.func5, Try.ntmps5
    go_wp2_with fail
    refine (bytes16 a n cap _ hn).mono ?_
    rintro e w' ⟨rfl, rfl⟩
    rw [decide_eq_true h1]
    go_wp2_with fail
    refine (cloneB_all a n cap g _ h1 HA.out HC.out).mono ?_
    rintro e w1 ⟨a', cap', rfl, hc', hbel⟩
    clear HC HA
    rcases hc' with rfl | ⟨b, off, rfl, hc'⟩
    · go_wp2_with fail
      refine wp_loop_rounds 1 ?_
      rw [rounds_succ]
      go_wp2_with fail
      refine (new_any _ _ _ _ _ _ _).mono ?_
      rintro e w3 ⟨rfl, rfl⟩
      go_wp2_with fail
      refine wp_loop_rounds 1 ?_
      rw [rounds_succ]
      go_wp2
      go_ret
      exact ⟨rfl, hbel.alloc hbel.size _⟩
    · have HC : Hid (∀ j, j < n → w1.cell? ⟨b, off + j, none⟩ = some (.int .u8 (g j))) := hc'
      clear hc'
      go_wp2_with fail
      go_loopw [3, 4] (fun v i wr => ∃ k : Nat, k ≤ n ∧ i = .int .i64 k ∧ wr.ownsRow w1.heap.size 3 1 v (brk g k).length ((brk g k).map fun j => Value.int .i64 (j : Nat)) ∧ Below w1.heap.size w1 wr)
        (fun _ i _ => n - (intOf i).toNat)
      case atStart => exact ⟨0, Nat.zero_le _, rfl, World.ownsRow_nil _ _ _ _, Below.refl _ _⟩
      case round =>
        obtain ⟨k, hk, rfl, hown, hnx⟩ := hrel
        by_cases hlt : k < n
        · have hcell : wr.cell? ⟨b, off + k, none⟩ = some (.int .u8 (g k)) := by
            rw [hnx.cell (old_of (HC.out k hlt))]; exact HC.out k hlt
          by_cases hg : g k = 10
          · have hg' : (g k == 10) = true := by simpa using hg
            have HG : Hid (g k = 10) := hg
            clear hg
            have hbl := brk_len g k
            obtain ⟨i0, hi, hz0, hz1, hz2⟩ := info_parts info3
            go_wp2_with (first
              | (at_builtin; refine wpList_append_own _ rfl _ _ 22 rfl w1.heap.size 3 i0 (.int .i64 0) 1 8 Try.underlying22 hi hz0 hz1 hz2 rfl (by decide) _ _ _ rfl (hown.alloc _) ⟨wr.heap.size, 0, none⟩ 1 1 [.int .i64 k] rfl rfl ?c1 ?c2 ?c3 ?c4 ?c5 ?_))
            case c1 =>
              intro j u hj
              match j, hj with
              | 0, hj => simp at hj; subst hj; simp [Addr.add]
            case c2 => intro u hu; simp at hu; subst hu; rfl
            case c3 => unfold maxLen; omega
            case c4 => omega
            case c5 => have := hnx.size; simp; omega
            intro v' w2 hown' hgrow _
            clear hi hz0 hz1 hz2 hcell hg'
            go_wp2
            refine ⟨⟨k + 1, by omega, by go_num, ?_, (hnx.alloc hnx.size _).grown hgrow (by have := hnx.size; simp; omega) (own_ge hown)⟩, by simp [intOf]; omega⟩
            rw [cnt_yes g k HG.out, brk, if_pos HG.out, List.map_append]
            exact hown'
          · have hg' : (g k == 10) = false := by simpa using hg
            have HG : Hid (g k ≠ 10) := hg
            clear hg
            go_wp2
            refine ⟨⟨k + 1, by omega, by go_num, ?_, hnx⟩, by simp [intOf]; omega⟩
            rw [cnt_no g k HG.out]
            exact hown
        · obtain rfl : k = n := by omega
          obtain ⟨a2, cap2, hv, hints⟩ := ints_of_owns hown
          subst hv
          have hmn := brk_len g k
          have HI : Hid (IntsAt wr a2 (brk g k).length (F g k)) := hints
          clear hints hown
          have hlt' : (k : Int) ≤ k := Int.le_refl _
          go_wp2_with fail
          refine (new_any _ _ _ _ _ _ _).mono ?_
          rintro e w3 ⟨rfl, rfl⟩
          go_wp2_with fail
          obtain ⟨w2, hw2⟩ : ∃ w2 : World, w2 = wr := ⟨wr, rfl⟩
          subst hw2
          go_loopw [5, 6, 7] (fun sv sk i w4 => ∃ j p : Nat, j ≤ k ∧ i = .int .i64 j ∧ sk = .int .i64 (brk g j).length ∧ sv = .pointer (some ⟨p, 0, none⟩) ∧ w2.heap.size ≤ p ∧
              ScanIs w4 p (.slice (some ⟨b, off, none⟩) k cap') j ((brk g j).length + 1) (ls g k j) ∧ Below w2.heap.size w2 w4)
            (fun _ _ i _ => k - (intOf i).toNat)
          case atStart =>
            refine ⟨0, w2.heap.size, Nat.zero_le _, rfl, rfl, rfl, Nat.le_refl _, ?_, (Below.refl _ _).alloc (Nat.le_refl _) _⟩
            rw [ls_zero]
            exact scanIs_new _ _ _ _ _
          case round =>
            obtain ⟨j, p, hj, rfl, rfl, rfl, hp, hscan, hb2⟩ := hrel
            have hjl := brk_len g j
            by_cases hlt2 : j < k
            · have hcell : wr.cell? ⟨b, off + j, none⟩ = some (.int .u8 (g j)) := by
                have h2 := HC.out j hlt2
                have h3 : w2.cell? ⟨b, off + j, none⟩ = some (.int .u8 (g j)) := by rw [hnx.cell (old_of h2)]; exact h2
                rw [hb2.cell (old_of h3)]; exact h3
              have HS : Hid (ScanIs wr p (.slice (some ⟨b, off, none⟩) k cap') j ((brk g j).length + 1) (ls g k j)) := hscan
              clear hscan
              have hlsb := ls_bd g k j hj
              have hlsb' := ls_bd g k (j + 1) hlt2
              by_cases hg : g j = 10
              · have HG : Hid (g j = 10) := hg
                go_wp2_with fail
                refine (zzSkip_yes p b off k cap' j (brk g j).length (ls g k j) (g j) _ h1 hlt2 (by omega) HS.out hcell (by simpa using hg)).mono ?_
                rintro e w5 ⟨rfl, hs5, hb5⟩
                clear hg
                have HS5 : Hid (ScanIs w5 p (.slice (some ⟨b, off, none⟩) k cap') (j + 1) ((brk g j).length + 1 + 1) (j + 1)) := hs5
                clear hs5
                go_wp2_with fail
                refine (state_of p _ _ _ _ _ HS5.out).mono ?_
                rintro e w6 ⟨rfl, q, rfl⟩
                have hbf : Below w2.heap.size w2 (w5.drewN q) := (hb2.trans (hb5.mono hp)).trans (dr_below _ _ _)
                have hneq : ((j : Int) + 1 != (j : Int) + 1) = false := by simp
                have hneq2 : (((brk g j).length : Int) + 1 + 1 != ((brk g j).length : Int) + 1 + 1) = false := by simp
                go_wp2_with fail
                refine (zzLine_all a2 _ cap2 (F g k) _ _ (by omega) (HI.out.below hbf) (sorted_of (F_ok g k h1))).mono ?_
                rintro e w7 ⟨⟨p', rfl, hp'⟩, rfl⟩
                rw [place_yes hlt2 HG.out hp']
                clear hp'
                go_wp2_with fail
                refine (zzStart_all a2 _ cap2 (F g k) _ _ (by omega) (HI.out.below hbf) (top_of (F_ok g k h1) (F_bd g k h1)) (by omega) (by omega)).mono ?_
                rintro e w8 ⟨rfl, rfl⟩
                rw [st_yes hlt2 HG.out]
                go_wp2
                refine ⟨⟨j + 1, p, by omega, by go_num, by rw [cnt_yes g j HG.out]; go_num, rfl, hp, scan_yes hlt2 HG.out HS5.out, hbf⟩, by simp [intOf]; omega⟩
              · have HG : Hid (g j ≠ 10) := hg
                go_wp2_with fail
                refine (zzSkip_no p b off k cap' j _ (ls g k j) (g j) _ h1 hlt2 HS.out hcell (by simpa using hg)).mono ?_
                rintro e w5 ⟨rfl, q5, rfl⟩
                clear hg
                go_wp2_with fail
                refine (state_of p _ _ _ _ _ (by exact HS.out)).mono ?_
                rintro e w6 ⟨rfl, q6, rfl⟩
                go_wp2_with fail
                refine (new_any _ _ _ _ _ _ _).mono ?_
                rintro e w7 ⟨rfl, rfl⟩
                go_wp2_with fail
                have hs7 : ScanIs ((wr.drewN (q5 + q6)).alloc (.cells (scanCells (.slice (some ⟨b, off, none⟩) k cap') (j + 1) ((brk g j).length + 1) (ls g k j)) 62)) wr.heap.size (.slice (some ⟨b, off, none⟩) k cap') (j + 1) ((brk g j).length + 1) (ls g k j) := scanIs_new (wr.drewN (q5 + q6)) _ _ _ _
                have hb7 : Below w2.heap.size w2 ((wr.drewN (q5 + q6)).alloc (.cells (scanCells (.slice (some ⟨b, off, none⟩) k cap') (j + 1) ((brk g j).length + 1) (ls g k j)) 62)) := (hb2.trans (dr_below _ _ _)).alloc hb2.size _
                generalize (wr.drewN (q5 + q6)).alloc (.cells (scanCells (.slice (some ⟨b, off, none⟩) k cap') (j + 1) ((brk g j).length + 1) (ls g k j)) 62) = w7 at hs7 hb7 ⊢
                have HS7 : Hid (ScanIs w7 wr.heap.size (.slice (some ⟨b, off, none⟩) k cap') (j + 1) ((brk g j).length + 1) (ls g k j)) := hs7
                clear hs7
                refine (state_of _ _ _ _ _ _ HS7.out).mono ?_
                rintro e w8 ⟨rfl, q, rfl⟩
                have hbf : Below w2.heap.size w2 (w7.drewN q) := hb7.trans (dr_below _ _ _)
                have hneq : ((j : Int) + 1 != (j : Int) + 1) = false := by simp
                have hneq2 : (((brk g j).length : Int) + 1 != ((brk g j).length : Int) + 1) = false := by simp
                have hneq3 : (ls g k j != ls g k j) = false := by simp
                go_wp2_with fail
                refine (zzLine_all a2 _ cap2 (F g k) _ _ (by omega) (HI.out.below hbf) (sorted_of (F_ok g k h1))).mono ?_
                rintro e w7 ⟨⟨p', rfl, hp'⟩, rfl⟩
                rw [place_no hlt2 HG.out hp']
                clear hp'
                go_wp2_with fail
                refine (zzStart_all a2 _ cap2 (F g k) _ _ (by omega) (HI.out.below hbf) (top_of (F_ok g k h1) (F_bd g k h1)) (by omega) (by omega)).mono ?_
                rintro e w8 ⟨rfl, rfl⟩
                rw [show st (F g k) (brk g k).length (((brk g j).length : Int) + 1) = ls g k j from rfl]
                go_wp2
                refine ⟨⟨j + 1, wr.heap.size, by omega, by go_num, by rw [cnt_no g j HG.out], rfl, hb2.size, scan_no HG.out HS7.out, hbf⟩, by simp [intOf]; omega⟩
            · obtain rfl : j = k := by omega
              go_wp2
              go_ret
              exact ⟨ret_bool (by simp), (hbel.trans (hnx.mono hbel.size)).trans (hb2.mono (Nat.le_trans hbel.size hnx.size))⟩
  · go_enter Try.func5, Try.ntmps5
    go_wp2_with fail
    refine (bytes16 a n cap _ hn).mono ?_
    rintro e w' ⟨rfl, rfl⟩
    rw [decide_eq_false h1]
    go_wp2
    go_ret
    exact ⟨rfl, Below.refl _ _⟩

end Go.Proofs.Qxb6605878a.Brk
