/-
  The contracts of the nest scan: ZZnewNestScan (18), ZZnestState (20), done (36), breakLen (33), skipBreak (29), ZZnestSkipBreak (19).
-/
import Derived.Test.Qxb6605878aPlain
namespace Go.Proofs.Qxb6605878a.Scan
open Go.RowKit
set_option linter.unusedVariables false

/-- The cells of a scan. -/
def scanCells (d : Value) (i l s : Int) : Array Value := #[d, .int .i64 i, .int .i64 l, .int .i64 s, .nilFunc, .int .i64 0, .int .i64 0]

set_option maxHeartbeats 400000 in
theorem new_any (a : Option Addr) (n cap : Nat) (i l s : Int) (w : World) :
    Calls Try.prog 18 #[.slice a n cap, .int .i64 i, .int .i64 l, .int .i64 s] w fun e w' =>
      e = .returned (.pointer (some ⟨w.heap.size, 0, none⟩)) ∧ w' = w.alloc (.cells (scanCells (.slice a n cap) i l s) 62) := by
  go_enter Try.func18, Try.ntmps18
  go_wp2
  go_ret
  exact ⟨rfl, rfl⟩

set_option maxHeartbeats 400000 in
theorem state_any (p : Nat) (i l s : Int) (w : World) (h1 : w.cell? ⟨p, 1, none⟩ = some (.int .i64 i)) (h2 : w.cell? ⟨p, 2, none⟩ = some (.int .i64 l)) (h3 : w.cell? ⟨p, 3, none⟩ = some (.int .i64 s)) :
    Calls Try.prog 20 #[.pointer (some ⟨p, 0, none⟩)] w fun e w' =>
      e = .returned (.tuple #[.int .i64 i, .int .i64 l, .int .i64 s]) ∧ ∃ q, w' = w.drewN q := by
  go_enter Try.func20, Try.ntmps20
  go_wp2
  go_quiet (fail)
  go_wp2
  go_ret3
  exact ⟨rfl, _, rfl⟩

theorem ret_bool {a b : Bool} (h : a = b) : Ending.returned (.bool a) = .returned (.bool b) := by rw [h]

set_option maxHeartbeats 400000 in
theorem done_any (p b off n cap i : Nat) (w : World) (hn : n ≤ 1048576) (hi : i < n) (h0 : w.cell? ⟨p, 0, none⟩ = some (.slice (some ⟨b, off, none⟩) n cap)) (h1 : w.cell? ⟨p, 1, none⟩ = some (.int .i64 i)) :
    Calls Try.prog 36 #[.pointer (some ⟨p, 0, none⟩)] w fun e w' => e = .returned (.bool false) ∧ ∃ q, w' = w.drewN q := by
  go_enter Try.func36, Try.ntmps36
  go_wp2
  go_quiet (fail)
  go_wp2
  go_ret
  exact ⟨ret_bool (decide_eq_false (by omega)), _, rfl⟩

theorem neq_nil (w : World) : (binOp .neq 60 .nilFunc .nilFunc).run Try.prog w = .ok (.bool false) w := by rfl

set_option maxHeartbeats 400000 in
theorem breakLen_any (p b off n cap i : Nat) (x : Int) (w : World) (hn : n ≤ 1048576) (hi : i < n) (h0 : w.cell? ⟨p, 0, none⟩ = some (.slice (some ⟨b, off, none⟩) n cap)) (h1 : w.cell? ⟨p, 1, none⟩ = some (.int .i64 i))
    (h4 : w.cell? ⟨p, 4, none⟩ = some .nilFunc) (hx : w.cell? ⟨b, off + i, none⟩ = some (.int .u8 x)) (r : Bool) (hr : (x == 10) = r) :
    Calls Try.prog 33 #[.pointer (some ⟨p, 0, none⟩)] w fun e w' => e = .returned (.int .i64 (if r then 1 else 0)) ∧ ∃ q, w' = w.drewN q := by
  have hnn := neq_nil
  cases r with
  | false =>
    go_enter Try.func33, Try.ntmps33
    go_wp2_with (go_at_call 36; refine (done_any p b off n cap i _ hn hi (by simpa using h0) (by simpa using h1)).mono ?_; rintro e w' ⟨rfl, q, rfl⟩)
    go_quiet (fail)
    go_wp2
    go_ret
    exact ⟨rfl, _, rfl⟩
  | true =>
    go_enter Try.func33, Try.ntmps33
    go_wp2_with (go_at_call 36; refine (done_any p b off n cap i _ hn hi (by simpa using h0) (by simpa using h1)).mono ?_; rintro e w' ⟨rfl, q, rfl⟩)
    go_quiet (fail)
    go_wp2
    go_ret
    exact ⟨rfl, _, rfl⟩

set_option maxHeartbeats 400000 in
theorem skip_no (p b off n cap i : Nat) (x : Int) (w : World) (hn : n ≤ 1048576) (hi : i < n) (h0 : w.cell? ⟨p, 0, none⟩ = some (.slice (some ⟨b, off, none⟩) n cap)) (h1 : w.cell? ⟨p, 1, none⟩ = some (.int .i64 i))
    (h4 : w.cell? ⟨p, 4, none⟩ = some .nilFunc) (hx : w.cell? ⟨b, off + i, none⟩ = some (.int .u8 x)) (hr : (x == 10) = false) :
    Calls Try.prog 29 #[.pointer (some ⟨p, 0, none⟩)] w fun e w' => e = .returned (.bool false) ∧ ∃ q, w' = w.drewN q := by
  go_enter Try.func29, Try.ntmps29
  go_wp2_with (go_at_call 33; refine (breakLen_any p b off n cap i x _ hn hi (by simpa using h0) (by simpa using h1) (by simpa using h4) (by simpa using hx) false hr).mono ?_; rintro e w' ⟨rfl, q, rfl⟩)
  go_ret
  exact ⟨rfl, _, rfl⟩

set_option maxHeartbeats 400000 in
theorem skip_yes (p b off n cap i : Nat) (x : Int) (l : Nat) (s : Value) (w : World) (hn : n ≤ 1048576) (hi : i < n) (hl : l ≤ 1048576) (h0 : w.cell? ⟨p, 0, none⟩ = some (.slice (some ⟨b, off, none⟩) n cap)) (h1 : w.cell? ⟨p, 1, none⟩ = some (.int .i64 i))
    (h2 : w.cell? ⟨p, 2, none⟩ = some (.int .i64 (l + 1))) (h3 : w.cell? ⟨p, 3, none⟩ = some s)
    (hf1 : w.frozen? ⟨p, 1, none⟩ = false) (hf2 : w.frozen? ⟨p, 2, none⟩ = false) (hf3 : w.frozen? ⟨p, 3, none⟩ = false)
    (h4 : w.cell? ⟨p, 4, none⟩ = some .nilFunc) (hx : w.cell? ⟨b, off + i, none⟩ = some (.int .u8 x)) (hr : (x == 10) = true) :
    Calls Try.prog 29 #[.pointer (some ⟨p, 0, none⟩)] w fun e w' => e = .returned (.bool true) ∧ ∃ q, w' = (((w.drewN q).setCell ⟨p, 1, none⟩ (.int .i64 (i + 1))).setCell ⟨p, 2, none⟩ (.int .i64 (l + 1 + 1))).setCell ⟨p, 3, none⟩ (.int .i64 (i + 1)) := by
  go_enter Try.func29, Try.ntmps29
  go_wp2_with (go_at_call 33; refine (breakLen_any p b off n cap i x _ hn hi (by simpa using h0) (by simpa using h1) (by simpa using h4) (by simpa using hx) true hr).mono ?_; rintro e w' ⟨rfl, q, rfl⟩)
  go_ret
  exact ⟨rfl, _, rfl⟩

/-- A scan lies at block p. -/
def ScanIs (w : World) (p : Nat) (d : Value) (i l s : Int) : Prop := w.rowIs p 62 7 (fun j => (scanCells d i l s).getD j .nilFunc)

theorem scanIs_new (w : World) (d : Value) (i l s : Int) : ScanIs (w.alloc (.cells (scanCells d i l s) 62)) w.heap.size d i l s :=
  World.rowIs_alloc w (scanCells d i l s) 62 _ (fun j hj => by
    have : j < 7 := hj
    rw [Array.getD_eq_getD_getElem?, Array.getElem?_eq_getElem hj]; rfl)

theorem ScanIs.c0 {w : World} {p : Nat} {d : Value} {i l s : Int} (h : ScanIs w p d i l s) : w.cell? ⟨p, 0, none⟩ = some d := World.rowIs.cell h (by decide)
theorem ScanIs.c1 {w : World} {p : Nat} {d : Value} {i l s : Int} (h : ScanIs w p d i l s) : w.cell? ⟨p, 1, none⟩ = some (.int .i64 i) := World.rowIs.cell h (by decide)
theorem ScanIs.c2 {w : World} {p : Nat} {d : Value} {i l s : Int} (h : ScanIs w p d i l s) : w.cell? ⟨p, 2, none⟩ = some (.int .i64 l) := World.rowIs.cell h (by decide)
theorem ScanIs.c3 {w : World} {p : Nat} {d : Value} {i l s : Int} (h : ScanIs w p d i l s) : w.cell? ⟨p, 3, none⟩ = some (.int .i64 s) := World.rowIs.cell h (by decide)
theorem ScanIs.c4 {w : World} {p : Nat} {d : Value} {i l s : Int} (h : ScanIs w p d i l s) : w.cell? ⟨p, 4, none⟩ = some .nilFunc := World.rowIs.cell h (by decide)

theorem ScanIs.moved {w : World} {p : Nat} {d : Value} {i l s : Int} (h : ScanIs w p d i l s) (i' l' s' : Int) :
    ScanIs (((w.setCell ⟨p, 1, none⟩ (.int .i64 i')).setCell ⟨p, 2, none⟩ (.int .i64 l')).setCell ⟨p, 3, none⟩ (.int .i64 s')) p d i' l' s' := by
  refine (((World.rowIs.set h 1 (.int .i64 i')).set 2 (.int .i64 l')).set 3 (.int .i64 s')).congr fun j hj => ?_
  match j, hj with
  | 0, _ => rfl
  | 1, _ => rfl
  | 2, _ => rfl
  | 3, _ => rfl
  | 4, _ => rfl
  | 5, _ => rfl
  | 6, _ => rfl

set_option maxHeartbeats 400000 in
theorem zzSkip_no (p b off n cap i : Nat) (l s x : Int) (w : World) (hn : n ≤ 1048576) (hi : i < n) (h : ScanIs w p (.slice (some ⟨b, off, none⟩) n cap) i l s)
    (hx : w.cell? ⟨b, off + i, none⟩ = some (.int .u8 x)) (hr : (x == 10) = false) :
    Calls Try.prog 19 #[.pointer (some ⟨p, 0, none⟩)] w fun e w' => e = .returned (.bool false) ∧ ∃ q, w' = w.drewN q := by
  have H : Hid (ScanIs w p (.slice (some ⟨b, off, none⟩) n cap) i l s) := h
  clear h
  go_enter Try.func19, Try.ntmps19
  go_wp2_with fail
  refine (skip_no p b off n cap i x _ hn hi H.out.c0 H.out.c1 H.out.c4 hx hr).mono ?_
  rintro e w' ⟨rfl, q, rfl⟩
  go_wp2
  go_ret
  exact ⟨rfl, _, rfl⟩

set_option maxHeartbeats 400000 in
theorem zzSkip_yes (p b off n cap i : Nat) (l : Nat) (s x : Int) (w : World) (hn : n ≤ 1048576) (hi : i < n) (hl : l ≤ 1048576) (h : ScanIs w p (.slice (some ⟨b, off, none⟩) n cap) i (l + 1) s)
    (hx : w.cell? ⟨b, off + i, none⟩ = some (.int .u8 x)) (hr : (x == 10) = true) :
    Calls Try.prog 19 #[.pointer (some ⟨p, 0, none⟩)] w fun e w' => e = .returned (.bool true) ∧ ScanIs w' p (.slice (some ⟨b, off, none⟩) n cap) (i + 1) (l + 1 + 1) (i + 1) ∧ Below p w w' := by
  have H : Hid (ScanIs w p (.slice (some ⟨b, off, none⟩) n cap) i (l + 1) s) := h
  clear h
  go_enter Try.func19, Try.ntmps19
  go_wp2_with fail
  refine (skip_yes p b off n cap i x l (.int .i64 s) _ hn hi hl H.out.c0 H.out.c1 H.out.c2 H.out.c3 (World.rowIs.frozen H.out _) (World.rowIs.frozen H.out _) (World.rowIs.frozen H.out _) H.out.c4 hx hr).mono ?_
  rintro e w' ⟨rfl, q, rfl⟩
  go_wp2
  go_ret
  refine ⟨rfl, ScanIs.moved (w := w.drewN q) H.out _ _ _, ?_⟩
  exact ((((⟨rfl, rfl, rfl, Nat.le_refl _, fun _ _ => rfl⟩ : Below p w (w.drewN q)).setCell (Nat.le_refl _) _).setCell (Nat.le_refl _) _).setCell (Nat.le_refl _) _)

theorem state_of (p : Nat) (d : Value) (i l s : Int) (w : World) (h : ScanIs w p d i l s) :
    Calls Try.prog 20 #[.pointer (some ⟨p, 0, none⟩)] w fun e w' =>
      e = .returned (.tuple #[.int .i64 i, .int .i64 l, .int .i64 s]) ∧ ∃ q, w' = w.drewN q :=
  state_any p i l s w h.c1 h.c2 h.c3

end Go.Proofs.Qxb6605878a.Scan
