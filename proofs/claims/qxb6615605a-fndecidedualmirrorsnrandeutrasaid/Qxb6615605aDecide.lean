/-
  decideDual (16).
-/
import Derived.Test.Qxb6615605aLeaves
namespace Go.Proofs.Qxb6615605a
open Go.RowKit

/-- The two paths and their number. -/
def dd (ems esfb eps emcbs uesfb : Bool) (cell op : Int) (io re : Bool) : Int × Int × Int :=
  if eps = false then
    (if ems then (1, 0, 1) else if uesfb && esfb then (2, 0, 1) else if io && re then (op, 0, 1) else (7, 0, 1))
  else if cell ≠ 1 then (12, 0, 1)
  else if ems && emcbs then (1, 9, 2) else if ems then (1, 0, 1) else if emcbs then (9, 0, 1)
  else if io && re then (10, 0, 1) else (11, 0, 1)

def clause : ByteArray := { data := #[84, 83, 32, 50, 52, 46, 50, 50, 57, 32, 85, 46, 50, 46, 50, 46, 54, 46, 53] }

/-- What decideDual leaves of the decision at block b. -/
def Left (b : Nat) (ems esfb : Bool) (r : Int × Int × Int) (w w' : World) : Prop :=
  Below b w w' ∧ w'.cell? ⟨b, 0, none⟩ = some (.bool ems) ∧ w'.cell? ⟨b, 1, none⟩ = some (.bool esfb) ∧ w'.cell? ⟨b, 2, none⟩ = some (.string clause)
    ∧ w'.cell? ⟨b, 3, none⟩ = some (.int .u8 r.1) ∧ w'.cell? ⟨b, 4, none⟩ = some (.int .u8 r.2.1) ∧ w'.cell? ⟨b, 5, none⟩ = some (.int .u8 r.2.2)

/-- What permit leaves. -/
def Perm (b : Nat) (x y n : Int) (w w' : World) : Prop :=
  Below b w w' ∧ (∀ k, k < 3 → w'.cell? ⟨b, k, none⟩ = w.cell? ⟨b, k, none⟩)
    ∧ w'.cell? ⟨b, 3, none⟩ = some (.int .u8 x) ∧ w'.cell? ⟨b, 4, none⟩ = some (.int .u8 y) ∧ w'.cell? ⟨b, 5, none⟩ = some (.int .u8 n)

/-- The decision before: no path yet. -/
def Blank (b : Nat) (w : World) : Prop :=
  w.cell? ⟨b, 3, none⟩ = some (.int .u8 0) ∧ w.cell? ⟨b, 4, none⟩ = some (.int .u8 0) ∧ w.cell? ⟨b, 5, none⟩ = some (.int .u8 0) ∧ ∀ k, w.frozen? ⟨b, k, none⟩ = false

theorem bset {b k : Nat} {a w : World} (h : Below b a w) (u : Value) : Below b a (w.setCell ⟨b, k, none⟩ u) := h.setCell (Nat.le_refl _) u

theorem perm1 (b : Nat) (a : Addr) (x : Int) (w : World) (hsrc : w.cell? a = some (.int .u8 x)) (hbl : Blank b w) :
    Calls Try.prog 17 #[.pointer (some ⟨b, 0, none⟩), .slice (some a) 1 1] w fun e w' => e = .returned (.tuple #[]) ∧ Perm b x 0 1 w w' := by
  obtain ⟨h3, h4, h5, fz⟩ := hbl
  refine (permit1 b a x _ _ w hsrc h3 h5 (fz 3) (fz 5)).mono ?_
  rintro e w' ⟨rfl, rfl⟩
  refine ⟨rfl, bset (bset (Below.refl _ _) _) _, ?_, ?_⟩
  · intro k hk
    rw [World.cell?_setCell_other _ _ _ _ (by intro h; injection h; omega), World.cell?_setCell_other _ _ _ _ (by intro h; injection h; omega)]
  · simp [go_sem, h3, h4, h5]

theorem perm2 (b : Nat) (a : Addr) (x y : Int) (w : World) (hsrc : w.cell? a = some (.int .u8 x)) (hsrc2 : w.cell? (a.add 1) = some (.int .u8 y)) (hbl : Blank b w) :
    Calls Try.prog 17 #[.pointer (some ⟨b, 0, none⟩), .slice (some a) 2 2] w fun e w' => e = .returned (.tuple #[]) ∧ Perm b x y 2 w w' := by
  obtain ⟨h3, h4, h5, fz⟩ := hbl
  refine (permit2 b a x y _ _ _ w hsrc hsrc2 h3 h4 h5 (fz 3) (fz 4) (fz 5)).mono ?_
  rintro e w' ⟨rfl, rfl⟩
  refine ⟨rfl, bset (bset (bset (Below.refl _ _) _) _) _, ?_, ?_⟩
  · intro k hk
    rw [World.cell?_setCell_other _ _ _ _ (by intro h; injection h; omega), World.cell?_setCell_other _ _ _ _ (by intro h; injection h; omega), World.cell?_setCell_other _ _ _ _ (by intro h; injection h; omega)]
  · simp [go_sem, h3, h4, h5]

theorem left_mk {b : Nat} {ems esfb : Bool} {x y n : Int} {w X w' : World} (hB : Below b w X) (h0 : X.cell? ⟨b, 0, none⟩ = some (.bool ems)) (h1 : X.cell? ⟨b, 1, none⟩ = some (.bool esfb))
    (h2 : X.cell? ⟨b, 2, none⟩ = some (.string clause)) (hp : Perm b x y n X w') : Left b ems esfb (x, y, n) w w' := by
  obtain ⟨p1, p2, p3⟩ := hp
  exact ⟨hB.trans p1, (p2 0 (by omega)).trans h0, (p2 1 (by omega)).trans h1, (p2 2 (by omega)).trans h2, p3⟩

/-- UE.reaches. -/
def reach (other : Int) (ueE ueN : Bool) : Bool := if other = 1 then ueN else ueE

theorem reach_any (a b c : Bool) (q : Int) (hq : q = 1 ∨ q = 2) (w : World) : Calls Try.prog 19 #[.agg #[.bool a, .bool b, .bool c], .int .u8 q] w fun e w' => e = .returned (.bool (reach q b c)) ∧ w' = w.alloc (.cells #[.bool a, .bool b, .bool c] 44) := by
  rcases hq with rfl | rfl
  · exact reaches_nr a b c w
  · exact reaches_eutra a b c w

set_option maxHeartbeats 400000 in
theorem d_ems (b : Nat) (esfb emcbs uesfb ueE ueN : Bool) (s0 : ByteArray) (here other oe op mode cell emc emf : Int) (w : World)
    (hb : b < w.heap.size)
    (h0 : w.cell? ⟨b, 0, none⟩ = some (.bool true)) (h1 : w.cell? ⟨b, 1, none⟩ = some (.bool esfb)) (h2 : w.cell? ⟨b, 2, none⟩ = some (.string s0))
    (h3 : w.cell? ⟨b, 3, none⟩ = some (.int .u8 0)) (h4 : w.cell? ⟨b, 4, none⟩ = some (.int .u8 0)) (h5 : w.cell? ⟨b, 5, none⟩ = some (.int .u8 0))
    (fz : ∀ k, w.frozen? ⟨b, k, none⟩ = false) :
    Calls Try.prog 16 #[.pointer (some ⟨b, 0, none⟩), .agg #[.int .u8 here, .int .u8 other, .int .u8 oe, .int .u8 op],
      .agg #[.int .u8 mode, .int .u8 cell, .int .u8 emc, .int .u8 emf, .bool false, .bool emcbs, .bool uesfb, .bool ueE, .bool ueN]] w fun e w' =>
      e = .returned (.tuple #[]) ∧ Left b true esfb (1, 0, 1) w w' := by
  have hb1 : b < w.heap.size + 1 := by omega
  have hb2 : b < w.heap.size + 1 + 1 := by omega
  have hb3 : b < w.heap.size + 1 + 1 + 1 := by omega
  have hb4 : b < w.heap.size + 1 + 1 + 1 + 1 := by omega
  go_enter Try.func16, Try.ntmps16
  go_wp2_with fail
  refine (perm1 b _ 1 _ (by simp [go_sem, *]) ⟨by simp [go_sem, *], by simp [go_sem, *], by simp [go_sem, *], fun k => by simp [go_sem, *]⟩).mono ?_
  rintro e w' ⟨rfl, hp⟩
  have fin : Left b true esfb (1, 0, 1) w w' := by
    refine left_mk ?_ ?_ ?_ ?_ hp
    · repeat (first | exact Below.refl _ _ | apply bset | refine Below.alloc ?_ (by simp; omega) _)
    all_goals simp [go_sem, clause, *]
  clear hp
  go_wp2
  exact bodyPost_ret (v := .tuple #[]) (by simp [results, Try.results16]) rfl ⟨rfl, fin⟩

set_option maxHeartbeats 400000 in
theorem d_esfb (b : Nat) (emcbs ueE ueN : Bool) (s0 : ByteArray) (here other oe op mode cell emc emf : Int) (w : World)
    (hb : b < w.heap.size)
    (h0 : w.cell? ⟨b, 0, none⟩ = some (.bool false)) (h1 : w.cell? ⟨b, 1, none⟩ = some (.bool true)) (h2 : w.cell? ⟨b, 2, none⟩ = some (.string s0))
    (h3 : w.cell? ⟨b, 3, none⟩ = some (.int .u8 0)) (h4 : w.cell? ⟨b, 4, none⟩ = some (.int .u8 0)) (h5 : w.cell? ⟨b, 5, none⟩ = some (.int .u8 0))
    (fz : ∀ k, w.frozen? ⟨b, k, none⟩ = false) :
    Calls Try.prog 16 #[.pointer (some ⟨b, 0, none⟩), .agg #[.int .u8 here, .int .u8 other, .int .u8 oe, .int .u8 op],
      .agg #[.int .u8 mode, .int .u8 cell, .int .u8 emc, .int .u8 emf, .bool false, .bool emcbs, .bool true, .bool ueE, .bool ueN]] w fun e w' =>
      e = .returned (.tuple #[]) ∧ Left b false true (2, 0, 1) w w' := by
  have hb1 : b < w.heap.size + 1 := by omega
  have hb2 : b < w.heap.size + 1 + 1 := by omega
  have hb3 : b < w.heap.size + 1 + 1 + 1 := by omega
  have hb4 : b < w.heap.size + 1 + 1 + 1 + 1 := by omega
  go_enter Try.func16, Try.ntmps16
  go_wp2_with fail
  refine (perm1 b _ 2 _ (by simp [go_sem, *]) ⟨by simp [go_sem, *], by simp [go_sem, *], by simp [go_sem, *], fun k => by simp [go_sem, *]⟩).mono ?_
  rintro e w' ⟨rfl, hp⟩
  have fin : Left b false true (2, 0, 1) w w' := by
    refine left_mk ?_ ?_ ?_ ?_ hp
    · repeat (first | exact Below.refl _ _ | apply bset | refine Below.alloc ?_ (by simp; omega) _)
    all_goals simp [go_sem, clause, *]
  clear hp
  go_wp2
  exact bodyPost_ret (v := .tuple #[]) (by simp [results, Try.results16]) rfl ⟨rfl, fin⟩

set_option maxHeartbeats 400000 in
theorem d_no_a (b : Nat) (esfb emcbs ueE ueN : Bool) (s0 : ByteArray) (here other oe op mode cell emc emf : Int) (w : World)
    (hb : b < w.heap.size)
    (h0 : w.cell? ⟨b, 0, none⟩ = some (.bool false)) (h1 : w.cell? ⟨b, 1, none⟩ = some (.bool esfb)) (h2 : w.cell? ⟨b, 2, none⟩ = some (.string s0))
    (h3 : w.cell? ⟨b, 3, none⟩ = some (.int .u8 0)) (h4 : w.cell? ⟨b, 4, none⟩ = some (.int .u8 0)) (h5 : w.cell? ⟨b, 5, none⟩ = some (.int .u8 0))
    (fz : ∀ k, w.frozen? ⟨b, k, none⟩ = false) (hio : isIn other emc = false) :
    Calls Try.prog 16 #[.pointer (some ⟨b, 0, none⟩), .agg #[.int .u8 here, .int .u8 other, .int .u8 oe, .int .u8 op],
      .agg #[.int .u8 mode, .int .u8 cell, .int .u8 emc, .int .u8 emf, .bool false, .bool emcbs, .bool false, .bool ueE, .bool ueN]] w fun e w' =>
      e = .returned (.tuple #[]) ∧ Left b false esfb (7, 0, 1) w w' := by
  have hb1 : b < w.heap.size + 1 := by omega
  have hb2 : b < w.heap.size + 1 + 1 := by omega
  have hb3 : b < w.heap.size + 1 + 1 + 1 := by omega
  have hb4 : b < w.heap.size + 1 + 1 + 1 + 1 := by omega
  go_enter Try.func16, Try.ntmps16
  go_wp2_with fail
  refine (in_any _ _ _).mono ?_
  rintro e w1 ⟨rfl, rfl⟩
  rw [hio]
  go_wp2_with fail
  refine (perm1 b _ 7 _ (by simp [go_sem, *]) ⟨by simp [go_sem, *], by simp [go_sem, *], by simp [go_sem, *], fun k => by simp [go_sem, *]⟩).mono ?_
  rintro e w' ⟨rfl, hp⟩
  have fin : Left b false esfb (7, 0, 1) w w' := by
    refine left_mk ?_ ?_ ?_ ?_ hp
    · repeat (first | exact Below.refl _ _ | apply bset | refine Below.alloc ?_ (by simp; omega) _)
    all_goals simp [go_sem, clause, *]
  clear hp
  go_wp2
  exact bodyPost_ret (v := .tuple #[]) (by simp [results, Try.results16]) rfl ⟨rfl, fin⟩

set_option maxHeartbeats 400000 in
theorem d_io_a (b : Nat) (esfb emcbs ueE ueN : Bool) (s0 : ByteArray) (here other oe op mode cell emc emf : Int) (w : World)
    (hb : b < w.heap.size)
    (h0 : w.cell? ⟨b, 0, none⟩ = some (.bool false)) (h1 : w.cell? ⟨b, 1, none⟩ = some (.bool esfb)) (h2 : w.cell? ⟨b, 2, none⟩ = some (.string s0))
    (h3 : w.cell? ⟨b, 3, none⟩ = some (.int .u8 0)) (h4 : w.cell? ⟨b, 4, none⟩ = some (.int .u8 0)) (h5 : w.cell? ⟨b, 5, none⟩ = some (.int .u8 0))
    (fz : ∀ k, w.frozen? ⟨b, k, none⟩ = false) (ho : other = 1 ∨ other = 2) (hio : isIn other emc = true) (hre : reach other ueE ueN = false) :
    Calls Try.prog 16 #[.pointer (some ⟨b, 0, none⟩), .agg #[.int .u8 here, .int .u8 other, .int .u8 oe, .int .u8 op],
      .agg #[.int .u8 mode, .int .u8 cell, .int .u8 emc, .int .u8 emf, .bool false, .bool emcbs, .bool false, .bool ueE, .bool ueN]] w fun e w' =>
      e = .returned (.tuple #[]) ∧ Left b false esfb (7, 0, 1) w w' := by
  have hb1 : b < w.heap.size + 1 := by omega
  have hb2 : b < w.heap.size + 1 + 1 := by omega
  have hb3 : b < w.heap.size + 1 + 1 + 1 := by omega
  have hb4 : b < w.heap.size + 1 + 1 + 1 + 1 := by omega
  go_enter Try.func16, Try.ntmps16
  go_wp2_with fail
  refine (in_any _ _ _).mono ?_
  rintro e w1 ⟨rfl, rfl⟩
  rw [hio]
  go_wp2_with fail
  refine (reach_any _ _ _ _ ho _).mono ?_
  rintro e w1 ⟨rfl, rfl⟩
  rw [hre]
  clear hre ho
  go_wp2_with fail
  refine (perm1 b _ 7 _ (by simp [go_sem, *]) ⟨by simp [go_sem, *], by simp [go_sem, *], by simp [go_sem, *], fun k => by simp [go_sem, *]⟩).mono ?_
  rintro e w' ⟨rfl, hp⟩
  have fin : Left b false esfb (7, 0, 1) w w' := by
    refine left_mk ?_ ?_ ?_ ?_ hp
    · repeat (first | exact Below.refl _ _ | apply bset | refine Below.alloc ?_ (by simp; omega) _)
    all_goals simp [go_sem, clause, *]
  clear hp
  go_wp2
  exact bodyPost_ret (v := .tuple #[]) (by simp [results, Try.results16]) rfl ⟨rfl, fin⟩

set_option maxHeartbeats 400000 in
theorem d_re_a (b : Nat) (esfb emcbs ueE ueN : Bool) (s0 : ByteArray) (here other oe op mode cell emc emf : Int) (w : World)
    (hb : b < w.heap.size)
    (h0 : w.cell? ⟨b, 0, none⟩ = some (.bool false)) (h1 : w.cell? ⟨b, 1, none⟩ = some (.bool esfb)) (h2 : w.cell? ⟨b, 2, none⟩ = some (.string s0))
    (h3 : w.cell? ⟨b, 3, none⟩ = some (.int .u8 0)) (h4 : w.cell? ⟨b, 4, none⟩ = some (.int .u8 0)) (h5 : w.cell? ⟨b, 5, none⟩ = some (.int .u8 0))
    (fz : ∀ k, w.frozen? ⟨b, k, none⟩ = false) (ho : other = 1 ∨ other = 2) (hio : isIn other emc = true) (hre : reach other ueE ueN = true) :
    Calls Try.prog 16 #[.pointer (some ⟨b, 0, none⟩), .agg #[.int .u8 here, .int .u8 other, .int .u8 oe, .int .u8 op],
      .agg #[.int .u8 mode, .int .u8 cell, .int .u8 emc, .int .u8 emf, .bool false, .bool emcbs, .bool false, .bool ueE, .bool ueN]] w fun e w' =>
      e = .returned (.tuple #[]) ∧ Left b false esfb (op, 0, 1) w w' := by
  have hb1 : b < w.heap.size + 1 := by omega
  have hb2 : b < w.heap.size + 1 + 1 := by omega
  have hb3 : b < w.heap.size + 1 + 1 + 1 := by omega
  have hb4 : b < w.heap.size + 1 + 1 + 1 + 1 := by omega
  go_enter Try.func16, Try.ntmps16
  go_wp2_with fail
  refine (in_any _ _ _).mono ?_
  rintro e w1 ⟨rfl, rfl⟩
  rw [hio]
  go_wp2_with fail
  refine (reach_any _ _ _ _ ho _).mono ?_
  rintro e w1 ⟨rfl, rfl⟩
  rw [hre]
  clear hre ho
  go_wp2_with fail
  refine (perm1 b _ op _ (by simp [go_sem, *]) ⟨by simp [go_sem, *], by simp [go_sem, *], by simp [go_sem, *], fun k => by simp [go_sem, *]⟩).mono ?_
  rintro e w' ⟨rfl, hp⟩
  have fin : Left b false esfb (op, 0, 1) w w' := by
    refine left_mk ?_ ?_ ?_ ?_ hp
    · repeat (first | exact Below.refl _ _ | apply bset | refine Below.alloc ?_ (by simp; omega) _)
    all_goals simp [go_sem, clause, *]
  clear hp
  go_wp2
  exact bodyPost_ret (v := .tuple #[]) (by simp [results, Try.results16]) rfl ⟨rfl, fin⟩

set_option maxHeartbeats 400000 in
theorem d_no_b (b : Nat) (emcbs ueE ueN : Bool) (s0 : ByteArray) (here other oe op mode cell emc emf : Int) (w : World)
    (hb : b < w.heap.size)
    (h0 : w.cell? ⟨b, 0, none⟩ = some (.bool false)) (h1 : w.cell? ⟨b, 1, none⟩ = some (.bool false)) (h2 : w.cell? ⟨b, 2, none⟩ = some (.string s0))
    (h3 : w.cell? ⟨b, 3, none⟩ = some (.int .u8 0)) (h4 : w.cell? ⟨b, 4, none⟩ = some (.int .u8 0)) (h5 : w.cell? ⟨b, 5, none⟩ = some (.int .u8 0))
    (fz : ∀ k, w.frozen? ⟨b, k, none⟩ = false) (hio : isIn other emc = false) :
    Calls Try.prog 16 #[.pointer (some ⟨b, 0, none⟩), .agg #[.int .u8 here, .int .u8 other, .int .u8 oe, .int .u8 op],
      .agg #[.int .u8 mode, .int .u8 cell, .int .u8 emc, .int .u8 emf, .bool false, .bool emcbs, .bool true, .bool ueE, .bool ueN]] w fun e w' =>
      e = .returned (.tuple #[]) ∧ Left b false false (7, 0, 1) w w' := by
  have hb1 : b < w.heap.size + 1 := by omega
  have hb2 : b < w.heap.size + 1 + 1 := by omega
  have hb3 : b < w.heap.size + 1 + 1 + 1 := by omega
  have hb4 : b < w.heap.size + 1 + 1 + 1 + 1 := by omega
  go_enter Try.func16, Try.ntmps16
  go_wp2_with fail
  refine (in_any _ _ _).mono ?_
  rintro e w1 ⟨rfl, rfl⟩
  rw [hio]
  go_wp2_with fail
  refine (perm1 b _ 7 _ (by simp [go_sem, *]) ⟨by simp [go_sem, *], by simp [go_sem, *], by simp [go_sem, *], fun k => by simp [go_sem, *]⟩).mono ?_
  rintro e w' ⟨rfl, hp⟩
  have fin : Left b false false (7, 0, 1) w w' := by
    refine left_mk ?_ ?_ ?_ ?_ hp
    · repeat (first | exact Below.refl _ _ | apply bset | refine Below.alloc ?_ (by simp; omega) _)
    all_goals simp [go_sem, clause, *]
  clear hp
  go_wp2
  exact bodyPost_ret (v := .tuple #[]) (by simp [results, Try.results16]) rfl ⟨rfl, fin⟩

set_option maxHeartbeats 400000 in
theorem d_io_b (b : Nat) (emcbs ueE ueN : Bool) (s0 : ByteArray) (here other oe op mode cell emc emf : Int) (w : World)
    (hb : b < w.heap.size)
    (h0 : w.cell? ⟨b, 0, none⟩ = some (.bool false)) (h1 : w.cell? ⟨b, 1, none⟩ = some (.bool false)) (h2 : w.cell? ⟨b, 2, none⟩ = some (.string s0))
    (h3 : w.cell? ⟨b, 3, none⟩ = some (.int .u8 0)) (h4 : w.cell? ⟨b, 4, none⟩ = some (.int .u8 0)) (h5 : w.cell? ⟨b, 5, none⟩ = some (.int .u8 0))
    (fz : ∀ k, w.frozen? ⟨b, k, none⟩ = false) (ho : other = 1 ∨ other = 2) (hio : isIn other emc = true) (hre : reach other ueE ueN = false) :
    Calls Try.prog 16 #[.pointer (some ⟨b, 0, none⟩), .agg #[.int .u8 here, .int .u8 other, .int .u8 oe, .int .u8 op],
      .agg #[.int .u8 mode, .int .u8 cell, .int .u8 emc, .int .u8 emf, .bool false, .bool emcbs, .bool true, .bool ueE, .bool ueN]] w fun e w' =>
      e = .returned (.tuple #[]) ∧ Left b false false (7, 0, 1) w w' := by
  have hb1 : b < w.heap.size + 1 := by omega
  have hb2 : b < w.heap.size + 1 + 1 := by omega
  have hb3 : b < w.heap.size + 1 + 1 + 1 := by omega
  have hb4 : b < w.heap.size + 1 + 1 + 1 + 1 := by omega
  go_enter Try.func16, Try.ntmps16
  go_wp2_with fail
  refine (in_any _ _ _).mono ?_
  rintro e w1 ⟨rfl, rfl⟩
  rw [hio]
  go_wp2_with fail
  refine (reach_any _ _ _ _ ho _).mono ?_
  rintro e w1 ⟨rfl, rfl⟩
  rw [hre]
  clear hre ho
  go_wp2_with fail
  refine (perm1 b _ 7 _ (by simp [go_sem, *]) ⟨by simp [go_sem, *], by simp [go_sem, *], by simp [go_sem, *], fun k => by simp [go_sem, *]⟩).mono ?_
  rintro e w' ⟨rfl, hp⟩
  have fin : Left b false false (7, 0, 1) w w' := by
    refine left_mk ?_ ?_ ?_ ?_ hp
    · repeat (first | exact Below.refl _ _ | apply bset | refine Below.alloc ?_ (by simp; omega) _)
    all_goals simp [go_sem, clause, *]
  clear hp
  go_wp2
  exact bodyPost_ret (v := .tuple #[]) (by simp [results, Try.results16]) rfl ⟨rfl, fin⟩

set_option maxHeartbeats 400000 in
theorem d_re_b (b : Nat) (emcbs ueE ueN : Bool) (s0 : ByteArray) (here other oe op mode cell emc emf : Int) (w : World)
    (hb : b < w.heap.size)
    (h0 : w.cell? ⟨b, 0, none⟩ = some (.bool false)) (h1 : w.cell? ⟨b, 1, none⟩ = some (.bool false)) (h2 : w.cell? ⟨b, 2, none⟩ = some (.string s0))
    (h3 : w.cell? ⟨b, 3, none⟩ = some (.int .u8 0)) (h4 : w.cell? ⟨b, 4, none⟩ = some (.int .u8 0)) (h5 : w.cell? ⟨b, 5, none⟩ = some (.int .u8 0))
    (fz : ∀ k, w.frozen? ⟨b, k, none⟩ = false) (ho : other = 1 ∨ other = 2) (hio : isIn other emc = true) (hre : reach other ueE ueN = true) :
    Calls Try.prog 16 #[.pointer (some ⟨b, 0, none⟩), .agg #[.int .u8 here, .int .u8 other, .int .u8 oe, .int .u8 op],
      .agg #[.int .u8 mode, .int .u8 cell, .int .u8 emc, .int .u8 emf, .bool false, .bool emcbs, .bool true, .bool ueE, .bool ueN]] w fun e w' =>
      e = .returned (.tuple #[]) ∧ Left b false false (op, 0, 1) w w' := by
  have hb1 : b < w.heap.size + 1 := by omega
  have hb2 : b < w.heap.size + 1 + 1 := by omega
  have hb3 : b < w.heap.size + 1 + 1 + 1 := by omega
  have hb4 : b < w.heap.size + 1 + 1 + 1 + 1 := by omega
  go_enter Try.func16, Try.ntmps16
  go_wp2_with fail
  refine (in_any _ _ _).mono ?_
  rintro e w1 ⟨rfl, rfl⟩
  rw [hio]
  go_wp2_with fail
  refine (reach_any _ _ _ _ ho _).mono ?_
  rintro e w1 ⟨rfl, rfl⟩
  rw [hre]
  clear hre ho
  go_wp2_with fail
  refine (perm1 b _ op _ (by simp [go_sem, *]) ⟨by simp [go_sem, *], by simp [go_sem, *], by simp [go_sem, *], fun k => by simp [go_sem, *]⟩).mono ?_
  rintro e w' ⟨rfl, hp⟩
  have fin : Left b false false (op, 0, 1) w w' := by
    refine left_mk ?_ ?_ ?_ ?_ hp
    · repeat (first | exact Below.refl _ _ | apply bset | refine Below.alloc ?_ (by simp; omega) _)
    all_goals simp [go_sem, clause, *]
  clear hp
  go_wp2
  exact bodyPost_ret (v := .tuple #[]) (by simp [results, Try.results16]) rfl ⟨rfl, fin⟩

set_option maxHeartbeats 400000 in
theorem d_out (b : Nat) (ems esfb emcbs uesfb ueE ueN : Bool) (s0 : ByteArray) (here other oe op mode cell emc emf : Int) (w : World)
    (hb : b < w.heap.size)
    (h0 : w.cell? ⟨b, 0, none⟩ = some (.bool ems)) (h1 : w.cell? ⟨b, 1, none⟩ = some (.bool esfb)) (h2 : w.cell? ⟨b, 2, none⟩ = some (.string s0))
    (h3 : w.cell? ⟨b, 3, none⟩ = some (.int .u8 0)) (h4 : w.cell? ⟨b, 4, none⟩ = some (.int .u8 0)) (h5 : w.cell? ⟨b, 5, none⟩ = some (.int .u8 0))
    (fz : ∀ k, w.frozen? ⟨b, k, none⟩ = false) (hc : (cell != 1) = true) :
    Calls Try.prog 16 #[.pointer (some ⟨b, 0, none⟩), .agg #[.int .u8 here, .int .u8 other, .int .u8 oe, .int .u8 op],
      .agg #[.int .u8 mode, .int .u8 cell, .int .u8 emc, .int .u8 emf, .bool true, .bool emcbs, .bool uesfb, .bool ueE, .bool ueN]] w fun e w' =>
      e = .returned (.tuple #[]) ∧ Left b ems esfb (12, 0, 1) w w' := by
  have hb1 : b < w.heap.size + 1 := by omega
  have hb2 : b < w.heap.size + 1 + 1 := by omega
  have hb3 : b < w.heap.size + 1 + 1 + 1 := by omega
  have hb4 : b < w.heap.size + 1 + 1 + 1 + 1 := by omega
  go_enter Try.func16, Try.ntmps16
  go_wp2_with fail
  refine (perm1 b _ 12 _ (by simp [go_sem, *]) ⟨by simp [go_sem, *], by simp [go_sem, *], by simp [go_sem, *], fun k => by simp [go_sem, *]⟩).mono ?_
  rintro e w' ⟨rfl, hp⟩
  have fin : Left b ems esfb (12, 0, 1) w w' := by
    refine left_mk ?_ ?_ ?_ ?_ hp
    · repeat (first | exact Below.refl _ _ | apply bset | refine Below.alloc ?_ (by simp; omega) _)
    all_goals simp [go_sem, clause, *]
  clear hp
  go_wp2
  exact bodyPost_ret (v := .tuple #[]) (by simp [results, Try.results16]) rfl ⟨rfl, fin⟩

set_option maxHeartbeats 400000 in
theorem d_two (b : Nat) (esfb uesfb ueE ueN : Bool) (s0 : ByteArray) (here other oe op mode emc emf : Int) (w : World)
    (hb : b < w.heap.size)
    (h0 : w.cell? ⟨b, 0, none⟩ = some (.bool true)) (h1 : w.cell? ⟨b, 1, none⟩ = some (.bool esfb)) (h2 : w.cell? ⟨b, 2, none⟩ = some (.string s0))
    (h3 : w.cell? ⟨b, 3, none⟩ = some (.int .u8 0)) (h4 : w.cell? ⟨b, 4, none⟩ = some (.int .u8 0)) (h5 : w.cell? ⟨b, 5, none⟩ = some (.int .u8 0))
    (fz : ∀ k, w.frozen? ⟨b, k, none⟩ = false) :
    Calls Try.prog 16 #[.pointer (some ⟨b, 0, none⟩), .agg #[.int .u8 here, .int .u8 other, .int .u8 oe, .int .u8 op],
      .agg #[.int .u8 mode, .int .u8 1, .int .u8 emc, .int .u8 emf, .bool true, .bool true, .bool uesfb, .bool ueE, .bool ueN]] w fun e w' =>
      e = .returned (.tuple #[]) ∧ Left b true esfb (1, 9, 2) w w' := by
  have hb1 : b < w.heap.size + 1 := by omega
  have hb2 : b < w.heap.size + 1 + 1 := by omega
  have hb3 : b < w.heap.size + 1 + 1 + 1 := by omega
  have hb4 : b < w.heap.size + 1 + 1 + 1 + 1 := by omega
  go_enter Try.func16, Try.ntmps16
  go_wp2_with fail
  refine (perm2 b _ 1 9 _ (by simp [go_sem, *]) (by simp [go_sem, *]; try rfl) ⟨by simp [go_sem, *], by simp [go_sem, *], by simp [go_sem, *], fun k => by simp [go_sem, *]⟩).mono ?_
  rintro e w' ⟨rfl, hp⟩
  have fin : Left b true esfb (1, 9, 2) w w' := by
    refine left_mk ?_ ?_ ?_ ?_ hp
    · repeat (first | exact Below.refl _ _ | apply bset | refine Below.alloc ?_ (by simp; omega) _)
    all_goals simp [go_sem, clause, *]
  clear hp
  go_wp2
  go_end0
  exact ⟨rfl, fin⟩

set_option maxHeartbeats 400000 in
theorem d_one (b : Nat) (esfb uesfb ueE ueN : Bool) (s0 : ByteArray) (here other oe op mode emc emf : Int) (w : World)
    (hb : b < w.heap.size)
    (h0 : w.cell? ⟨b, 0, none⟩ = some (.bool true)) (h1 : w.cell? ⟨b, 1, none⟩ = some (.bool esfb)) (h2 : w.cell? ⟨b, 2, none⟩ = some (.string s0))
    (h3 : w.cell? ⟨b, 3, none⟩ = some (.int .u8 0)) (h4 : w.cell? ⟨b, 4, none⟩ = some (.int .u8 0)) (h5 : w.cell? ⟨b, 5, none⟩ = some (.int .u8 0))
    (fz : ∀ k, w.frozen? ⟨b, k, none⟩ = false) :
    Calls Try.prog 16 #[.pointer (some ⟨b, 0, none⟩), .agg #[.int .u8 here, .int .u8 other, .int .u8 oe, .int .u8 op],
      .agg #[.int .u8 mode, .int .u8 1, .int .u8 emc, .int .u8 emf, .bool true, .bool false, .bool uesfb, .bool ueE, .bool ueN]] w fun e w' =>
      e = .returned (.tuple #[]) ∧ Left b true esfb (1, 0, 1) w w' := by
  have hb1 : b < w.heap.size + 1 := by omega
  have hb2 : b < w.heap.size + 1 + 1 := by omega
  have hb3 : b < w.heap.size + 1 + 1 + 1 := by omega
  have hb4 : b < w.heap.size + 1 + 1 + 1 + 1 := by omega
  go_enter Try.func16, Try.ntmps16
  go_wp2_with fail
  refine (perm1 b _ 1 _ (by simp [go_sem, *]) ⟨by simp [go_sem, *], by simp [go_sem, *], by simp [go_sem, *], fun k => by simp [go_sem, *]⟩).mono ?_
  rintro e w' ⟨rfl, hp⟩
  have fin : Left b true esfb (1, 0, 1) w w' := by
    refine left_mk ?_ ?_ ?_ ?_ hp
    · repeat (first | exact Below.refl _ _ | apply bset | refine Below.alloc ?_ (by simp; omega) _)
    all_goals simp [go_sem, clause, *]
  clear hp
  go_wp2
  go_end0
  exact ⟨rfl, fin⟩

set_option maxHeartbeats 400000 in
theorem d_nine (b : Nat) (esfb uesfb ueE ueN : Bool) (s0 : ByteArray) (here other oe op mode emc emf : Int) (w : World)
    (hb : b < w.heap.size)
    (h0 : w.cell? ⟨b, 0, none⟩ = some (.bool false)) (h1 : w.cell? ⟨b, 1, none⟩ = some (.bool esfb)) (h2 : w.cell? ⟨b, 2, none⟩ = some (.string s0))
    (h3 : w.cell? ⟨b, 3, none⟩ = some (.int .u8 0)) (h4 : w.cell? ⟨b, 4, none⟩ = some (.int .u8 0)) (h5 : w.cell? ⟨b, 5, none⟩ = some (.int .u8 0))
    (fz : ∀ k, w.frozen? ⟨b, k, none⟩ = false) :
    Calls Try.prog 16 #[.pointer (some ⟨b, 0, none⟩), .agg #[.int .u8 here, .int .u8 other, .int .u8 oe, .int .u8 op],
      .agg #[.int .u8 mode, .int .u8 1, .int .u8 emc, .int .u8 emf, .bool true, .bool true, .bool uesfb, .bool ueE, .bool ueN]] w fun e w' =>
      e = .returned (.tuple #[]) ∧ Left b false esfb (9, 0, 1) w w' := by
  have hb1 : b < w.heap.size + 1 := by omega
  have hb2 : b < w.heap.size + 1 + 1 := by omega
  have hb3 : b < w.heap.size + 1 + 1 + 1 := by omega
  have hb4 : b < w.heap.size + 1 + 1 + 1 + 1 := by omega
  go_enter Try.func16, Try.ntmps16
  go_wp2_with fail
  refine (perm1 b _ 9 _ (by simp [go_sem, *]) ⟨by simp [go_sem, *], by simp [go_sem, *], by simp [go_sem, *], fun k => by simp [go_sem, *]⟩).mono ?_
  rintro e w' ⟨rfl, hp⟩
  have fin : Left b false esfb (9, 0, 1) w w' := by
    refine left_mk ?_ ?_ ?_ ?_ hp
    · repeat (first | exact Below.refl _ _ | apply bset | refine Below.alloc ?_ (by simp; omega) _)
    all_goals simp [go_sem, clause, *]
  clear hp
  go_wp2
  go_end0
  exact ⟨rfl, fin⟩

set_option maxHeartbeats 400000 in
theorem d_no_c (b : Nat) (esfb uesfb ueE ueN : Bool) (s0 : ByteArray) (here other oe op mode emc emf : Int) (w : World)
    (hb : b < w.heap.size)
    (h0 : w.cell? ⟨b, 0, none⟩ = some (.bool false)) (h1 : w.cell? ⟨b, 1, none⟩ = some (.bool esfb)) (h2 : w.cell? ⟨b, 2, none⟩ = some (.string s0))
    (h3 : w.cell? ⟨b, 3, none⟩ = some (.int .u8 0)) (h4 : w.cell? ⟨b, 4, none⟩ = some (.int .u8 0)) (h5 : w.cell? ⟨b, 5, none⟩ = some (.int .u8 0))
    (fz : ∀ k, w.frozen? ⟨b, k, none⟩ = false) (hio : isIn other emc = false) :
    Calls Try.prog 16 #[.pointer (some ⟨b, 0, none⟩), .agg #[.int .u8 here, .int .u8 other, .int .u8 oe, .int .u8 op],
      .agg #[.int .u8 mode, .int .u8 1, .int .u8 emc, .int .u8 emf, .bool true, .bool false, .bool uesfb, .bool ueE, .bool ueN]] w fun e w' =>
      e = .returned (.tuple #[]) ∧ Left b false esfb (11, 0, 1) w w' := by
  have hb1 : b < w.heap.size + 1 := by omega
  have hb2 : b < w.heap.size + 1 + 1 := by omega
  have hb3 : b < w.heap.size + 1 + 1 + 1 := by omega
  have hb4 : b < w.heap.size + 1 + 1 + 1 + 1 := by omega
  go_enter Try.func16, Try.ntmps16
  go_wp2_with fail
  refine (in_any _ _ _).mono ?_
  rintro e w1 ⟨rfl, rfl⟩
  rw [hio]
  go_wp2_with fail
  refine (perm1 b _ 11 _ (by simp [go_sem, *]) ⟨by simp [go_sem, *], by simp [go_sem, *], by simp [go_sem, *], fun k => by simp [go_sem, *]⟩).mono ?_
  rintro e w' ⟨rfl, hp⟩
  have fin : Left b false esfb (11, 0, 1) w w' := by
    refine left_mk ?_ ?_ ?_ ?_ hp
    · repeat (first | exact Below.refl _ _ | apply bset | refine Below.alloc ?_ (by simp; omega) _)
    all_goals simp [go_sem, clause, *]
  clear hp
  go_wp2
  go_end0
  exact ⟨rfl, fin⟩

set_option maxHeartbeats 400000 in
theorem d_io_c (b : Nat) (esfb uesfb ueE ueN : Bool) (s0 : ByteArray) (here other oe op mode emc emf : Int) (w : World)
    (hb : b < w.heap.size)
    (h0 : w.cell? ⟨b, 0, none⟩ = some (.bool false)) (h1 : w.cell? ⟨b, 1, none⟩ = some (.bool esfb)) (h2 : w.cell? ⟨b, 2, none⟩ = some (.string s0))
    (h3 : w.cell? ⟨b, 3, none⟩ = some (.int .u8 0)) (h4 : w.cell? ⟨b, 4, none⟩ = some (.int .u8 0)) (h5 : w.cell? ⟨b, 5, none⟩ = some (.int .u8 0))
    (fz : ∀ k, w.frozen? ⟨b, k, none⟩ = false) (ho : other = 1 ∨ other = 2) (hio : isIn other emc = true) (hre : reach other ueE ueN = false) :
    Calls Try.prog 16 #[.pointer (some ⟨b, 0, none⟩), .agg #[.int .u8 here, .int .u8 other, .int .u8 oe, .int .u8 op],
      .agg #[.int .u8 mode, .int .u8 1, .int .u8 emc, .int .u8 emf, .bool true, .bool false, .bool uesfb, .bool ueE, .bool ueN]] w fun e w' =>
      e = .returned (.tuple #[]) ∧ Left b false esfb (11, 0, 1) w w' := by
  have hb1 : b < w.heap.size + 1 := by omega
  have hb2 : b < w.heap.size + 1 + 1 := by omega
  have hb3 : b < w.heap.size + 1 + 1 + 1 := by omega
  have hb4 : b < w.heap.size + 1 + 1 + 1 + 1 := by omega
  go_enter Try.func16, Try.ntmps16
  go_wp2_with fail
  refine (in_any _ _ _).mono ?_
  rintro e w1 ⟨rfl, rfl⟩
  rw [hio]
  go_wp2_with fail
  refine (reach_any _ _ _ _ ho _).mono ?_
  rintro e w1 ⟨rfl, rfl⟩
  rw [hre]
  clear hre ho
  go_wp2_with fail
  refine (perm1 b _ 11 _ (by simp [go_sem, *]) ⟨by simp [go_sem, *], by simp [go_sem, *], by simp [go_sem, *], fun k => by simp [go_sem, *]⟩).mono ?_
  rintro e w' ⟨rfl, hp⟩
  have fin : Left b false esfb (11, 0, 1) w w' := by
    refine left_mk ?_ ?_ ?_ ?_ hp
    · repeat (first | exact Below.refl _ _ | apply bset | refine Below.alloc ?_ (by simp; omega) _)
    all_goals simp [go_sem, clause, *]
  clear hp
  go_wp2
  go_end0
  exact ⟨rfl, fin⟩

set_option maxHeartbeats 400000 in
theorem d_re_c (b : Nat) (esfb uesfb ueE ueN : Bool) (s0 : ByteArray) (here other oe op mode emc emf : Int) (w : World)
    (hb : b < w.heap.size)
    (h0 : w.cell? ⟨b, 0, none⟩ = some (.bool false)) (h1 : w.cell? ⟨b, 1, none⟩ = some (.bool esfb)) (h2 : w.cell? ⟨b, 2, none⟩ = some (.string s0))
    (h3 : w.cell? ⟨b, 3, none⟩ = some (.int .u8 0)) (h4 : w.cell? ⟨b, 4, none⟩ = some (.int .u8 0)) (h5 : w.cell? ⟨b, 5, none⟩ = some (.int .u8 0))
    (fz : ∀ k, w.frozen? ⟨b, k, none⟩ = false) (ho : other = 1 ∨ other = 2) (hio : isIn other emc = true) (hre : reach other ueE ueN = true) :
    Calls Try.prog 16 #[.pointer (some ⟨b, 0, none⟩), .agg #[.int .u8 here, .int .u8 other, .int .u8 oe, .int .u8 op],
      .agg #[.int .u8 mode, .int .u8 1, .int .u8 emc, .int .u8 emf, .bool true, .bool false, .bool uesfb, .bool ueE, .bool ueN]] w fun e w' =>
      e = .returned (.tuple #[]) ∧ Left b false esfb (10, 0, 1) w w' := by
  have hb1 : b < w.heap.size + 1 := by omega
  have hb2 : b < w.heap.size + 1 + 1 := by omega
  have hb3 : b < w.heap.size + 1 + 1 + 1 := by omega
  have hb4 : b < w.heap.size + 1 + 1 + 1 + 1 := by omega
  go_enter Try.func16, Try.ntmps16
  go_wp2_with fail
  refine (in_any _ _ _).mono ?_
  rintro e w1 ⟨rfl, rfl⟩
  rw [hio]
  go_wp2_with fail
  refine (reach_any _ _ _ _ ho _).mono ?_
  rintro e w1 ⟨rfl, rfl⟩
  rw [hre]
  clear hre ho
  go_wp2_with fail
  refine (perm1 b _ 10 _ (by simp [go_sem, *]) ⟨by simp [go_sem, *], by simp [go_sem, *], by simp [go_sem, *], fun k => by simp [go_sem, *]⟩).mono ?_
  rintro e w' ⟨rfl, hp⟩
  have fin : Left b false esfb (10, 0, 1) w w' := by
    refine left_mk ?_ ?_ ?_ ?_ hp
    · repeat (first | exact Below.refl _ _ | apply bset | refine Below.alloc ?_ (by simp; omega) _)
    all_goals simp [go_sem, clause, *]
  clear hp
  go_wp2
  go_end0
  exact ⟨rfl, fin⟩

end Go.Proofs.Qxb6615605a
