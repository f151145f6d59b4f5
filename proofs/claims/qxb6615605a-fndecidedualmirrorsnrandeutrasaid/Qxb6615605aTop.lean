/-
  The law's own walk (3).
-/
import Derived.Test.Qxb6615605aLaw
import Derived.Test.Qxb6615605aCells
import Derived.Deep.DeepCutAuto
namespace Go.Proofs.Qxb6615605a
open Go.RowKit

/-- zzRunDual, told so that a region that draws can use it. -/
theorem run_kept (ems esfb eps emcbs uesfb ueE ueN : Bool) (s0 : ByteArray) (here other oe op mode cell emc emf x y n : Int) (w : World)
    (ho : other = 1 ∨ other = 2) (Hr : Hid (dd ems esfb eps emcbs uesfb cell op (isIn other emc) (reach other ueE ueN) = (x, y, n))) :
    Calls Try.prog 8 #[.bool ems, .bool esfb, .string s0, .agg #[.int .u8 mode, .int .u8 cell, .int .u8 emc, .int .u8 emf, .bool eps, .bool emcbs, .bool uesfb, .bool ueE, .bool ueN],
      .int .u8 here, .int .u8 other, .int .u8 oe, .int .u8 op] w fun e w' =>
      e = .returned (.agg #[.bool ems, .bool esfb, .string clause, .int .u8 x, .int .u8 y, .int .u8 n]) ∧ Hid (Below w.heap.size w w') ∧ (∀ b o, b < w.heap.size → w'.cell? ⟨b, o, none⟩ = w.cell? ⟨b, o, none⟩) ∧ (∀ b o, b < w.heap.size → w'.frozen? ⟨b, o, none⟩ = w.frozen? ⟨b, o, none⟩) ∧ (∀ b, b < w.heap.size → b < w'.heap.size) :=
  (run_any ems esfb eps emcbs uesfb ueE ueN s0 here other oe op mode cell emc emf x y n w ho Hr).mono fun _ _ ⟨h, hb⟩ =>
    ⟨h, hb, fun b o hb' => hb.cell (p := ⟨b, o, none⟩) hb', fun b o hb' => hb.frozen (p := ⟨b, o, none⟩) hb', fun _ hb' => Nat.lt_of_lt_of_le hb' hb.size⟩

set_option maxRecDepth 100000 in
set_option maxHeartbeats 2000000 in
theorem top_nr (ems esfb eps emcbs uesfb ueE ueN : Bool) (s0 : ByteArray) (mode cell emc emf x0 x1 xn y0 y1 yn : Int) (w : World) (hs : s0.size ≤ 1048576)
    (HX : Hid (dd ems esfb eps emcbs uesfb cell 5 (isIn 2 emc) (reach 2 ueE ueN) = (x0, x1, xn)))
    (HY : Hid (dd ems esfb eps emcbs uesfb (mc cell) 6 (isIn 1 (sw emc)) (reach 1 ueN ueE) = (y0, y1, yn)))
    (HF : Hid (eps = false → xn = yn ∧ x0 = mp y0 ∧ x1 = mp y1)) (HT : Hid (eps = true → (x0 == 12) = (cell != 1) ∧ (y0 == 12) = (mc cell != 1))) :
    Calls Try.prog 3 #[.bool ems, .bool esfb, .string s0, .agg #[.int .u8 mode, .int .u8 cell, .int .u8 emc, .int .u8 emf, .bool eps, .bool emcbs, .bool uesfb, .bool ueE, .bool ueN],
      .int .u8 1, .int .u8 2, .int .u8 3, .int .u8 5] w fun e w' => e = .returned (.bool true) ∧ Below w.heap.size w w' := by
  have g : ¬ (1048576 : Int) < s0.size := by omega
  have hnr : nrB 1 2 3 5 = true := rfl
  go_enter Try.func3, Try.ntmps3
  go_wp2_with fail
  refine (bytes_yes _ _ _ _ _ _ _ _ hs _).mono ?_
  rintro e w1 ⟨rfl, rfl⟩
  go_wp2_with fail
  refine (nr_any _ _ _ _ _).mono ?_
  rintro e w1 ⟨rfl, rfl⟩
  go_wp2_with fail
  refine (mirror_any _ _ _ _ _ _ _ _ _ _).mono ?_
  rintro e w1 ⟨rfl, hb⟩
  have RN := row_below (row_alloc (row_new [Value.int .u8 mode, Value.int .u8 cell, Value.int .u8 emc, Value.int .u8 emf, Value.bool eps, Value.bool emcbs, Value.bool uesfb, Value.bool ueE, Value.bool ueN] w 23) _) hb (by simp; omega)
  have hbz : Below w.heap.size w w1 := (((Below.refl _ _).alloc (Nat.le_refl _) _).alloc (by simp) _).trans (hb.mono (by simp; omega))
  have A0 := RN.2 0 _ rfl
  have A1 := RN.2 1 _ rfl
  have A2 := RN.2 2 _ rfl
  have A3 := RN.2 3 _ rfl
  have A4 := RN.2 4 _ rfl
  have A5 := RN.2 5 _ rfl
  have A6 := RN.2 6 _ rfl
  have A7 := RN.2 7 _ rfl
  have A8 := RN.2 8 _ rfl
  have hz := RN.1
  have HRN1 := (show Hid _ from RN)
  clear hb RN
  go_wp2_with fail
  refine (run_any ems esfb eps emcbs uesfb ueE ueN s0 1 2 3 5 mode cell emc emf x0 x1 xn _ (Or.inr rfl) HX).mono ?_
  rintro e w2 ⟨rfl, hb2⟩
  clear A0 A1 A2 A3 A4 A5 A6 A7 A8
  have RM := row_below (row_new [Value.int .u8 mode, Value.int .u8 (mc cell), Value.int .u8 (sw emc), Value.int .u8 (sw emf), Value.bool eps, Value.bool emcbs, Value.bool uesfb, Value.bool ueN, Value.bool ueE] w1 23) hb2 (by simp)
  have RN := row_below (row_alloc HRN1.out _) hb2 (by simp; omega)
  have hbz2 : Below w.heap.size w w2 := (hbz.alloc (by omega) _).trans (hb2.mono (by simp; omega))
  have hz2 := RM.1
  have B0 := RM.2 0 _ rfl
  have B1 := RM.2 1 _ rfl
  have B2 := RM.2 2 _ rfl
  have B3 := RM.2 3 _ rfl
  have B4 := RM.2 4 _ rfl
  have B5 := RM.2 5 _ rfl
  have B6 := RM.2 6 _ rfl
  have B7 := RM.2 7 _ rfl
  have B8 := RM.2 8 _ rfl
  have HRN := (show Hid _ from RN)
  have HRM := (show Hid _ from RM)
  have hz3 : w.heap.size < w2.heap.size := by omega
  have hz4 : w.heap.size < w2.heap.size + 1 := by omega
  have hz5 : w1.heap.size < w2.heap.size + 1 := by omega
  have hz6 : w.heap.size < w2.heap.size + 1 + 1 := by omega
  have hz7 : w1.heap.size < w2.heap.size + 1 + 1 := by omega
  clear hb2 hbz RN RM HRN1
  go_upto_region 9 with fail
  go_cut [19] (fun s19 wx => ∃ Y, s19 = .pointer (some ⟨Y, 0, none⟩) ∧ Four w.heap.size w1.heap.size w2.heap.size Y [Value.int .u8 mode, Value.int .u8 cell, Value.int .u8 emc, Value.int .u8 emf, Value.bool eps, Value.bool emcbs, Value.bool uesfb, Value.bool ueE, Value.bool ueN] [Value.int .u8 mode, Value.int .u8 (mc cell), Value.int .u8 (sw emc), Value.int .u8 (sw emf), Value.bool eps, Value.bool emcbs, Value.bool uesfb, Value.bool ueN, Value.bool ueE] [Value.bool ems, Value.bool esfb, Value.string clause, Value.int .u8 x0, Value.int .u8 x1, Value.int .u8 xn] [Value.bool ems, Value.bool esfb, Value.string clause, Value.int .u8 y0, Value.int .u8 y1, Value.int .u8 yn] w wx)
  case first =>
    go_region_held3 (fun w' => w'.cell? ⟨w1.heap.size, 0, none⟩ = some (Value.int .u8 mode) ∧ w'.cell? ⟨w1.heap.size, 1, none⟩ = some (Value.int .u8 (mc cell)) ∧ w'.cell? ⟨w1.heap.size, 2, none⟩ = some (Value.int .u8 (sw emc)) ∧ w'.cell? ⟨w1.heap.size, 3, none⟩ = some (Value.int .u8 (sw emf)) ∧ w'.cell? ⟨w1.heap.size, 4, none⟩ = some (Value.bool eps) ∧ w'.cell? ⟨w1.heap.size, 5, none⟩ = some (Value.bool emcbs) ∧ w'.cell? ⟨w1.heap.size, 6, none⟩ = some (Value.bool uesfb) ∧ w'.cell? ⟨w1.heap.size, 7, none⟩ = some (Value.bool ueN) ∧ w'.cell? ⟨w1.heap.size, 8, none⟩ = some (Value.bool ueE)) (simp [go_sem, *]) (first
      | (go_at_call 9; refine (mp_any _ _).mono ?_; rintro e w' ⟨rfl, rfl⟩)
      | (go_at_call 8; refine (run_kept ems esfb eps emcbs uesfb ueN ueE s0 2 1 _ 6 mode (mc cell) (sw emc) (sw emf) y0 y1 yn _ (Or.inl rfl) HY).mono ?_; rintro e w3 ⟨rfl, HB3, hk3, hf3, hs3⟩))
    all_goals go_wp2_with fail
    all_goals go_meet
    · exact ⟨_, rfl, four_a (xs := [Value.bool ems, Value.bool esfb, Value.string clause, Value.int .u8 x0, Value.int .u8 x1, Value.int .u8 xn]) (ys := [Value.bool ems, Value.bool esfb, Value.string clause, Value.int .u8 y0, Value.int .u8 y1, Value.int .u8 yn]) hbz2 HRN.out HRM.out HB3.out⟩
    all_goals exact ⟨_, rfl, four_b (xs := [Value.bool ems, Value.bool esfb, Value.string clause, Value.int .u8 x0, Value.int .u8 x1, Value.int .u8 xn]) hbz2 HRN.out HRM.out HB3.out⟩
  case rest =>
    obtain ⟨Y, rfl, hbel, RN, RM, RP, RY⟩ := hcut
    have D0 := RN.2 0 _ rfl
    have D1 := RN.2 1 _ rfl
    have D2 := RN.2 2 _ rfl
    have D3 := RN.2 3 _ rfl
    have D4 := RN.2 4 _ rfl
    have D5 := RN.2 5 _ rfl
    have D6 := RN.2 6 _ rfl
    have D7 := RN.2 7 _ rfl
    have D8 := RN.2 8 _ rfl
    have E0 := RM.2 0 _ rfl
    have E1 := RM.2 1 _ rfl
    have E2 := RM.2 2 _ rfl
    have E3 := RM.2 3 _ rfl
    have E4 := RM.2 4 _ rfl
    have E5 := RM.2 5 _ rfl
    have E6 := RM.2 6 _ rfl
    have E7 := RM.2 7 _ rfl
    have E8 := RM.2 8 _ rfl
    have F0 := RP.2 0 _ rfl
    have F1 := RP.2 1 _ rfl
    have F2 := RP.2 2 _ rfl
    have F3 := RP.2 3 _ rfl
    have F4 := RP.2 4 _ rfl
    have F5 := RP.2 5 _ rfl
    have G0 := RY.2 0 _ rfl
    have G1 := RY.2 1 _ rfl
    have G2 := RY.2 2 _ rfl
    have G3 := RY.2 3 _ rfl
    have G4 := RY.2 4 _ rfl
    have G5 := RY.2 5 _ rfl
    have z1 := RN.1
    have z2 := RM.1
    have z3 := RP.1
    have z4 := RY.1
    have HR := (show Hid _ from And.intro hbel (And.intro RN (And.intro RM (And.intro RP RY))))
    clear hbz2 HRN HRM RN RM RP RY hz hz2 hz3 hz4 hz5 hz6 hz7 B0 B1 B2 B3 B4 B5 B6 B7 B8 hbel
    go_wp2_with fail
    refine (shape_any ems esfb eps emcbs uesfb ueE ueN _ _ mode cell emc emf _ x0 x1 xn (Or.inl rfl) HX _).mono ?_
    rintro e w4 ⟨rfl, hb4⟩
    clear D0 D1 D2 D3 D4 D5 D6 D7 D8 E0 E1 E2 E3 E4 E5 E6 E7 E8 F0 F1 F2 F3 F4 F5 G0 G1 G2 G3 G4 G5 z1 z2 z3 z4
    obtain ⟨hbel, RN, RM, RP, RY⟩ := HR.out
    have hbel := hbel.trans (hb4.mono (by have := RN.1; omega))
    have RN := row_below RN hb4 RN.1
    have RM := row_below RM hb4 RM.1
    have RP := row_below RP hb4 RP.1
    have RY := row_below RY hb4 RY.1
    have D0 := RN.2 0 _ rfl
    have D1 := RN.2 1 _ rfl
    have D2 := RN.2 2 _ rfl
    have D3 := RN.2 3 _ rfl
    have D4 := RN.2 4 _ rfl
    have D5 := RN.2 5 _ rfl
    have D6 := RN.2 6 _ rfl
    have D7 := RN.2 7 _ rfl
    have D8 := RN.2 8 _ rfl
    have E0 := RM.2 0 _ rfl
    have E1 := RM.2 1 _ rfl
    have E2 := RM.2 2 _ rfl
    have E3 := RM.2 3 _ rfl
    have E4 := RM.2 4 _ rfl
    have E5 := RM.2 5 _ rfl
    have E6 := RM.2 6 _ rfl
    have E7 := RM.2 7 _ rfl
    have E8 := RM.2 8 _ rfl
    have F0 := RP.2 0 _ rfl
    have F1 := RP.2 1 _ rfl
    have F2 := RP.2 2 _ rfl
    have F3 := RP.2 3 _ rfl
    have F4 := RP.2 4 _ rfl
    have F5 := RP.2 5 _ rfl
    have G0 := RY.2 0 _ rfl
    have G1 := RY.2 1 _ rfl
    have G2 := RY.2 2 _ rfl
    have G3 := RY.2 3 _ rfl
    have G4 := RY.2 4 _ rfl
    have G5 := RY.2 5 _ rfl
    have z1 := RN.1
    have z2 := RM.1
    have z3 := RP.1
    have z4 := RY.1
    clear HR hb4
    have HR := (show Hid _ from And.intro hbel (And.intro RN (And.intro RM (And.intro RP RY))))
    clear hbel RN RM RP RY
    go_wp2_with fail
    refine (shape_any ems esfb eps emcbs uesfb ueN ueE _ _ mode (mc cell) (sw emc) (sw emf) _ y0 y1 yn (Or.inr rfl) HY _).mono ?_
    rintro e w5 ⟨rfl, hb5⟩
    clear D0 D1 D2 D3 D4 D5 D6 D7 D8 E0 E1 E2 E3 E4 E5 E6 E7 E8 F0 F1 F2 F3 F4 F5 G0 G1 G2 G3 G4 G5 z1 z2 z3 z4
    obtain ⟨hbel, RN, RM, RP, RY⟩ := HR.out
    have hbel := hbel.trans (hb5.mono (by have := RN.1; omega))
    have RN := row_below RN hb5 RN.1
    have RM := row_below RM hb5 RM.1
    have RP := row_below RP hb5 RP.1
    have RY := row_below RY hb5 RY.1
    have D0 := RN.2 0 _ rfl
    have D1 := RN.2 1 _ rfl
    have D2 := RN.2 2 _ rfl
    have D3 := RN.2 3 _ rfl
    have D4 := RN.2 4 _ rfl
    have D5 := RN.2 5 _ rfl
    have D6 := RN.2 6 _ rfl
    have D7 := RN.2 7 _ rfl
    have D8 := RN.2 8 _ rfl
    have E0 := RM.2 0 _ rfl
    have E1 := RM.2 1 _ rfl
    have E2 := RM.2 2 _ rfl
    have E3 := RM.2 3 _ rfl
    have E4 := RM.2 4 _ rfl
    have E5 := RM.2 5 _ rfl
    have E6 := RM.2 6 _ rfl
    have E7 := RM.2 7 _ rfl
    have E8 := RM.2 8 _ rfl
    have F0 := RP.2 0 _ rfl
    have F1 := RP.2 1 _ rfl
    have F2 := RP.2 2 _ rfl
    have F3 := RP.2 3 _ rfl
    have F4 := RP.2 4 _ rfl
    have F5 := RP.2 5 _ rfl
    have G0 := RY.2 0 _ rfl
    have G1 := RY.2 1 _ rfl
    have G2 := RY.2 2 _ rfl
    have G3 := RY.2 3 _ rfl
    have G4 := RY.2 4 _ rfl
    have G5 := RY.2 5 _ rfl
    have HB5 := (show Hid _ from hbel)
    clear HR hbel RN RM RP RY hb5 HX HY
    cases eps
    · obtain ⟨rfl, rfl, rfl⟩ := HF.out rfl
      clear HF HT
      go_wp2_with fail
      go_quiet ((go_at_call 9; exact Calls.quiet_of_same (mp_any _ _)))
      go_wp2
      go_ret
      exact ⟨rfl, below_drewN HB5.out _⟩
    · obtain ⟨t1, t2⟩ := HT.out rfl
      clear HF HT
      go_wp2
      go_ret
      exact ⟨rfl, HB5.out⟩

set_option maxRecDepth 100000 in
set_option maxHeartbeats 2000000 in
theorem top_eu (ems esfb eps emcbs uesfb ueE ueN : Bool) (s0 : ByteArray) (mode cell emc emf x0 x1 xn y0 y1 yn : Int) (w : World) (hs : s0.size ≤ 1048576)
    (HX : Hid (dd ems esfb eps emcbs uesfb cell 6 (isIn 1 emc) (reach 1 ueE ueN) = (x0, x1, xn)))
    (HY : Hid (dd ems esfb eps emcbs uesfb (mc cell) 5 (isIn 2 (sw emc)) (reach 2 ueN ueE) = (y0, y1, yn)))
    (HF : Hid (eps = false → xn = yn ∧ x0 = mp y0 ∧ x1 = mp y1)) (HT : Hid (eps = true → (x0 == 12) = (cell != 1) ∧ (y0 == 12) = (mc cell != 1))) :
    Calls Try.prog 3 #[.bool ems, .bool esfb, .string s0, .agg #[.int .u8 mode, .int .u8 cell, .int .u8 emc, .int .u8 emf, .bool eps, .bool emcbs, .bool uesfb, .bool ueE, .bool ueN],
      .int .u8 2, .int .u8 1, .int .u8 4, .int .u8 6] w fun e w' => e = .returned (.bool true) ∧ Below w.heap.size w w' := by
  have g : ¬ (1048576 : Int) < s0.size := by omega
  have hnr : nrB 2 1 4 6 = false := rfl
  have heu : euB 2 1 4 6 = true := rfl
  go_enter Try.func3, Try.ntmps3
  go_wp2_with fail
  refine (bytes_yes _ _ _ _ _ _ _ _ hs _).mono ?_
  rintro e w1 ⟨rfl, rfl⟩
  go_wp2_with fail
  refine (nr_any _ _ _ _ _).mono ?_
  rintro e w1 ⟨rfl, rfl⟩
  go_wp2_with fail
  refine (eu_any _ _ _ _ _).mono ?_
  rintro e w1 ⟨rfl, rfl⟩
  go_wp2_with fail
  refine (mirror_any _ _ _ _ _ _ _ _ _ _).mono ?_
  rintro e w1 ⟨rfl, hb⟩
  have RN := row_below (row_alloc (row_new [Value.int .u8 mode, Value.int .u8 cell, Value.int .u8 emc, Value.int .u8 emf, Value.bool eps, Value.bool emcbs, Value.bool uesfb, Value.bool ueE, Value.bool ueN] w 23) _) hb (by simp; omega)
  have hbz : Below w.heap.size w w1 := (((Below.refl _ _).alloc (Nat.le_refl _) _).alloc (by simp) _).trans (hb.mono (by simp; omega))
  have A0 := RN.2 0 _ rfl
  have A1 := RN.2 1 _ rfl
  have A2 := RN.2 2 _ rfl
  have A3 := RN.2 3 _ rfl
  have A4 := RN.2 4 _ rfl
  have A5 := RN.2 5 _ rfl
  have A6 := RN.2 6 _ rfl
  have A7 := RN.2 7 _ rfl
  have A8 := RN.2 8 _ rfl
  have hz := RN.1
  have HRN1 := (show Hid _ from RN)
  clear hb RN
  go_wp2_with fail
  refine (run_any ems esfb eps emcbs uesfb ueE ueN s0 2 1 4 6 mode cell emc emf x0 x1 xn _ (Or.inl rfl) HX).mono ?_
  rintro e w2 ⟨rfl, hb2⟩
  clear A0 A1 A2 A3 A4 A5 A6 A7 A8
  have RM := row_below (row_new [Value.int .u8 mode, Value.int .u8 (mc cell), Value.int .u8 (sw emc), Value.int .u8 (sw emf), Value.bool eps, Value.bool emcbs, Value.bool uesfb, Value.bool ueN, Value.bool ueE] w1 23) hb2 (by simp)
  have RN := row_below (row_alloc HRN1.out _) hb2 (by simp; omega)
  have hbz2 : Below w.heap.size w w2 := (hbz.alloc (by omega) _).trans (hb2.mono (by simp; omega))
  have hz2 := RM.1
  have B0 := RM.2 0 _ rfl
  have B1 := RM.2 1 _ rfl
  have B2 := RM.2 2 _ rfl
  have B3 := RM.2 3 _ rfl
  have B4 := RM.2 4 _ rfl
  have B5 := RM.2 5 _ rfl
  have B6 := RM.2 6 _ rfl
  have B7 := RM.2 7 _ rfl
  have B8 := RM.2 8 _ rfl
  have HRN := (show Hid _ from RN)
  have HRM := (show Hid _ from RM)
  have hz3 : w.heap.size < w2.heap.size := by omega
  have hz4 : w.heap.size < w2.heap.size + 1 := by omega
  have hz5 : w1.heap.size < w2.heap.size + 1 := by omega
  have hz6 : w.heap.size < w2.heap.size + 1 + 1 := by omega
  have hz7 : w1.heap.size < w2.heap.size + 1 + 1 := by omega
  clear hb2 hbz RN RM HRN1
  go_upto_region 9 with fail
  go_cut [19] (fun s19 wx => ∃ Y, s19 = .pointer (some ⟨Y, 0, none⟩) ∧ Four w.heap.size w1.heap.size w2.heap.size Y [Value.int .u8 mode, Value.int .u8 cell, Value.int .u8 emc, Value.int .u8 emf, Value.bool eps, Value.bool emcbs, Value.bool uesfb, Value.bool ueE, Value.bool ueN] [Value.int .u8 mode, Value.int .u8 (mc cell), Value.int .u8 (sw emc), Value.int .u8 (sw emf), Value.bool eps, Value.bool emcbs, Value.bool uesfb, Value.bool ueN, Value.bool ueE] [Value.bool ems, Value.bool esfb, Value.string clause, Value.int .u8 x0, Value.int .u8 x1, Value.int .u8 xn] [Value.bool ems, Value.bool esfb, Value.string clause, Value.int .u8 y0, Value.int .u8 y1, Value.int .u8 yn] w wx)
  case first =>
    go_region_held3 (fun w' => w'.cell? ⟨w1.heap.size, 0, none⟩ = some (Value.int .u8 mode) ∧ w'.cell? ⟨w1.heap.size, 1, none⟩ = some (Value.int .u8 (mc cell)) ∧ w'.cell? ⟨w1.heap.size, 2, none⟩ = some (Value.int .u8 (sw emc)) ∧ w'.cell? ⟨w1.heap.size, 3, none⟩ = some (Value.int .u8 (sw emf)) ∧ w'.cell? ⟨w1.heap.size, 4, none⟩ = some (Value.bool eps) ∧ w'.cell? ⟨w1.heap.size, 5, none⟩ = some (Value.bool emcbs) ∧ w'.cell? ⟨w1.heap.size, 6, none⟩ = some (Value.bool uesfb) ∧ w'.cell? ⟨w1.heap.size, 7, none⟩ = some (Value.bool ueN) ∧ w'.cell? ⟨w1.heap.size, 8, none⟩ = some (Value.bool ueE)) (simp [go_sem, *]) (first
      | (go_at_call 9; refine (mp_any _ _).mono ?_; rintro e w' ⟨rfl, rfl⟩)
      | (go_at_call 8; refine (run_kept ems esfb eps emcbs uesfb ueN ueE s0 1 2 _ 5 mode (mc cell) (sw emc) (sw emf) y0 y1 yn _ (Or.inr rfl) HY).mono ?_; rintro e w3 ⟨rfl, HB3, hk3, hf3, hs3⟩))
    all_goals go_wp2_with fail
    all_goals go_meet
    · exact ⟨_, rfl, four_a (xs := [Value.bool ems, Value.bool esfb, Value.string clause, Value.int .u8 x0, Value.int .u8 x1, Value.int .u8 xn]) (ys := [Value.bool ems, Value.bool esfb, Value.string clause, Value.int .u8 y0, Value.int .u8 y1, Value.int .u8 yn]) hbz2 HRN.out HRM.out HB3.out⟩
    all_goals exact ⟨_, rfl, four_b (xs := [Value.bool ems, Value.bool esfb, Value.string clause, Value.int .u8 x0, Value.int .u8 x1, Value.int .u8 xn]) hbz2 HRN.out HRM.out HB3.out⟩
  case rest =>
    obtain ⟨Y, rfl, hbel, RN, RM, RP, RY⟩ := hcut
    have D0 := RN.2 0 _ rfl
    have D1 := RN.2 1 _ rfl
    have D2 := RN.2 2 _ rfl
    have D3 := RN.2 3 _ rfl
    have D4 := RN.2 4 _ rfl
    have D5 := RN.2 5 _ rfl
    have D6 := RN.2 6 _ rfl
    have D7 := RN.2 7 _ rfl
    have D8 := RN.2 8 _ rfl
    have E0 := RM.2 0 _ rfl
    have E1 := RM.2 1 _ rfl
    have E2 := RM.2 2 _ rfl
    have E3 := RM.2 3 _ rfl
    have E4 := RM.2 4 _ rfl
    have E5 := RM.2 5 _ rfl
    have E6 := RM.2 6 _ rfl
    have E7 := RM.2 7 _ rfl
    have E8 := RM.2 8 _ rfl
    have F0 := RP.2 0 _ rfl
    have F1 := RP.2 1 _ rfl
    have F2 := RP.2 2 _ rfl
    have F3 := RP.2 3 _ rfl
    have F4 := RP.2 4 _ rfl
    have F5 := RP.2 5 _ rfl
    have G0 := RY.2 0 _ rfl
    have G1 := RY.2 1 _ rfl
    have G2 := RY.2 2 _ rfl
    have G3 := RY.2 3 _ rfl
    have G4 := RY.2 4 _ rfl
    have G5 := RY.2 5 _ rfl
    have z1 := RN.1
    have z2 := RM.1
    have z3 := RP.1
    have z4 := RY.1
    have HR := (show Hid _ from And.intro hbel (And.intro RN (And.intro RM (And.intro RP RY))))
    clear hbz2 HRN HRM RN RM RP RY hz hz2 hz3 hz4 hz5 hz6 hz7 B0 B1 B2 B3 B4 B5 B6 B7 B8 hbel
    go_wp2_with fail
    refine (shape_any ems esfb eps emcbs uesfb ueE ueN _ _ mode cell emc emf _ x0 x1 xn (Or.inr rfl) HX _).mono ?_
    rintro e w4 ⟨rfl, hb4⟩
    clear D0 D1 D2 D3 D4 D5 D6 D7 D8 E0 E1 E2 E3 E4 E5 E6 E7 E8 F0 F1 F2 F3 F4 F5 G0 G1 G2 G3 G4 G5 z1 z2 z3 z4
    obtain ⟨hbel, RN, RM, RP, RY⟩ := HR.out
    have hbel := hbel.trans (hb4.mono (by have := RN.1; omega))
    have RN := row_below RN hb4 RN.1
    have RM := row_below RM hb4 RM.1
    have RP := row_below RP hb4 RP.1
    have RY := row_below RY hb4 RY.1
    have D0 := RN.2 0 _ rfl
    have D1 := RN.2 1 _ rfl
    have D2 := RN.2 2 _ rfl
    have D3 := RN.2 3 _ rfl
    have D4 := RN.2 4 _ rfl
    have D5 := RN.2 5 _ rfl
    have D6 := RN.2 6 _ rfl
    have D7 := RN.2 7 _ rfl
    have D8 := RN.2 8 _ rfl
    have E0 := RM.2 0 _ rfl
    have E1 := RM.2 1 _ rfl
    have E2 := RM.2 2 _ rfl
    have E3 := RM.2 3 _ rfl
    have E4 := RM.2 4 _ rfl
    have E5 := RM.2 5 _ rfl
    have E6 := RM.2 6 _ rfl
    have E7 := RM.2 7 _ rfl
    have E8 := RM.2 8 _ rfl
    have F0 := RP.2 0 _ rfl
    have F1 := RP.2 1 _ rfl
    have F2 := RP.2 2 _ rfl
    have F3 := RP.2 3 _ rfl
    have F4 := RP.2 4 _ rfl
    have F5 := RP.2 5 _ rfl
    have G0 := RY.2 0 _ rfl
    have G1 := RY.2 1 _ rfl
    have G2 := RY.2 2 _ rfl
    have G3 := RY.2 3 _ rfl
    have G4 := RY.2 4 _ rfl
    have G5 := RY.2 5 _ rfl
    have z1 := RN.1
    have z2 := RM.1
    have z3 := RP.1
    have z4 := RY.1
    clear HR hb4
    have HR := (show Hid _ from And.intro hbel (And.intro RN (And.intro RM (And.intro RP RY))))
    clear hbel RN RM RP RY
    go_wp2_with fail
    refine (shape_any ems esfb eps emcbs uesfb ueN ueE _ _ mode (mc cell) (sw emc) (sw emf) _ y0 y1 yn (Or.inl rfl) HY _).mono ?_
    rintro e w5 ⟨rfl, hb5⟩
    clear D0 D1 D2 D3 D4 D5 D6 D7 D8 E0 E1 E2 E3 E4 E5 E6 E7 E8 F0 F1 F2 F3 F4 F5 G0 G1 G2 G3 G4 G5 z1 z2 z3 z4
    obtain ⟨hbel, RN, RM, RP, RY⟩ := HR.out
    have hbel := hbel.trans (hb5.mono (by have := RN.1; omega))
    have RN := row_below RN hb5 RN.1
    have RM := row_below RM hb5 RM.1
    have RP := row_below RP hb5 RP.1
    have RY := row_below RY hb5 RY.1
    have D0 := RN.2 0 _ rfl
    have D1 := RN.2 1 _ rfl
    have D2 := RN.2 2 _ rfl
    have D3 := RN.2 3 _ rfl
    have D4 := RN.2 4 _ rfl
    have D5 := RN.2 5 _ rfl
    have D6 := RN.2 6 _ rfl
    have D7 := RN.2 7 _ rfl
    have D8 := RN.2 8 _ rfl
    have E0 := RM.2 0 _ rfl
    have E1 := RM.2 1 _ rfl
    have E2 := RM.2 2 _ rfl
    have E3 := RM.2 3 _ rfl
    have E4 := RM.2 4 _ rfl
    have E5 := RM.2 5 _ rfl
    have E6 := RM.2 6 _ rfl
    have E7 := RM.2 7 _ rfl
    have E8 := RM.2 8 _ rfl
    have F0 := RP.2 0 _ rfl
    have F1 := RP.2 1 _ rfl
    have F2 := RP.2 2 _ rfl
    have F3 := RP.2 3 _ rfl
    have F4 := RP.2 4 _ rfl
    have F5 := RP.2 5 _ rfl
    have G0 := RY.2 0 _ rfl
    have G1 := RY.2 1 _ rfl
    have G2 := RY.2 2 _ rfl
    have G3 := RY.2 3 _ rfl
    have G4 := RY.2 4 _ rfl
    have G5 := RY.2 5 _ rfl
    have HB5 := (show Hid _ from hbel)
    clear HR hbel RN RM RP RY hb5 HX HY
    cases eps
    · obtain ⟨rfl, rfl, rfl⟩ := HF.out rfl
      clear HF HT
      go_wp2_with fail
      go_quiet ((go_at_call 9; exact Calls.quiet_of_same (mp_any _ _)))
      go_wp2
      go_ret
      exact ⟨rfl, below_drewN HB5.out _⟩
    · obtain ⟨t1, t2⟩ := HT.out rfl
      clear HF HT
      go_wp2
      go_ret
      exact ⟨rfl, HB5.out⟩

end Go.Proofs.Qxb6615605a
