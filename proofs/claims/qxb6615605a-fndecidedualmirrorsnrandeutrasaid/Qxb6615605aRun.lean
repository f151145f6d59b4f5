/-
  decideDual whole; zzToCall (14), ZZdecideDual (13), ZZoptions (15), zzRunDual (8), zzMirrorCall (7).
-/
import Derived.Test.Qxb6615605aDecide
import Derived.Deep.QuietTactic
import Derived.BigQuiet
import Derived.RegionTactic
import Derived.WalkSmall
namespace Go.Proofs.Qxb6615605a
open Go.RowKit

theorem decide_any (b : Nat) (ems esfb eps emcbs uesfb ueE ueN : Bool) (s0 : ByteArray) (here other oe op mode cell emc emf : Int) (w : World)
    (ho : other = 1 ∨ other = 2)
    (hb : b < w.heap.size)
    (h0 : w.cell? ⟨b, 0, none⟩ = some (.bool ems)) (h1 : w.cell? ⟨b, 1, none⟩ = some (.bool esfb)) (h2 : w.cell? ⟨b, 2, none⟩ = some (.string s0))
    (h3 : w.cell? ⟨b, 3, none⟩ = some (.int .u8 0)) (h4 : w.cell? ⟨b, 4, none⟩ = some (.int .u8 0)) (h5 : w.cell? ⟨b, 5, none⟩ = some (.int .u8 0))
    (fz : ∀ k, w.frozen? ⟨b, k, none⟩ = false) :
    Calls Try.prog 16 #[.pointer (some ⟨b, 0, none⟩), .agg #[.int .u8 here, .int .u8 other, .int .u8 oe, .int .u8 op],
      .agg #[.int .u8 mode, .int .u8 cell, .int .u8 emc, .int .u8 emf, .bool eps, .bool emcbs, .bool uesfb, .bool ueE, .bool ueN]] w fun e w' =>
      e = .returned (.tuple #[]) ∧ Left b ems esfb (dd ems esfb eps emcbs uesfb cell op (isIn other emc) (reach other ueE ueN)) w w' := by
  cases eps
  · cases ems
    · cases uesfb
      · cases hio : isIn other emc
        · exact d_no_a b esfb emcbs ueE ueN s0 here other oe op mode cell emc emf w hb h0 h1 h2 h3 h4 h5 fz hio
        · cases hre : reach other ueE ueN
          · exact d_io_a b esfb emcbs ueE ueN s0 here other oe op mode cell emc emf w hb h0 h1 h2 h3 h4 h5 fz ho hio hre
          · exact d_re_a b esfb emcbs ueE ueN s0 here other oe op mode cell emc emf w hb h0 h1 h2 h3 h4 h5 fz ho hio hre
      · cases esfb
        · cases hio : isIn other emc
          · exact d_no_b b emcbs ueE ueN s0 here other oe op mode cell emc emf w hb h0 h1 h2 h3 h4 h5 fz hio
          · cases hre : reach other ueE ueN
            · exact d_io_b b emcbs ueE ueN s0 here other oe op mode cell emc emf w hb h0 h1 h2 h3 h4 h5 fz ho hio hre
            · exact d_re_b b emcbs ueE ueN s0 here other oe op mode cell emc emf w hb h0 h1 h2 h3 h4 h5 fz ho hio hre
        · exact d_esfb b emcbs ueE ueN s0 here other oe op mode cell emc emf w hb h0 h1 h2 h3 h4 h5 fz
    · exact d_ems b esfb emcbs uesfb ueE ueN s0 here other oe op mode cell emc emf w hb h0 h1 h2 h3 h4 h5 fz
  · by_cases hc : cell = 1
    · subst hc
      cases ems
      · cases emcbs
        · cases hio : isIn other emc
          · exact d_no_c b esfb uesfb ueE ueN s0 here other oe op mode emc emf w hb h0 h1 h2 h3 h4 h5 fz hio
          · cases hre : reach other ueE ueN
            · exact d_io_c b esfb uesfb ueE ueN s0 here other oe op mode emc emf w hb h0 h1 h2 h3 h4 h5 fz ho hio hre
            · exact d_re_c b esfb uesfb ueE ueN s0 here other oe op mode emc emf w hb h0 h1 h2 h3 h4 h5 fz ho hio hre
        · exact d_nine b esfb uesfb ueE ueN s0 here other oe op mode emc emf w hb h0 h1 h2 h3 h4 h5 fz
      · cases emcbs
        · exact d_one b esfb uesfb ueE ueN s0 here other oe op mode emc emf w hb h0 h1 h2 h3 h4 h5 fz
        · exact d_two b esfb uesfb ueE ueN s0 here other oe op mode emc emf w hb h0 h1 h2 h3 h4 h5 fz
    · have e : dd ems esfb true emcbs uesfb cell op (isIn other emc) (reach other ueE ueN) = (12, 0, 1) := by simp [dd, hc]
      rw [e]
      exact d_out b ems esfb emcbs uesfb ueE ueN s0 here other oe op mode cell emc emf w hb h0 h1 h2 h3 h4 h5 fz (by simpa using hc)

/-- zzToCall. -/
theorem toCall (mode cell emc emf : Int) (eps emcbs uesfb ueE ueN : Bool) (w : World) :
    Calls Try.prog 14 #[.agg #[.int .u8 mode, .int .u8 cell, .int .u8 emc, .int .u8 emf, .bool eps, .bool emcbs, .bool uesfb, .bool ueE, .bool ueN]] w fun e w' =>
      e = .returned (.agg #[.int .u8 mode, .int .u8 cell, .int .u8 emc, .int .u8 emf, .bool eps, .bool emcbs, .bool uesfb, .bool ueE, .bool ueN]) ∧ Below w.heap.size w w' := by
  go_enter Try.func14, Try.ntmps14
  go_wp2
  exact bodyPost_ret (v := .agg #[.int .u8 mode, .int .u8 cell, .int .u8 emc, .int .u8 emf, .bool eps, .bool emcbs, .bool uesfb, .bool ueE, .bool ueN]) (by simp [results, Try.results14, go_sem]) rfl ⟨rfl, ((Below.refl _ _).alloc (Nat.le_refl _) _).alloc (by simp) _⟩

/-- ZZoptions. -/
theorem options_any (b : Nat) (x y n : Int) (w : World) (h3 : w.cell? ⟨b, 3, none⟩ = some (.int .u8 x)) (h4 : w.cell? ⟨b, 4, none⟩ = some (.int .u8 y)) (h5 : w.cell? ⟨b, 5, none⟩ = some (.int .u8 n)) :
    Calls Try.prog 15 #[.pointer (some ⟨b, 0, none⟩)] w fun e w' => e = .returned (.tuple #[.int .u8 x, .int .u8 y, .int .u8 n]) ∧ ∃ k, w' = w.drewN k := by
  go_enter Try.func15, Try.ntmps15
  go_wp2
  go_quiet (fail)
  go_wp2
  go_ret3
  exact ⟨rfl, _, rfl⟩

theorem Left.below {b : Nat} {ems esfb : Bool} {r : Int × Int × Int} {w X w' : World} (hB : Below b w X) (h : Left b ems esfb r X w') : Left b ems esfb r w w' := ⟨hB.trans h.1, h.2⟩

/-- ZZdecideDual. -/
theorem zzdecide_any (b : Nat) (ems esfb eps emcbs uesfb ueE ueN : Bool) (s0 : ByteArray) (here other oe op mode cell emc emf : Int) (w : World)
    (ho : other = 1 ∨ other = 2)
    (hb : b < w.heap.size)
    (h0 : w.cell? ⟨b, 0, none⟩ = some (.bool ems)) (h1 : w.cell? ⟨b, 1, none⟩ = some (.bool esfb)) (h2 : w.cell? ⟨b, 2, none⟩ = some (.string s0))
    (h3 : w.cell? ⟨b, 3, none⟩ = some (.int .u8 0)) (h4 : w.cell? ⟨b, 4, none⟩ = some (.int .u8 0)) (h5 : w.cell? ⟨b, 5, none⟩ = some (.int .u8 0))
    (fz : ∀ k, w.frozen? ⟨b, k, none⟩ = false) :
    Calls Try.prog 13 #[.pointer (some ⟨b, 0, none⟩), .int .u8 here, .int .u8 other, .int .u8 oe, .int .u8 op,
      .agg #[.int .u8 mode, .int .u8 cell, .int .u8 emc, .int .u8 emf, .bool eps, .bool emcbs, .bool uesfb, .bool ueE, .bool ueN]] w fun e w' =>
      e = .returned (.tuple #[]) ∧ Left b ems esfb (dd ems esfb eps emcbs uesfb cell op (isIn other emc) (reach other ueE ueN)) w w' := by
  generalize hr : dd ems esfb eps emcbs uesfb cell op (isIn other emc) (reach other ueE ueN) = r
  have Hr : Hid (dd ems esfb eps emcbs uesfb cell op (isIn other emc) (reach other ueE ueN) = r) := hr
  have Ho : Hid (other = 1 ∨ other = 2) := ho
  clear hr ho
  go_enter Try.func13, Try.ntmps13
  go_wp2_with fail
  refine (decide_any b ems esfb eps emcbs uesfb ueE ueN s0 here other oe op mode cell emc emf _ Ho.out (by simp; omega) (by simp [go_sem, *]) (by simp [go_sem, *]) (by simp [go_sem, *]) (by simp [go_sem, *]) (by simp [go_sem, *]) (by simp [go_sem, *]) (fun k => by simp [go_sem, *])).mono ?_
  rw [Hr.out]
  rintro e w' ⟨rfl, hl⟩
  have fin : Left b ems esfb r w w' := Left.below ((Below.refl _ _).alloc (by omega) _) hl
  clear hl Hr
  go_wp2
  go_end0
  exact ⟨rfl, fin⟩

/-- zzRunDual. -/
theorem run_any (ems esfb eps emcbs uesfb ueE ueN : Bool) (s0 : ByteArray) (here other oe op mode cell emc emf x y n : Int) (w : World)
    (ho : other = 1 ∨ other = 2) (Hr : Hid (dd ems esfb eps emcbs uesfb cell op (isIn other emc) (reach other ueE ueN) = (x, y, n))) :
    Calls Try.prog 8 #[.bool ems, .bool esfb, .string s0, .agg #[.int .u8 mode, .int .u8 cell, .int .u8 emc, .int .u8 emf, .bool eps, .bool emcbs, .bool uesfb, .bool ueE, .bool ueN],
      .int .u8 here, .int .u8 other, .int .u8 oe, .int .u8 op] w fun e w' =>
      e = .returned (.agg #[.bool ems, .bool esfb, .string clause, .int .u8 x, .int .u8 y, .int .u8 n]) ∧ Below w.heap.size w w' := by
  have Ho : Hid (other = 1 ∨ other = 2) := ho
  clear ho
  go_enter Try.func8, Try.ntmps8
  go_wp2_with fail
  refine (toCall _ _ _ _ _ _ _ _ _ _).mono ?_
  rintro e w1 ⟨rfl, hb⟩
  have hz : w.heap.size + 1 + 1 < w1.heap.size := by have := hb.size; simp at this; omega
  have hbz : Below w.heap.size w w1 := ((((Below.refl _ _).alloc (Nat.le_refl _) _).alloc (by simp) _).alloc (by simp; omega) _).trans (hb.mono (by simp; omega))
  have a0 : ∀ o, w1.cell? ⟨w.heap.size + 1 + 1, o, none⟩ = _ := fun o => hb.cell (p := ⟨w.heap.size + 1 + 1, o, none⟩) (by simp)
  have a1 : ∀ o, w1.cell? ⟨w.heap.size + 1, o, none⟩ = _ := fun o => hb.cell (p := ⟨w.heap.size + 1, o, none⟩) (by simp)
  have a2 : ∀ o, w1.frozen? ⟨w.heap.size + 1 + 1, o, none⟩ = _ := fun o => hb.frozen (p := ⟨w.heap.size + 1 + 1, o, none⟩) (by simp)
  have a3 : ∀ o, w1.frozen? ⟨w.heap.size + 1, o, none⟩ = _ := fun o => hb.frozen (p := ⟨w.heap.size + 1, o, none⟩) (by simp)
  clear hb
  go_wp2_with fail
  refine (zzdecide_any (w.heap.size + 1 + 1) ems esfb eps emcbs uesfb ueE ueN s0 here other oe op mode cell emc emf _ Ho.out hz (by rw [a0]; simp [go_sem]) (by rw [a0]; simp [go_sem]) (by rw [a0]; simp [go_sem]) (by rw [a0]; simp [go_sem]) (by rw [a0]; simp [go_sem]) (by rw [a0]; simp [go_sem]) (fun k => by rw [a2]; simp [go_sem])).mono ?_
  rw [Hr.out]
  rintro e w2 ⟨rfl, hB, c0, c1, c2, c3, c4, c5⟩
  have hz2 : w.heap.size + 1 + 1 < w2.heap.size := by have := hB.size; omega
  have hbz2 : Below w.heap.size w w2 := hbz.trans (hB.mono (by omega))
  have r0 : w2.cell? ⟨w.heap.size + 1, 0, none⟩ = some (.bool false) := by rw [hB.cell (p := ⟨w.heap.size + 1, 0, none⟩) (by simp), a1]; simp [go_sem]
  have r1 : w2.cell? ⟨w.heap.size + 1, 1, none⟩ = some (.bool false) := by rw [hB.cell (p := ⟨w.heap.size + 1, 1, none⟩) (by simp), a1]; simp [go_sem]
  have r2 : w2.cell? ⟨w.heap.size + 1, 2, none⟩ = some (.string { data := #[] }) := by rw [hB.cell (p := ⟨w.heap.size + 1, 2, none⟩) (by simp), a1]; simp [go_sem]
  have r3 : w2.cell? ⟨w.heap.size + 1, 3, none⟩ = some (.int .u8 0) := by rw [hB.cell (p := ⟨w.heap.size + 1, 3, none⟩) (by simp), a1]; simp [go_sem]
  have r4 : w2.cell? ⟨w.heap.size + 1, 4, none⟩ = some (.int .u8 0) := by rw [hB.cell (p := ⟨w.heap.size + 1, 4, none⟩) (by simp), a1]; simp [go_sem]
  have r5 : w2.cell? ⟨w.heap.size + 1, 5, none⟩ = some (.int .u8 0) := by rw [hB.cell (p := ⟨w.heap.size + 1, 5, none⟩) (by simp), a1]; simp [go_sem]
  have rf : ∀ o, w2.frozen? ⟨w.heap.size + 1, o, none⟩ = false := fun o => by rw [hB.frozen (p := ⟨w.heap.size + 1, o, none⟩) (by simp), a3]; simp [go_sem]
  clear hB hbz hz a0 a1 a2 a3 Hr Ho
  go_wp2_with fail
  refine (options_any _ x y n _ c3 c4 c5).mono ?_
  rintro e w3 ⟨rfl, k, rfl⟩
  clear c3 c4 c5
  go_wp2_with fail
  go_region
  all_goals go_wp2
  refine bodyPost_ret (v := .agg #[.bool ems, .bool esfb, .string clause, .int .u8 x, .int .u8 y, .int .u8 n]) (by simp [results, Try.results8, go_sem, r0, r1, r2, r3, r4, r5]) rfl ⟨rfl, ?_⟩
  exact ((((((below_drewN hbz2 (k + 1)).setCell (by simp) _).setCell (by simp) _).setCell (by simp) _).setCell (by simp) _).setCell (by simp) _).setCell (by simp) _

/-- zzMirrorCall. -/
theorem mirror_any (mode cell emc emf : Int) (eps emcbs uesfb ueE ueN : Bool) (w : World) :
    Calls Try.prog 7 #[.agg #[.int .u8 mode, .int .u8 cell, .int .u8 emc, .int .u8 emf, .bool eps, .bool emcbs, .bool uesfb, .bool ueE, .bool ueN]] w fun e w' =>
      e = .returned (.agg #[.int .u8 mode, .int .u8 (mc cell), .int .u8 (sw emc), .int .u8 (sw emf), .bool eps, .bool emcbs, .bool uesfb, .bool ueN, .bool ueE]) ∧ Below w.heap.size w w' := by
  go_enter Try.func7, Try.ntmps7
  go_wp2_with fail
  refine (mc_any _ _).mono ?_
  rintro e w1 ⟨rfl, rfl⟩
  go_wp2_with fail
  refine (swap_any _ _).mono ?_
  rintro e w1 ⟨rfl, rfl⟩
  go_wp2_with fail
  refine (swap_any _ _).mono ?_
  rintro e w1 ⟨rfl, rfl⟩
  go_wp2
  refine bodyPost_ret (v := .agg #[.int .u8 mode, .int .u8 (mc cell), .int .u8 (sw emc), .int .u8 (sw emf), .bool eps, .bool emcbs, .bool uesfb, .bool ueN, .bool ueE]) (by simp [results, Try.results7, go_sem]) rfl ⟨rfl, ?_⟩
  exact (((Below.refl _ _).alloc (Nat.le_refl _) _).alloc (by simp) _).alloc (by simp; omega) _

end Go.Proofs.Qxb6615605a
