/-
  The law's own walk (3).
-/
import Derived.Test.Qxb6615605aRun
import Derived.Test.Qxb6615605aShape
import Derived.Deep.RegionHeld3
namespace Go.Proofs.Qxb6615605a
open Go.RowKit

/-! ### The plain law -/
theorem swap_bits : ∀ e : Fin 256, isIn 1 (sw (e.val : Int)) = isIn 2 (e.val : Int) ∧ isIn 2 (sw (e.val : Int)) = isIn 1 (e.val : Int) := by decide +kernel

theorem in_swap1 (e : Int) (h0 : 0 ≤ e) (h1 : e ≤ 255) : isIn 1 (sw e) = isIn 2 e := by
  have := (swap_bits ⟨e.toNat, by omega⟩).1
  rwa [show ((e.toNat : Nat) : Int) = e by omega] at this
theorem in_swap2 (e : Int) (h0 : 0 ≤ e) (h1 : e ≤ 255) : isIn 2 (sw e) = isIn 1 e := by
  have := (swap_bits ⟨e.toNat, by omega⟩).2
  rwa [show ((e.toNat : Nat) : Int) = e by omega] at this

theorem shape_any (ems esfb eps emcbs uesfb ueE ueN io re : Bool) (mode cell emc emf op x y n : Int) (hop : op = 5 ∨ op = 6)
    (Hr : Hid (dd ems esfb eps emcbs uesfb cell op io re = (x, y, n))) (w : World) :
    Calls Try.prog 10 #[.agg #[.bool ems, .bool esfb, .string clause, .int .u8 x, .int .u8 y, .int .u8 n], .bool ems, .bool esfb,
      .agg #[.int .u8 mode, .int .u8 cell, .int .u8 emc, .int .u8 emf, .bool eps, .bool emcbs, .bool uesfb, .bool ueE, .bool ueN]] w fun e w' =>
      e = .returned (.bool true) ∧ Below w.heap.size w w' := by
  have hr := Hr.out
  clear Hr
  cases ems
  · have h : y = 0 ∧ n = 1 ∧ (x != 0) = true ∧ (x == 1) = false := by
      have g : y = 0 ∧ n = 1 ∧ x ≠ 0 ∧ x ≠ 1 := by
        by_cases hc : cell = 1 <;> cases eps <;> cases uesfb <;> cases esfb <;> cases io <;> cases re <;> cases emcbs <;> simp [dd, hc] at hr <;> omega
      exact ⟨g.1, g.2.1, by simpa using g.2.2.1, by simpa using g.2.2.2⟩
    obtain ⟨rfl, rfl, h2, h3⟩ := h
    by_cases hc : cell = 1
    · subst hc; exact s1 esfb eps emcbs uesfb ueE ueN mode emc emf x w h2 h3
    · exact s2 esfb eps emcbs uesfb ueE ueN mode emc emf cell x w h2 h3 (by simpa using hc)
  · cases eps
    · obtain ⟨rfl, rfl, rfl⟩ : x = 1 ∧ y = 0 ∧ n = 1 := by
        simp [dd] at hr; omega
      by_cases hc : cell = 1
      · subst hc; exact s3 esfb emcbs uesfb ueE ueN mode emc emf w
      · exact s4 esfb emcbs uesfb ueE ueN mode emc emf cell w (by simpa using hc)
    · by_cases hc : cell = 1
      · subst hc
        cases emcbs
        · obtain ⟨rfl, rfl, rfl⟩ : x = 1 ∧ y = 0 ∧ n = 1 := by simp [dd] at hr; omega
          exact s5 esfb uesfb ueE ueN mode emc emf w
        · obtain ⟨rfl, rfl, rfl⟩ : x = 1 ∧ y = 9 ∧ n = 2 := by simp [dd] at hr; omega
          exact shape_two esfb uesfb ueE ueN mode emc emf w
      · obtain ⟨rfl, rfl, rfl⟩ : x = 12 ∧ y = 0 ∧ n = 1 := by simp [dd, hc] at hr; omega
        exact s6 esfb emcbs uesfb ueE ueN mode emc emf cell 12 w (by decide) (by decide) (by simpa using hc)

/-- Not attached: the mirrored run gives the mirrored paths. -/
theorem mirror_law (ems esfb emcbs uesfb io re : Bool) (cell cell' op x0 x1 xn y0 y1 yn : Int) (hop : op = 5 ∨ op = 6)
    (hx : dd ems esfb false emcbs uesfb cell op io re = (x0, x1, xn)) (hy : dd ems esfb false emcbs uesfb cell' (mp op) io re = (y0, y1, yn)) :
    xn = yn ∧ x0 = mp y0 ∧ x1 = mp y1 := by
  have g : mp 5 = 6 ∧ mp 6 = 5 ∧ mp 0 = 0 ∧ mp 1 = 1 ∧ mp 2 = 2 ∧ mp 7 = 7 := by decide
  obtain ⟨g5, g6, g0, g1, g2, g7⟩ := g
  rcases hop with rfl | rfl <;> cases ems <;> cases uesfb <;> cases esfb <;> cases io <;> cases re <;> simp [dd, g5, g6] at hx hy <;>
    (obtain ⟨rfl, rfl, rfl⟩ := hx; obtain ⟨rfl, rfl, rfl⟩ := hy; simp [g0, g1, g2, g5, g6, g7])

/-- Attached: out of scope just off an NR cell. -/
theorem scope_law (ems esfb emcbs uesfb io re : Bool) (cell op x0 x1 xn : Int) (hx : dd ems esfb true emcbs uesfb cell op io re = (x0, x1, xn)) :
    (x0 == 12) = (cell != 1) := by
  have g : (x0 = 12 ↔ cell ≠ 1) := by
    by_cases hc : cell = 1 <;> cases ems <;> cases emcbs <;> cases io <;> cases re <;> simp [dd, hc] at hx <;> omega
  rw [Bool.eq_iff_iff]
  simpa using g

end Go.Proofs.Qxb6615605a
