/-
  THE STATEMENT 'Rows.FnDecideDualMirrorsNRAndEUTRASaid', out of the walks.
-/
import Derived.Test.Qxb6615605aTop
import Derived.Test.Qxb6615605aOpen
import Derived.ChangeOld
import Derived.Below
namespace Go.Proofs.Qxb6615605a
open Go.ChangeShapes Go.WideShapes Go.ChangeAt Go.RowKit
open Go.ChangeMaps (open_string shut_string)

theorem own : ownKnob Try.prog.godebug = none := by kernel_rfl

/-- The clause is too long: true at once. -/
theorem top_long (ems esfb eps emcbs uesfb ueE ueN : Bool) (s0 : ByteArray) (mode cell emc emf h o e p : Int) (hs : 1048576 < s0.size) (w : World) :
    Calls Try.prog 3 #[.bool ems, .bool esfb, .string s0, callV mode cell emc emf eps emcbs uesfb ueE ueN, .int .u8 h, .int .u8 o, .int .u8 e, .int .u8 p] w fun r w' => r = .returned (.bool true) ∧ Below w.heap.size w w' := by
  unfold callV
  go_enter Try.func3, Try.ntmps3
  go_wp2_with fail
  refine (bytes_no _ _ _ _ _ _ _ _ hs _).mono ?_
  rintro e w1 ⟨rfl, rfl⟩
  go_wp2
  go_ret
  exact ⟨rfl, ((Below.refl _ _).alloc (Nat.le_refl _) _).alloc (by simp) _⟩

/-- Neither cell's rules: true at once. -/
theorem top_none (ems esfb eps emcbs uesfb ueE ueN : Bool) (s0 : ByteArray) (mode cell emc emf h o e p : Int) (hs : s0.size ≤ 1048576) (hn : nrB h o e p = false) (he : euB h o e p = false) (w : World) :
    Calls Try.prog 3 #[.bool ems, .bool esfb, .string s0, callV mode cell emc emf eps emcbs uesfb ueE ueN, .int .u8 h, .int .u8 o, .int .u8 e, .int .u8 p] w fun r w' => r = .returned (.bool true) ∧ Below w.heap.size w w' := by
  unfold callV
  have g : ¬ (1048576 : Int) < s0.size := by omega
  go_enter Try.func3, Try.ntmps3
  go_wp2_with fail
  refine (bytes_yes _ _ _ _ _ _ _ _ hs _).mono ?_
  rintro e w1 ⟨rfl, rfl⟩
  go_wp2_with fail
  refine (nr_any _ _ _ _ _).mono ?_
  rintro e w1 ⟨rfl, rfl⟩
  go_wp2_with fail
  refine (eu_any _ _ _ _ _).mono ?_
  rintro e w1 ⟨rfl, rfl⟩
  go_wp2
  go_ret
  exact ⟨rfl, ((Below.refl _ _).alloc (Nat.le_refl _) _).alloc (by simp) _⟩

theorem nr_is {h o e p : Int} (hn : nrB h o e p = true) : h = 1 ∧ o = 2 ∧ e = 3 ∧ p = 5 := by
  simp [nrB] at hn; omega
theorem eu_is {h o e p : Int} (hn : euB h o e p = true) : h = 2 ∧ o = 1 ∧ e = 4 ∧ p = 6 := by
  simp [euB] at hn; omega

theorem byte_of_wf {x : Int} (h : (Lit.int .u8 x).wf = true) : 0 ≤ x ∧ x ≤ 255 := by
  simp [Lit.wf, IntKind.min, IntKind.max, IntKind.signed, IntKind.bits] at h
  omega

/-- The whole walk. -/
theorem walk (ems esfb eps emcbs uesfb ueE ueN : Bool) (s0 : ByteArray) (mode cell emc emf h o e p : Int) (hm : (Lit.int .u8 emc).wf = true) (w : World) :
    Calls Try.prog 3 #[.bool ems, .bool esfb, .string s0, callV mode cell emc emf eps emcbs uesfb ueE ueN, .int .u8 h, .int .u8 o, .int .u8 e, .int .u8 p] w fun r w' => r = .returned (.bool true) ∧ Below w.heap.size w w' := by
  by_cases hs : s0.size ≤ 1048576
  · obtain ⟨m0, m1⟩ := byte_of_wf hm
    cases hn : nrB h o e p
    · cases he : euB h o e p
      · exact top_none ems esfb eps emcbs uesfb ueE ueN s0 mode cell emc emf h o e p hs hn he w
      · obtain ⟨rfl, rfl, rfl, rfl⟩ := eu_is he
        obtain ⟨⟨x0, x1, xn⟩, hx⟩ : ∃ r, dd ems esfb eps emcbs uesfb cell 6 (isIn 1 emc) (reach 1 ueE ueN) = r := ⟨_, rfl⟩
        obtain ⟨⟨y0, y1, yn⟩, hy⟩ : ∃ r, dd ems esfb eps emcbs uesfb (mc cell) 5 (isIn 2 (sw emc)) (reach 2 ueN ueE) = r := ⟨_, rfl⟩
        refine top_eu ems esfb eps emcbs uesfb ueE ueN s0 mode cell emc emf x0 x1 xn y0 y1 yn w hs hx hy ?_ ?_
        · rintro rfl
          rw [in_swap2 emc m0 m1, show reach 2 ueN ueE = reach 1 ueE ueN from rfl] at hy
          exact mirror_law ems esfb emcbs uesfb _ _ cell (mc cell) 6 x0 x1 xn y0 y1 yn (Or.inr rfl) hx hy
        · rintro rfl
          exact ⟨scope_law ems esfb emcbs uesfb _ _ cell 6 x0 x1 xn hx, scope_law ems esfb emcbs uesfb _ _ (mc cell) 5 y0 y1 yn hy⟩
    · obtain ⟨rfl, rfl, rfl, rfl⟩ := nr_is hn
      obtain ⟨⟨x0, x1, xn⟩, hx⟩ : ∃ r, dd ems esfb eps emcbs uesfb cell 5 (isIn 2 emc) (reach 2 ueE ueN) = r := ⟨_, rfl⟩
      obtain ⟨⟨y0, y1, yn⟩, hy⟩ : ∃ r, dd ems esfb eps emcbs uesfb (mc cell) 6 (isIn 1 (sw emc)) (reach 1 ueN ueE) = r := ⟨_, rfl⟩
      refine top_nr ems esfb eps emcbs uesfb ueE ueN s0 mode cell emc emf x0 x1 xn y0 y1 yn w hs hx hy ?_ ?_
      · rintro rfl
        rw [in_swap1 emc m0 m1, show reach 1 ueN ueE = reach 2 ueE ueN from rfl] at hy
        exact mirror_law ems esfb emcbs uesfb _ _ cell (mc cell) 5 x0 x1 xn y0 y1 yn (Or.inl rfl) hx hy
      · rintro rfl
        exact ⟨scope_law ems esfb emcbs uesfb _ _ cell 5 x0 x1 xn hx, scope_law ems esfb emcbs uesfb _ _ (mc cell) 6 y0 y1 yn hy⟩
  · exact top_long ems esfb eps emcbs uesfb ueE ueN s0 mode cell emc emf h o e p (by omega) w

set_option maxRecDepth 100000 in
theorem lifted (os : Os) (started : os.Started) (H : Type) (enc : TypeId × Value → H) :
    ReturnsInHanded {} Try.checked os 3 .any (Rows.fnDecideDualMirrorsNRAndEUTRASpec.pre6 enc Try.prog Try.f3 Rows.fnDecideDualMirrorsNRAndEUTRARow.domain false) (Rows.fnDecideDualMirrorsNRAndEUTRASpec.post enc Try.prog Try.f3 false true false false) := by
  refine returnsInHanded_of_change (C := Try.checked) own started (by kernel_rfl) Try.func3
    (ChangeSpec.witness6 (enc := enc) (C := Try.checked) false ⟨#[], #[.bool false, .bool false, .string ByteArray.empty, callV 0 0 0 0 false false false false false, .int .u8 0, .int .u8 0, .int .u8 0, .int .u8 0], []⟩ 8 (by kernel_rfl) (by kernel_rfl) (by kernel_rfl) (by kernel_rfl)) ?_
  intro W base args ds gs before hval0 hW hcnd _
  have hval : ∀ (j : Nat) t v, Try.f3.params[j]? = some t → args[j]? = some v → Value.okWide Try.prog W .any base t v := hval0
  have hW' := hW
  obtain ⟨p, q, hA0, hV, rfl, hfz, hnd⟩ := hW
  have hA : DataW.TrodAll enc Try.prog W 0 (fun _ => true) true Try.f3.params.toList args.toList ds p := hA0
  rw [Try.params3] at hA hval
  obtain ⟨v0, vs0, d0, ds0, p0, q0, hargs, rfl, rfl, h0, r0⟩ := trodAll_cons hA
  obtain ⟨v1, vs1, d1, ds1, p1, q1, rfl, rfl, rfl, h1, r1⟩ := trodAll_cons r0
  obtain ⟨v2, vs2, d2, ds2, p2, q2, rfl, rfl, rfl, h2, r2⟩ := trodAll_cons r1
  obtain ⟨v3, vs3, d3, ds3, p3, q3, rfl, rfl, rfl, h3, r3⟩ := trodAll_cons r2
  obtain ⟨v4, vs4, d4, ds4, p4, q4, rfl, rfl, rfl, h4, r4⟩ := trodAll_cons r3
  obtain ⟨v5, vs5, d5, ds5, p5, q5, rfl, rfl, rfl, h5, r5⟩ := trodAll_cons r4
  obtain ⟨v6, vs6, d6, ds6, p6, q6, rfl, rfl, rfl, h6, r6⟩ := trodAll_cons r5
  obtain ⟨v7, vs7, d7, ds7, p7, q7, rfl, rfl, rfl, h7, r7⟩ := trodAll_cons r6
  obtain ⟨rfl, rfl, rfl⟩ := trodAll_nil r7
  obtain rfl : args = #[v0, v1, v2, v3, v4, v5, v6, v7] := by cases args; simp_all
  obtain ⟨rfl, rfl⟩ := trodVars_none hV
  obtain ⟨a0, rfl, rfl, rfl⟩ := open_bool Try.underlying4 (hval 0 4 v0 rfl rfl) h0
  obtain ⟨a1, rfl, rfl, rfl⟩ := open_bool Try.underlying4 (hval 1 4 v1 rfl rfl) h1
  obtain ⟨a2, rfl, rfl, rfl, w2⟩ := open_string Try.underlying9 (hval 2 9 v2 rfl rfl) h2
  obtain ⟨mode, cell, emc, emf, eps, emcbs, uesfb, ueE, ueN, rfl, rfl, rfl, c0, c1, c2, c3⟩ := open_call (hval 3 23 v3 rfl rfl) h3
  obtain ⟨a4, rfl, rfl, rfl, w4⟩ := open_int Try.underlying5 (hval 4 5 v4 rfl rfl) h4
  obtain ⟨a5, rfl, rfl, rfl, w5⟩ := open_int Try.underlying5 (hval 5 5 v5 rfl rfl) h5
  obtain ⟨a6, rfl, rfl, rfl, w6⟩ := open_int Try.underlying5 (hval 6 5 v6 rfl rfl) h6
  obtain ⟨a7, rfl, rfl, rfl, w7⟩ := open_int Try.underlying5 (hval 7 5 v7 rfl rfl) h7
  clear hA0 hval0
  refine (walk a0 a1 eps emcbs uesfb ueE ueN a2 mode cell emc emf a4 a5 a6 a7 c2 W).mono fun e W' ⟨he, bel⟩ => ?_
  subst he
  exact ⟨_, rfl, _, _, _, [], _, [], hW', trodAll_mk1 (shut_bool Try.underlying4 _), trodAll_cons_mk (shut_bool Try.underlying4 _) (trodAll_cons_mk (shut_bool Try.underlying4 _) (trodAll_cons_mk (shut_string Try.underlying9 w2) (trodAll_cons_mk (shut_call c0 c1 c2 c3) (trodAll_cons_mk (shut_int Try.underlying5 w4) (trodAll_cons_mk (shut_int Try.underlying5 w5) (trodAll_cons_mk (shut_int Try.underlying5 w6) (trodAll_cons_mk (shut_int Try.underlying5 w7) trodAll_mk0))))))), rfl, bel.frame _, fun h => by cases h⟩

theorem over : Rows.fnDecideDualMirrorsNRAndEUTRARow.holds Try.pinned (OpenSpec.ofChange Rows.fnDecideDualMirrorsNRAndEUTRASpec) :=
  OpenClaim.holds_of_wide 3 Try.f3 rfl rfl rfl rfl rfl rfl rfl ⟨rfl, rfl, rfl, rfl, rfl⟩ rfl rfl rfl rfl rfl (by kernel_rfl) Try.func3 (by kernel_rfl)
    (of_decide_eq_true (by kernel_rfl)) (by unfold Func.isWrapper; first | (rw [if_pos (by decide +kernel)]; kernel_rfl) | (rw [if_neg (by decide +kernel)]; exact ⟨rfl, rfl⟩))
    (fun os started H enc _ => lifted os started H enc)

/-- THE STATEMENT. -/
theorem dual_proved : Rows.FnDecideDualMirrorsNRAndEUTRASaid := over
#print axioms dual_proved

end Go.Proofs.Qxb6615605a
