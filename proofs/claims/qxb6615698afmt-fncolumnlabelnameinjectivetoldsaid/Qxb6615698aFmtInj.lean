/-
  FnColumnLabelNameInjective (4), its walk: for every F, fmt's text told.
-/
import Derived.Test.Qxb6615698aFmtText
namespace Go.Proofs.Qxb6615698aFmt
open Go.RowKit Go.Extern.Stop Go.Stop Go.Extern Go.Kit

/-! ### The plain law -/
theorem qq_inj {a b : ByteArray} (h : qq a = qq b) : a = b := by
  have e : Quote.Q a.data.toList = Quote.Q b.data.toList := by
    have := congrArg (fun x : ByteArray => x.data.toList) h
    simpa [qq] using this
  exact bytes_ext (Quote.Q_inj _ _ e)

theorem lab_name (wh a b : ByteArray) : lab wh a = lab wh b ↔ a = b := by
  constructor
  · intro h
    refine qq_inj ?_
    have h1 := (ByteArray.append_right_inj _).1 h
    exact ByteArray.append_inj_left h1 (by have := congrArg ByteArray.size h1; simp only [ByteArray.size_append] at this; omega)
  · rintro rfl; rfl

theorem lab_where (u v nm : ByteArray) : lab u nm = lab v nm ↔ u = v := by
  constructor
  · intro h
    have hs : u.size = v.size := by have := congrArg ByteArray.size h; rw [lab_size, lab_size] at this; omega
    have h1 := ByteArray.append_inj_left h (by simp only [ByteArray.size_append]; omega)
    exact ByteArray.append_inj_left h1 hs
  · rintro rfl; rfl

theorem toList_beq (a b c d : ByteArray) (h : a = b ↔ c = d) : (a.toList == b.toList) = (c.toList == d.toList) := by
  have e : ∀ x y : ByteArray, x.toList = y.toList ↔ x = y := fun x y => ⟨fun h => bytes_ext (by rw [← Lib.toList_data, ← Lib.toList_data]; exact h), fun h => by rw [h]⟩
  rw [Bool.eq_iff_iff, beq_iff_eq, beq_iff_eq, e, e]
  exact h

theorem bytes9_yes (a b c d : ByteArray) (h : a.size + b.size + c.size + d.size ≤ 1048576) (w : World) : Calls Tryf.prog 9 #[.string a, .string b, .string c, .string d] w fun e w' => e = .returned (.bool true) ∧ w' = w := by
  have h1 : ¬ (1048576 : Int) < a.size := by omega
  have h2 : ¬ (1048576 : Int) < b.size := by omega
  have h3 : ¬ (1048576 : Int) < c.size := by omega
  have h4 : ¬ (1048576 : Int) < d.size := by omega
  have h5 : ¬ (1048576 : Int) < (a.size : Int) + b.size := by omega
  have h6 : ¬ (1048576 : Int) < (a.size : Int) + b.size + c.size := by omega
  have h7 : ¬ (1048576 : Int) < (a.size : Int) + b.size + c.size + d.size := by omega
  go_enter Tryf.func9, Tryf.ntmps9
  go_wp2
  go_ret
  exact ⟨rfl, rfl⟩

theorem bytes9_no (a b c d : ByteArray) (wa : a.size ≤ maxLen) (wb : b.size ≤ maxLen) (wc : c.size ≤ maxLen) (wd : d.size ≤ maxLen) (h : 1048576 < a.size + b.size + c.size + d.size) (w : World) : Calls Tryf.prog 9 #[.string a, .string b, .string c, .string d] w fun e w' => e = .returned (.bool false) ∧ w' = w := by
  unfold maxLen at wa wb wc wd
  by_cases h1 : (1048576 : Int) < a.size
  · go_enter Tryf.func9, Tryf.ntmps9; go_wp2; go_ret; exact ⟨rfl, rfl⟩
  by_cases h2 : (1048576 : Int) < b.size
  · go_enter Tryf.func9, Tryf.ntmps9; go_wp2; go_ret; exact ⟨rfl, rfl⟩
  by_cases h5 : (1048576 : Int) < (a.size : Int) + b.size
  · go_enter Tryf.func9, Tryf.ntmps9; go_wp2; go_ret; exact ⟨rfl, rfl⟩
  by_cases h3 : (1048576 : Int) < c.size
  · go_enter Tryf.func9, Tryf.ntmps9; go_wp2; go_ret; exact ⟨rfl, rfl⟩
  by_cases h6 : (1048576 : Int) < (a.size : Int) + b.size + c.size
  · go_enter Tryf.func9, Tryf.ntmps9; go_wp2; go_ret; exact ⟨rfl, rfl⟩
  by_cases h4 : (1048576 : Int) < d.size
  · go_enter Tryf.func9, Tryf.ntmps9; go_wp2; go_ret; exact ⟨rfl, rfl⟩
  have h7 : (1048576 : Int) < (a.size : Int) + b.size + c.size + d.size := by omega
  go_enter Tryf.func9, Tryf.ntmps9; go_wp2; go_ret; exact ⟨rfl, rfl⟩

set_option maxHeartbeats 1000000 in
theorem inj_walk (F : Interp) (w1 w2 n1 n2 : ByteArray) (w : World) (hF : F.told.answers w.tape) (h1 : w1.size ≤ 262144) (h2 : w2.size ≤ 262144) (h3 : n1.size ≤ 262144) (h4 : n2.size ≤ 262144) :
    Calls Tryf.prog 4 #[.string w1, .string w2, .string n1, .string n2] w fun e w' => e = .returned (.bool true) ∧ Below w.heap.size w w' := by
  have g1 : ¬ (262144 : Int) < w1.size := by omega
  have g2 : ¬ (262144 : Int) < w2.size := by omega
  have g3 : ¬ (262144 : Int) < n1.size := by omega
  have g4 : ¬ (262144 : Int) < n2.size := by omega
  go_enter Tryf.func4, Tryf.ntmps4
  go_wp2_with fail
  refine (bytes9_yes _ _ _ _ (by omega) _).mono ?_
  rintro e w' ⟨rfl, rfl⟩
  go_wp2_with fail
  refine (label_told F w1 n1 _ (by exact hF) (by omega) (by omega)).mono ?_
  rintro e w' ⟨rfl, rfl⟩
  go_wp2_with fail
  refine (label_told F w1 n2 _ (by exact hF) (by omega) (by omega)).mono ?_
  rintro e w' ⟨rfl, rfl⟩
  go_wp2_with fail
  refine (label_told F w2 n1 _ (by exact hF) (by omega) (by omega)).mono ?_
  rintro e w' ⟨rfl, rfl⟩
  go_wp2_with fail
  refine (middle_at w1 n1 _ (by omega) (by omega)).mono ?_
  rintro e w' ⟨rfl, rfl⟩
  go_wp2_with fail
  refine (middle_at w1 n2 _ (by omega) (by omega)).mono ?_
  rintro e w' ⟨rfl, rfl⟩
  go_wp2_with fail
  refine (middle_at w2 n1 _ (by omega) (by omega)).mono ?_
  rintro e w' ⟨rfl, rfl⟩
  have e1 := toList_beq _ _ _ _ (lab_name w1 n1 n2)
  have e2 := toList_beq _ _ _ _ (lab_where w1 w2 n1)
  have q1 := qq_size n1
  have q2 := qq_size n2
  have q11 : ¬ ((qq n1).size : Int) < n1.size := by omega
  have q12 : ¬ (4 * (n1.size : Int)) < (qq n1).size := by omega
  have q21 : ¬ ((qq n2).size : Int) < n2.size := by omega
  have q22 : ¬ (4 * (n2.size : Int)) < (qq n2).size := by omega
  clear q1 q2
  go_wp2
  go_ret
  exact ⟨rfl, (((((Below.refl _ _).alloc (Nat.le_refl _) _).alloc (by simp) _).alloc (by simp; omega) _).drew).drew.drew⟩

set_option maxHeartbeats 1000000 in
theorem inj_all (F : Interp) (w1 w2 n1 n2 : ByteArray) (a1 : w1.size ≤ maxLen) (a2 : w2.size ≤ maxLen) (a3 : n1.size ≤ maxLen) (a4 : n2.size ≤ maxLen) (w : World) (hF : F.told.answers w.tape) :
    Calls Tryf.prog 4 #[.string w1, .string w2, .string n1, .string n2] w fun e w' => e = .returned (.bool true) ∧ Below w.heap.size w w' := by
  by_cases hb : w1.size + w2.size + n1.size + n2.size ≤ 1048576
  · by_cases h1 : w1.size ≤ 262144
    · have g1 : ¬ (262144 : Int) < w1.size := by omega
      by_cases h2 : w2.size ≤ 262144
      · have g2 : ¬ (262144 : Int) < w2.size := by omega
        by_cases h3 : n1.size ≤ 262144
        · have g3 : ¬ (262144 : Int) < n1.size := by omega
          by_cases h4 : n2.size ≤ 262144
          · exact inj_walk F w1 w2 n1 n2 w hF h1 h2 h3 h4
          · have g4 : (262144 : Int) < n2.size := by omega
            clear hF
            go_enter Tryf.func4, Tryf.ntmps4
            go_wp2_with fail
            refine (bytes9_yes _ _ _ _ hb _).mono ?_
            rintro e w' ⟨rfl, rfl⟩
            go_wp2
            go_ret
            exact ⟨rfl, Below.refl _ _⟩
        · have g3 : (262144 : Int) < n1.size := by omega
          clear hF
          go_enter Tryf.func4, Tryf.ntmps4
          go_wp2_with fail
          refine (bytes9_yes _ _ _ _ hb _).mono ?_
          rintro e w' ⟨rfl, rfl⟩
          go_wp2
          go_ret
          exact ⟨rfl, Below.refl _ _⟩
      · have g2 : (262144 : Int) < w2.size := by omega
        clear hF
        go_enter Tryf.func4, Tryf.ntmps4
        go_wp2_with fail
        refine (bytes9_yes _ _ _ _ hb _).mono ?_
        rintro e w' ⟨rfl, rfl⟩
        go_wp2
        go_ret
        exact ⟨rfl, Below.refl _ _⟩
    · have g1 : (262144 : Int) < w1.size := by omega
      clear hF
      go_enter Tryf.func4, Tryf.ntmps4
      go_wp2_with fail
      refine (bytes9_yes _ _ _ _ hb _).mono ?_
      rintro e w' ⟨rfl, rfl⟩
      go_wp2
      go_ret
      exact ⟨rfl, Below.refl _ _⟩
  · clear hF
    go_enter Tryf.func4, Tryf.ntmps4
    go_wp2_with fail
    refine (bytes9_no _ _ _ _ a1 a2 a3 a4 (by omega) _).mono ?_
    rintro e w' ⟨rfl, rfl⟩
    go_wp2
    go_ret
    exact ⟨rfl, Below.refl _ _⟩

end Go.Proofs.Qxb6615698aFmt
