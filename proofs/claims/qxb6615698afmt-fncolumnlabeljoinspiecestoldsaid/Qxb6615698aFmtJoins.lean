/-
  FnColumnLabelJoinsPieces (3), whole.
-/
import Derived.Test.Qxb6615698aFmtPieces
namespace Go.Proofs.Qxb6615698aFmt
open Go.RowKit Go.Extern.Stop Go.Stop Go.Extern Go.Kit

theorem bytes5_yes (a b c : ByteArray) (h : a.size + b.size + c.size ≤ 1048576) (w : World) : Calls Tryf.prog 5 #[.string a, .string b, .string c] w fun e w' => e = .returned (.bool true) ∧ w' = w := by
  have h1 : ¬ (1048576 : Int) < a.size := by omega
  have h2 : ¬ (1048576 : Int) < b.size := by omega
  have h3 : ¬ (1048576 : Int) < c.size := by omega
  have h5 : ¬ (1048576 : Int) < (a.size : Int) + b.size := by omega
  have h6 : ¬ (1048576 : Int) < (a.size : Int) + b.size + c.size := by omega
  go_enter Tryf.func5, Tryf.ntmps5
  go_wp2
  go_ret
  exact ⟨rfl, rfl⟩

theorem bytes5_no (a b c : ByteArray) (wa : a.size ≤ maxLen) (wb : b.size ≤ maxLen) (wc : c.size ≤ maxLen) (h : 1048576 < a.size + b.size + c.size) (w : World) : Calls Tryf.prog 5 #[.string a, .string b, .string c] w fun e w' => e = .returned (.bool false) ∧ w' = w := by
  unfold maxLen at wa wb wc
  by_cases h1 : (1048576 : Int) < a.size
  · go_enter Tryf.func5, Tryf.ntmps5; go_wp2; go_ret; exact ⟨rfl, rfl⟩
  by_cases h2 : (1048576 : Int) < b.size
  · go_enter Tryf.func5, Tryf.ntmps5; go_wp2; go_ret; exact ⟨rfl, rfl⟩
  by_cases h5 : (1048576 : Int) < (a.size : Int) + b.size
  · go_enter Tryf.func5, Tryf.ntmps5; go_wp2; go_ret; exact ⟨rfl, rfl⟩
  by_cases h3 : (1048576 : Int) < c.size
  · go_enter Tryf.func5, Tryf.ntmps5; go_wp2; go_ret; exact ⟨rfl, rfl⟩
  have h6 : (1048576 : Int) < (a.size : Int) + b.size + c.size := by omega
  go_enter Tryf.func5, Tryf.ntmps5; go_wp2; go_ret; exact ⟨rfl, rfl⟩

theorem last_of (a : ByteArray) (h : a.size - 1 < a.size) : a.data.toList.getLast? = some a[a.size - 1] := by
  rw [List.getLast?_eq_getElem?, ← Lib.size_eq, get_list a _ h]
theorem head_of (b : ByteArray) (h : 0 < b.size) : b.data.toList.head? = some b[0] := by
  rw [List.head?_eq_getElem?, get_list b 0 h]

theorem cut_a (a b : ByteArray) (h : a.size = 0) : cutB a b = false := by
  unfold cutB
  have : a.data.toList = [] := List.eq_nil_of_length_eq_zero (by rw [← Lib.size_eq]; exact h)
  rw [this]; rfl
theorem cut_b (a b : ByteArray) (h : a.size - 1 < a.size) (hl : ¬ 128 ≤ (a[a.size - 1].toNat : Int)) : cutB a b = false := by
  unfold cutB
  rw [last_of a h]
  cases b.data.toList.head? <;> simp
  omega
theorem cut_c (a b : ByteArray) (h : b.size = 0) : cutB a b = false := by
  unfold cutB
  have : b.data.toList = [] := List.eq_nil_of_length_eq_zero (by rw [← Lib.size_eq]; exact h)
  rw [this]; cases a.data.toList.getLast? <;> rfl
theorem cut_d (a b : ByteArray) (h : 0 < b.size) (hl : ¬ (128 ≤ (b[0].toNat : Int) ∧ (b[0].toNat : Int) ≤ 191)) : cutB a b = false := by
  unfold cutB
  rw [head_of b h]
  cases a.data.toList.getLast? <;> simp
  omega
theorem cut_yes (a b : ByteArray) (ha : a.size - 1 < a.size) (hl : 128 ≤ (a[a.size - 1].toNat : Int)) (h : 0 < b.size) (h1 : 128 ≤ (b[0].toNat : Int)) (h2 : (b[0].toNat : Int) ≤ 191) : cutB a b = true := by
  unfold cutB
  rw [last_of a ha, head_of b h]
  simp; omega

set_option maxRecDepth 100000 in
set_option maxHeartbeats 2000000 in
theorem joins_walk (F : Interp) (wh n1 n2 : ByteArray) (w : World) (hF : F.told.answers w.tape) (h1 : wh.size ≤ 262144) (h2 : n1.size ≤ 262144) (h3 : n2.size ≤ 262144) :
    Calls Tryf.prog 3 #[.string wh, .string n1, .string n2] w fun e w' => e = .returned (.bool true) ∧ Below w.heap.size w w' := by
  have g1 : ¬ (262144 : Int) < wh.size := by omega
  have g2 : ¬ (262144 : Int) < n1.size := by omega
  have g3 : ¬ (262144 : Int) < n2.size := by omega
  go_enter Tryf.func3, Tryf.ntmps3
  go_wp2_with fail
  refine (bytes5_yes _ _ _ (by omega) _).mono ?_
  rintro e w0 ⟨rfl, rfl⟩
  go_upto_region 9 with fail
  go_cut [56] (fun s56 wx => s56 = .bool (cutB n1 n2) ∧ wx = w0)
  case first =>
    by_cases c1 : (0 : Int) < n1.size
    · have p1 : n1.size - 1 < n1.size := by omega
      by_cases c2 : 128 ≤ (n1[n1.size - 1].toNat : Int)
      · by_cases c3 : (0 : Int) < n2.size
        · have p3 : 0 < n2.size := by omega
          by_cases c4 : 128 ≤ (n2[0].toNat : Int)
          · by_cases c5 : (n2[0].toNat : Int) ≤ 191
            · have HC : Hid (cutB n1 n2 = true) := cut_yes n1 n2 p1 c2 p3 c4 c5
              go_wp2_with fail
              go_meet
              exact ⟨by rw [HC.out], rfl⟩
            · have HC : Hid (cutB n1 n2 = false) := cut_d n1 n2 p3 (fun h => c5 h.2)
              go_wp2_with fail
              go_meet
              exact ⟨by rw [HC.out, decide_eq_false (by omega)], rfl⟩
          · have HC : Hid (cutB n1 n2 = false) := cut_d n1 n2 p3 (fun h => c4 h.1)
            go_wp2_with fail
            go_meet
            exact ⟨by rw [HC.out], rfl⟩
        · have HC : Hid (cutB n1 n2 = false) := cut_c n1 n2 (by omega)
          go_wp2_with fail
          go_meet
          exact ⟨by rw [HC.out], rfl⟩
      · have HC : Hid (cutB n1 n2 = false) := cut_b n1 n2 p1 c2
        go_wp2_with fail
        go_meet
        exact ⟨by rw [HC.out], rfl⟩
    · have HC : Hid (cutB n1 n2 = false) := cut_a n1 n2 (by omega)
      go_wp2_with fail
      go_meet
      exact ⟨by rw [HC.out], rfl⟩
  case rest =>
    obtain ⟨rfl, rfl⟩ := hcut
    cases hc : cutB n1 n2
    · have HC : Hid (cutB n1 n2 = false) := hc
      clear hc
      go_wp2_with fail
      refine (label_told F wh n1 _ (by exact hF) (by omega) (by omega)).mono ?_
      rintro e w1 ⟨rfl, rfl⟩
      go_wp2_with fail
      refine (label_told F wh n2 _ (by exact hF) (by omega) (by omega)).mono ?_
      rintro e w1 ⟨rfl, rfl⟩
      go_wp2_with fail
      refine (label_told F wh (n1 ++ n2) _ (by exact hF) (by omega) (by rw [ByteArray.size_append]; omega)).mono ?_
      rintro e w1 ⟨rfl, rfl⟩
      go_wp2_with fail
      refine (middle_at wh n1 _ (by omega) (by omega)).mono ?_
      rintro e w1 ⟨rfl, rfl⟩
      go_wp2_with fail
      refine (middle_at wh n2 _ (by omega) (by omega)).mono ?_
      rintro e w1 ⟨rfl, rfl⟩
      go_wp2_with fail
      refine (middle_at wh (n1 ++ n2) _ (by omega) (by rw [ByteArray.size_append]; omega)).mono ?_
      rintro e w1 ⟨rfl, rfl⟩
      have e3 := qq_append n1 n2 HC.out
      have q1 := qq_size n1
      have q2 := qq_size n2
      have q11 : ¬ ((qq n1).size : Int) < n1.size := by omega
      have q12 : ((qq n1).size : Int) ≤ 1048576 := by omega
      have q21 : ¬ ((qq n2).size : Int) < n2.size := by omega
      have q22 : ((qq n2).size : Int) ≤ 1048576 := by omega
      clear q1 q2
      go_wp2_with fail
      refine (plain_any n1 _ (by omega)).mono ?_
      rintro e w1 ⟨rfl, rfl⟩
      cases hp1 : plainAll n1
      · go_wp2_with fail
        refine (plain_any n2 _ (by omega)).mono ?_
        rintro e w1 ⟨rfl, rfl⟩
        cases hp2 : plainAll n2
        · go_wp2
          go_ret
          exact ⟨rfl, (((((Below.refl _ _).alloc (Nat.le_refl _) _).alloc (by simp) _).alloc (by simp; omega) _).drew).drew.drew⟩
        · have m2 := qq_plain n2 hp2
          go_wp2
          go_ret
          exact ⟨rfl, (((((Below.refl _ _).alloc (Nat.le_refl _) _).alloc (by simp) _).alloc (by simp; omega) _).drew).drew.drew⟩
      · have m1 := qq_plain n1 hp1
        go_wp2_with fail
        refine (plain_any n2 _ (by omega)).mono ?_
        rintro e w1 ⟨rfl, rfl⟩
        cases hp2 : plainAll n2
        · go_wp2
          go_ret
          exact ⟨rfl, (((((Below.refl _ _).alloc (Nat.le_refl _) _).alloc (by simp) _).alloc (by simp; omega) _).drew).drew.drew⟩
        · have m2 := qq_plain n2 hp2
          go_wp2
          go_ret
          exact ⟨rfl, (((((Below.refl _ _).alloc (Nat.le_refl _) _).alloc (by simp) _).alloc (by simp; omega) _).drew).drew.drew⟩
    · clear hc
      go_wp2
      go_ret
      exact ⟨rfl, Below.refl _ _⟩

set_option maxHeartbeats 1000000 in
theorem joins_all (F : Interp) (wh n1 n2 : ByteArray) (a1 : wh.size ≤ maxLen) (a2 : n1.size ≤ maxLen) (a3 : n2.size ≤ maxLen) (w : World) (hF : F.told.answers w.tape) :
    Calls Tryf.prog 3 #[.string wh, .string n1, .string n2] w fun e w' => e = .returned (.bool true) ∧ Below w.heap.size w w' := by
  by_cases hb : wh.size + n1.size + n2.size ≤ 1048576
  · by_cases h1 : wh.size ≤ 262144
    · have g1 : ¬ (262144 : Int) < wh.size := by omega
      by_cases h2 : n1.size ≤ 262144
      · have g2 : ¬ (262144 : Int) < n1.size := by omega
        by_cases h3 : n2.size ≤ 262144
        · exact joins_walk F wh n1 n2 w hF h1 h2 h3
        · have g3 : (262144 : Int) < n2.size := by omega
          clear hF
          go_enter Tryf.func3, Tryf.ntmps3
          go_wp2_with fail
          refine (bytes5_yes _ _ _ hb _).mono ?_
          rintro e w' ⟨rfl, rfl⟩
          go_wp2
          go_ret
          exact ⟨rfl, Below.refl _ _⟩
      · have g2 : (262144 : Int) < n1.size := by omega
        clear hF
        go_enter Tryf.func3, Tryf.ntmps3
        go_wp2_with fail
        refine (bytes5_yes _ _ _ hb _).mono ?_
        rintro e w' ⟨rfl, rfl⟩
        go_wp2
        go_ret
        exact ⟨rfl, Below.refl _ _⟩
    · have g1 : (262144 : Int) < wh.size := by omega
      clear hF
      go_enter Tryf.func3, Tryf.ntmps3
      go_wp2_with fail
      refine (bytes5_yes _ _ _ hb _).mono ?_
      rintro e w' ⟨rfl, rfl⟩
      go_wp2
      go_ret
      exact ⟨rfl, Below.refl _ _⟩
  · clear hF
    go_enter Tryf.func3, Tryf.ntmps3
    go_wp2_with fail
    refine (bytes5_no _ _ _ a1 a2 a3 (by omega) _).mono ?_
    rintro e w' ⟨rfl, rfl⟩
    go_wp2
    go_ret
    exact ⟨rfl, Below.refl _ _⟩

end Go.Proofs.Qxb6615698aFmt
