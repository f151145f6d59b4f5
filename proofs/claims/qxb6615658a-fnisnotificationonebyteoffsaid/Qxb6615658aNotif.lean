/-
  strings.HasPrefix (20), isNotification (17), ZZisNotification (9), zzBytes (8, 10).
-/
import Derived.Test.Qxb6615658aRows
import Derived.WalkKit
import Derived.WalkSpells
import Derived.Outline
import Derived.Lib.Strings
import Derived.Lib.Slices
import Derived.Lib.Walk
import Derived.RowKit3
namespace Go.Proofs.Qxb6615658a
open Go.RowKit

set_option maxHeartbeats 1000000 in
/-- strings.HasPrefix: after the shelf's own text. -/
theorem hasPrefix_any (s p : ByteArray) (w : World) :
    Calls Try.prog 20 #[.string s, .string p] w fun e w' => e = .returned (.bool (Lib.hasPrefix s.data.toList p.data.toList)) ∧ w' = w := by
  rw [← Lib.hasPrefix_of_take, ← Lib.size_eq, ← Lib.size_eq]
  go_enter Try.func20, Try.ntmps20
  go_wp2
  · rename_i h
    go_ret
    refine ⟨?_, rfl⟩
    show Ending.returned (Value.bool ((s.extract 0 p.size).toList == p.toList)) = _
    rw [Lib.extract_toList, Lib.toList_data]
    simp [h]
  · rename_i h
    go_ret
    refine ⟨?_, rfl⟩
    show Ending.returned (Value.bool false) = _
    simp [h]

/-- The prefix. -/
def pfx : List UInt8 := [110, 111, 116, 105, 102, 105, 99, 97, 116, 105, 111, 110, 115, 47]
/-- isNotification. -/
def isN (s : ByteArray) : Bool := Lib.hasPrefix s.data.toList pfx

theorem isN_any (s : ByteArray) (w : World) : Calls Try.prog 9 #[.string s] w fun e w' => e = .returned (.bool (isN s)) ∧ w' = w := by
  go_enter Try.func9, Try.ntmps9
  go_wp2_with (first | (go_at_call 20; refine (hasPrefix_any _ _ _).mono ?_; rintro e w' ⟨rfl, rfl⟩) | go_in)
  go_ret
  exact ⟨rfl, rfl⟩

theorem bytes8_yes (s t : ByteArray) (h : s.size + t.size ≤ 1048576) (w : World) : Calls Try.prog 8 #[.string s, .string t] w fun e w' => e = .returned (.bool true) ∧ w' = w := by
  have h1 : ¬ (1048576 : Int) < s.size := by omega
  have h2 : ¬ (1048576 : Int) < t.size := by omega
  have h3 : ¬ (1048576 : Int) < (s.size : Int) + t.size := by omega
  go_enter Try.func8, Try.ntmps8
  go_wp2
  go_ret
  exact ⟨rfl, rfl⟩

theorem bytes8_no (s t : ByteArray) (hs : s.size ≤ maxLen) (ht : t.size ≤ maxLen) (h : 1048576 < s.size + t.size) (w : World) : Calls Try.prog 8 #[.string s, .string t] w fun e w' => e = .returned (.bool false) ∧ w' = w := by
  unfold maxLen at hs ht
  by_cases h1 : (1048576 : Int) < s.size
  · go_enter Try.func8, Try.ntmps8
    go_wp2
    go_ret
    exact ⟨rfl, rfl⟩
  by_cases h2 : (1048576 : Int) < t.size
  · go_enter Try.func8, Try.ntmps8
    go_wp2
    go_ret
    exact ⟨rfl, rfl⟩
  have h3 : (1048576 : Int) < (s.size : Int) + t.size := by omega
  go_enter Try.func8, Try.ntmps8
  go_wp2
  go_ret
  exact ⟨rfl, rfl⟩

/-! ### The plain laws -/
theorem isN_pfx (s : ByteArray) : isN ({ data := #[110, 111, 116, 105, 102, 105, 99, 97, 116, 105, 111, 110, 115, 47] } ++ s) = true := by
  unfold isN Lib.hasPrefix
  rw [List.isPrefixOf_iff_prefix, ByteArray.data_append, Array.toList_append]
  exact List.prefix_append _ _

theorem isN_short (t : ByteArray) (h : t.size < 14) : isN t = false := by
  unfold isN Lib.hasPrefix
  rw [Bool.eq_false_iff]
  intro hp
  rw [List.isPrefixOf_iff_prefix] at hp
  have := hp.length_le
  simp [pfx] at this
  have e : t.size = t.data.size := rfl
  omega

theorem isN_append (t s : ByteArray) (h : 14 ≤ t.size) : isN (t ++ s) = isN t := by
  unfold isN Lib.hasPrefix
  rw [Bool.eq_iff_iff, List.isPrefixOf_iff_prefix, List.isPrefixOf_iff_prefix, ByteArray.data_append, Array.toList_append]
  constructor
  · intro hp
    exact List.prefix_of_prefix_length_le hp (List.prefix_append _ _) (by simp [pfx]; exact h)
  · intro hp
    exact hp.trans (List.prefix_append _ _)

set_option maxHeartbeats 400000 in
theorem kept_short (s t : ByteArray) (w : World) (hs : s.size ≤ 524288) (ht : t.size < 14) :
    Calls Try.prog 3 #[.string s, .string t] w fun e w' => e = .returned (.bool true) ∧ w' = w := by
  have h1 : ¬ (524288 : Int) < s.size := by omega
  have h2 : ¬ (524288 : Int) < t.size := by omega
  have h3 : (t.size : Int) < 14 := by omega
  have n1 := isN_pfx s
  have n2 := isN_short t ht
  go_enter Try.func3, Try.ntmps3
  go_wp2_with fail
  refine (bytes8_yes _ _ (by omega) _).mono ?_
  rintro e w' ⟨rfl, rfl⟩
  go_wp2_with (go_at_call 9; refine (isN_any _ _).mono ?_; rintro e w' ⟨rfl, rfl⟩)
  go_ret
  exact ⟨rfl, rfl⟩

set_option maxHeartbeats 400000 in
theorem kept_long (s t : ByteArray) (w : World) (hs : s.size ≤ 524288) (ht : t.size ≤ 524288) (h14 : 14 ≤ t.size) :
    Calls Try.prog 3 #[.string s, .string t] w fun e w' => e = .returned (.bool true) ∧ w' = w := by
  have h1 : ¬ (524288 : Int) < s.size := by omega
  have h2 : ¬ (524288 : Int) < t.size := by omega
  have h3 : ¬ (t.size : Int) < 14 := by omega
  have n1 := isN_pfx s
  have n3 := isN_append t s h14
  cases hb : isN t
  · rw [hb] at n3
    go_enter Try.func3, Try.ntmps3
    go_wp2_with fail
    refine (bytes8_yes _ _ (by omega) _).mono ?_
    rintro e w' ⟨rfl, rfl⟩
    go_wp2_with (go_at_call 9; refine (isN_any _ _).mono ?_; rintro e w' ⟨rfl, rfl⟩)
    go_ret
    exact ⟨rfl, rfl⟩
  · rw [hb] at n3
    go_enter Try.func3, Try.ntmps3
    go_wp2_with fail
    refine (bytes8_yes _ _ (by omega) _).mono ?_
    rintro e w' ⟨rfl, rfl⟩
    go_wp2_with (go_at_call 9; refine (isN_any _ _).mono ?_; rintro e w' ⟨rfl, rfl⟩)
    go_ret
    exact ⟨rfl, rfl⟩

set_option maxHeartbeats 400000 in
theorem kept_walk (s t : ByteArray) (ws : s.size ≤ maxLen) (wt : t.size ≤ maxLen) (w : World) :
    Calls Try.prog 3 #[.string s, .string t] w fun e w' => e = .returned (.bool true) ∧ w' = w := by
  by_cases hb : s.size + t.size ≤ 1048576
  · by_cases hs : s.size ≤ 524288
    · by_cases ht : t.size ≤ 524288
      · by_cases h14 : t.size < 14
        · exact kept_short s t w hs h14
        · exact kept_long s t w hs ht (by omega)
      · have h1 : ¬ (524288 : Int) < s.size := by omega
        have h2 : (524288 : Int) < t.size := by omega
        go_enter Try.func3, Try.ntmps3
        go_wp2_with fail
        refine (bytes8_yes _ _ hb _).mono ?_
        rintro e w' ⟨rfl, rfl⟩
        go_wp2
        go_ret
        exact ⟨rfl, rfl⟩
    · have h1 : (524288 : Int) < s.size := by omega
      go_enter Try.func3, Try.ntmps3
      go_wp2_with fail
      refine (bytes8_yes _ _ hb _).mono ?_
      rintro e w' ⟨rfl, rfl⟩
      go_wp2
      go_ret
      exact ⟨rfl, rfl⟩
  · go_enter Try.func3, Try.ntmps3
    go_wp2_with fail
    refine (bytes8_no _ _ ws wt (by omega) _).mono ?_
    rintro e w' ⟨rfl, rfl⟩
    go_wp2
    go_ret
    exact ⟨rfl, rfl⟩

end Go.Proofs.Qxb6615658a
