/-
  FnColumnLabelJoinsPieces (3), its walk: for every F, fmt's text told.
-/
import Derived.Test.Qxb6615698aFmtText
import Derived.Deep.DeepCutAuto
namespace Go.Proofs.Qxb6615698aFmt
open Go.RowKit Go.Extern.Stop Go.Stop Go.Extern Go.Kit

/-- Every byte is plain. -/
def plainAll (s : ByteArray) : Bool := s.data.toList.all Quote.plainB

/-! ### The plain laws -/
theorem get_list (s : ByteArray) (k : Nat) (h : k < s.size) : s.data.toList[k]? = some s[k] := by
  rw [List.getElem?_eq_getElem (by rw [← Lib.size_eq]; exact h)]
  rfl

theorem all_false (s : ByteArray) (k : Nat) (h : k < s.size) (hp : Quote.plainB s[k] = false) : plainAll s = false := by
  unfold plainAll
  rw [List.all_eq_false]
  refine ⟨s[k], ?_, by simp [hp]⟩
  exact List.mem_of_getElem? (get_list s k h)

theorem all_step (s : ByteArray) (k : Nat) (h : k < s.size) (ha : (s.data.toList.take k).all Quote.plainB = true) (hp : Quote.plainB s[k] = true) : (s.data.toList.take (k + 1)).all Quote.plainB = true := by
  rw [List.take_succ_eq_append_getElem (by rw [← Lib.size_eq]; exact h), List.all_append, ha]
  have hp' : Quote.plainB (s.data.toList[k]'(by rw [← Lib.size_eq]; exact h)) = true := hp
  rw [List.all_cons, hp']
  rfl

theorem not_plain {c : UInt8} (h : (c.toNat : Int) < 32 ∨ 126 < (c.toNat : Int) ∨ (c.toNat : Int) = 34 ∨ (c.toNat : Int) = 92) : Quote.plainB c = false := by
  rw [Bool.eq_false_iff]
  intro hp
  simp [Quote.plainB] at hp
  omega

theorem yes_plain {c : UInt8} (h1 : ¬ (c.toNat : Int) < 32) (h2 : ¬ 126 < (c.toNat : Int)) (h3 : ¬ (c.toNat : Int) = 34) (h4 : ¬ (c.toNat : Int) = 92) : Quote.plainB c = true := by
  simp [Quote.plainB]
  omega

theorem qq_plain (s : ByteArray) (h : plainAll s = true) : ((qq s).toList == s.toList) = true := by
  have e : qq s = s := bytes_ext (by simp [qq, Quote.Q_plain _ (show s.data.toList.all Quote.plainB = true from h)])
  rw [e]; simp

/-- The cut falls inside a sequence, as the law tests it. -/
def cutB (a b : ByteArray) : Bool := (match a.data.toList.getLast?, b.data.toList.head? with
  | some x, some y => decide (128 ≤ x.toNat) && decide (128 ≤ y.toNat) && decide (y.toNat ≤ 191)
  | _, _ => false)

theorem qq_append (a b : ByteArray) (h : cutB a b = false) : ((qq (a ++ b)).toList == (qq a ++ qq b).toList) = true := by
  have e : qq (a ++ b) = qq a ++ qq b := by
    apply bytes_ext
    have ha : Quote.Apart a.data.toList b.data.toList := by
      intro x y hx hy h128
      unfold cutB at h
      rw [hx, hy] at h
      simp at h
      have := h h128
      omega
    have := Quote.Q_append _ _ ha
    simp [qq, ByteArray.data_append, this]
  rw [e]; simp

/-- zzPlainASCII. -/
theorem plain_any (s : ByteArray) (w : World) (hs : s.size ≤ 1048576) :
    Calls Tryf.prog 8 #[.string s] w fun e w' => e = .returned (.bool (plainAll s)) ∧ w' = w := by
  go_enter Tryf.func8, Tryf.ntmps8
  go_wp2
  go_loop [3] (fun i => ∃ k : Nat, k ≤ s.size ∧ i = .int .i64 k ∧ Hid ((s.data.toList.take k).all Quote.plainB = true)) (fun i => s.size - (intOf i).toNat)
  case atStart => exact ⟨0, Nat.zero_le _, rfl, by show _ = _; simp⟩
  case round =>
    obtain ⟨k, hk, rfl, HA⟩ := hrel
    by_cases hlt : k < s.size
    · by_cases c1 : (s[k].toNat : Int) < 32
      · have fin : Hid (plainAll s = false) := all_false s k hlt (not_plain (Or.inl c1))
        go_wp2
        go_ret
        exact ⟨by rw [fin.out]; rfl, rfl⟩
      by_cases c2 : 126 < (s[k].toNat : Int)
      · have fin : Hid (plainAll s = false) := all_false s k hlt (not_plain (Or.inr (Or.inl c2)))
        go_wp2
        go_ret
        exact ⟨by rw [fin.out]; rfl, rfl⟩
      by_cases c3 : (s[k].toNat : Int) = 34
      · have fin : Hid (plainAll s = false) := all_false s k hlt (not_plain (Or.inr (Or.inr (Or.inl c3))))
        have d3 : ((s[k].toNat : Int) == 34) = true := by simpa using c3
        clear c3
        go_wp2
        go_ret
        exact ⟨by rw [fin.out]; rfl, rfl⟩
      have d3 : ((s[k].toNat : Int) == 34) = false := by simpa using c3
      by_cases c4 : (s[k].toNat : Int) = 92
      · have fin : Hid (plainAll s = false) := all_false s k hlt (not_plain (Or.inr (Or.inr (Or.inr c4))))
        have d4 : ((s[k].toNat : Int) == 92) = true := by simpa using c4
        clear c3 c4
        go_wp2
        go_ret
        exact ⟨by rw [fin.out]; rfl, rfl⟩
      have d4 : ((s[k].toNat : Int) == 92) = false := by simpa using c4
      have HN : Hid ((s.data.toList.take (k + 1)).all Quote.plainB = true) := all_step s k hlt HA.out (yes_plain c1 c2 c3 c4)
      clear c3 c4
      go_wp2
      go_round
      case rel => exact ⟨k + 1, by omega, by go_num, HN⟩
      case measure => simp [intOf]; omega
    · have fin : Hid (plainAll s = true) := by
        show s.data.toList.all Quote.plainB = true
        have := HA.out
        rwa [List.take_of_length_le (by rw [← Lib.size_eq]; omega)] at this
      go_wp2
      go_ret
      exact ⟨by rw [fin.out]; rfl, rfl⟩

end Go.Proofs.Qxb6615698aFmt
