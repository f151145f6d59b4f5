/-
  THE TEXT TOLD: columnLabel gives where, the mark, the quoted name, a quote; and zzMiddle (7) over it.
-/
import Derived.Test.Qxb6615698aFmtLabel
import Derived.Test.Qxb6615698aFmtUnits
import Derived.Lib.Strings
namespace Go.Proofs.Qxb6615698aFmt
open Go.RowKit Go.Extern.Stop Go.Stop Go.Extern Go.Kit

/-- ': column "' -/
def mark : ByteArray := { data := #[58, 32, 99, 111, 108, 117, 109, 110, 32, 34] }
/-- The double quote. -/
def dq : ByteArray := { data := #[34] }
/-- The quoted name, without its quotes. -/
def qq (nm : ByteArray) : ByteArray := ⟨(Quote.Q nm.data.toList).toArray⟩
/-- The label. -/
def lab (wh nm : ByteArray) : ByteArray := (wh ++ mark) ++ (qq nm ++ dq)

theorem t_parse : (FmtText.parse [37, 115, 58, 32, 99, 111, 108, 117, 109, 110, 32, 37, 113]).map FmtText.glue = some [.verb {} 115, .lit [58, 32, 99, 111, 108, 117, 109, 110, 32], .verb {} 113] := by rfl

theorem t_text (wh nm : List UInt8) (hw : wh.length < 2 ^ 64) (hn : nm.length < 2 ^ 64) :
    FmtText.text "fmt.Sprintf" (reading wh nm) = some (wh ++ ([58, 32, 99, 111, 108, 117, 109, 110, 32] ++ FmtText.quote false nm)) := by
  have h1 := FmtText.operand_str_at (sh := Tryf.shape9) rfl rfl wh hw
  have h2 := FmtText.operand_str_at (sh := Tryf.shape9) rfl rfl nm hn
  rw [reading, FmtText.text_sprintf_glued t_parse (FmtText.operands_cons h1 (FmtText.operands_cons h2 FmtText.operands_nil))]
  simp [FmtText.render, FmtText.printArg_s_str, FmtText.printArg_q_str]

theorem lab_list (wh nm : ByteArray) : (lab wh nm).data.toList = wh.data.toList ++ ([58, 32, 99, 111, 108, 117, 109, 110, 32] ++ FmtText.quote false nm.data.toList) := by
  rw [Quote.quote_Q]
  simp [lab, mark, dq, qq, ByteArray.data_append]

theorem bytes_ext {a b : ByteArray} (h : a.data.toList = b.data.toList) : a = b := ByteArray.ext (Array.toList_inj.1 h)

theorem qq_size (nm : ByteArray) : nm.size ≤ (qq nm).size ∧ (qq nm).size ≤ 4 * nm.size := by
  have h := Quote.Q_length nm.data.toList
  have e1 := Lib.size_eq nm
  have e2 : (qq nm).size = (Quote.Q nm.data.toList).length := by simp [qq, ByteArray.size]
  omega

theorem lab_size (wh nm : ByteArray) : (lab wh nm).size = wh.size + (qq nm).size + 11 := by
  have e1 : mark.size = 10 := rfl
  have e2 : dq.size = 1 := rfl
  simp only [lab, ByteArray.size_append, e1, e2]
  omega

set_option maxHeartbeats 400000 in
theorem label_told (F : Interp) (wh nm : ByteArray) (w : World) (hF : F.told.answers w.tape) (hw : wh.size ≤ 1048576) (hn : nm.size ≤ 1048576) :
    Calls Tryf.prog 6 #[.string wh, .string nm] w fun e w' => e = .returned (.string (lab wh nm)) ∧
      w' = (w.alloc (.cells #[.iface 9 (.string wh), .iface 9 (.string nm)] 20)).drew := by
  have l1 := Lib.size_eq wh
  have l2 := Lib.size_eq nm
  have hl : (lab wh nm).data.toList.length < 2 ^ 63 := by
    have h1 := lab_size wh nm
    have h2 := (qq_size nm).2
    have e := Lib.size_eq (lab wh nm)
    omega
  have ht := told_string F (t_text wh.data.toList nm.data.toList (by omega) (by omega)) (by rw [← lab_list]; exact hl)
  have e : FmtStop.textOf (F.told "fmt.Sprintf" (reading wh.data.toList nm.data.toList) 0) = lab wh nm := bytes_ext (by rw [textOf_list, ht, lab_list])
  refine (label_any F.told wh nm w hF).mono ?_
  rintro e' w' ⟨rfl, rfl⟩
  rw [e]
  exact ⟨rfl, rfl⟩

/-! ### zzMiddle -/
theorem mid1 (p m : ByteArray) : (((p ++ (m ++ dq)).extract 0 p.size).toList == p.toList) = true := by
  rw [ByteArray.extract_append_eq_left rfl]
  simp

theorem mid2 (p m : ByteArray) (h : p.size + m.size < (p ++ (m ++ dq)).size) : ((((p ++ (m ++ dq))[p.size + m.size]).toNat : Int) != 34) = false := by
  have e : (p ++ (m ++ dq))[p.size + m.size] = 34 := by
    rw [ByteArray.getElem_append_right (by omega), ByteArray.getElem_append_right (by omega)]
    have : p.size + m.size - p.size - m.size = 0 := by omega
    simp only [this]
    rfl
  rw [e]
  rfl

theorem mid3 (p m : ByteArray) : (p ++ (m ++ dq)).extract p.size (p.size + m.size) = m := by
  rw [ByteArray.extract_append]
  have e1 : p.extract p.size (p.size + m.size) = ByteArray.empty := by
    apply bytes_ext
    rw [Lib.extract_data, List.drop_of_length_le (by rw [← Lib.size_eq]; exact Nat.le_refl _), List.take_nil]
    rfl
  rw [e1, Nat.sub_self, Nat.add_sub_cancel_left, ByteArray.extract_append_eq_left rfl]
  simp

set_option maxHeartbeats 400000 in
theorem middle_any (s p m : ByteArray) (w : World) (hs : s.size ≤ 4294967296) (hsz : s.size = p.size + m.size + 1) (h1 : ((s.extract 0 p.size).toList == p.toList) = true)
    (hlt : p.size + m.size < s.size) (h2 : ((s[p.size + m.size].toNat : Int) != 34) = false) (h3 : s.extract p.size (p.size + m.size) = m) :
    Calls Tryf.prog 7 #[.string s, .string p] w fun e w' => e = .returned (.tuple #[.string m, .bool true]) ∧ w' = w := by
  have H3 : Hid (s.extract p.size (p.size + m.size) = m) := h3
  clear h3
  go_enter Tryf.func7, Tryf.ntmps7
  go_wp2
  go_ret2
  refine ⟨?_, rfl⟩
  show Ending.returned (.tuple #[.string (s.extract p.size (p.size + m.size)), .bool true]) = _
  rw [H3.out]

theorem middle_lab (wh nm : ByteArray) (w : World) (hw : wh.size ≤ 1048576) (hn : nm.size ≤ 1048576) :
    Calls Tryf.prog 7 #[.string (lab wh nm), .string (wh ++ mark)] w fun e w' => e = .returned (.tuple #[.string (qq nm), .bool true]) ∧ w' = w := by
  have hz := lab_size wh nm
  have hq := (qq_size nm).2
  have e1 : mark.size = 10 := rfl
  have hsz : (lab wh nm).size = (wh ++ mark).size + (qq nm).size + 1 := by rw [hz, ByteArray.size_append, e1]; omega
  exact middle_any (lab wh nm) (wh ++ mark) (qq nm) w (by omega) hsz (mid1 _ _) (by omega) (mid2 _ _ _) (mid3 _ _)

/-- The same, the mark written out, as a walk shows it. -/
theorem middle_at (wh nm : ByteArray) (w : World) (hw : wh.size ≤ 1048576) (hn : nm.size ≤ 1048576) :
    Calls Tryf.prog 7 #[.string (lab wh nm), .string (wh ++ { data := #[58, 32, 99, 111, 108, 117, 109, 110, 32, 34] })] w fun e w' => e = .returned (.tuple #[.string (qq nm), .bool true]) ∧ w' = w :=
  middle_lab wh nm w hw hn

end Go.Proofs.Qxb6615698aFmt
