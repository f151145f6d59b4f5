/-
  FnIsNotificationOneByteOff (4).
-/
import Derived.Test.Qxb6615658aNotif
import Derived.Laws.BytesArg
import Derived.LoopN
namespace Go.Proofs.Qxb6615658a
open Go.RowKit

theorem bytes10_yes (s : ByteArray) (i b : Int) (h : s.size ≤ 1048576) (w : World) : Calls Try.prog 10 #[.string s, .int .i64 i, .int .u8 b] w fun e w' => e = .returned (.bool true) ∧ w' = w := by
  have h1 : ¬ (1048576 : Int) < s.size := by omega
  go_enter Try.func10, Try.ntmps10
  go_wp2
  go_ret
  exact ⟨rfl, rfl⟩

theorem bytes10_no (s : ByteArray) (i b : Int) (h : 1048576 < s.size) (w : World) : Calls Try.prog 10 #[.string s, .int .i64 i, .int .u8 b] w fun e w' => e = .returned (.bool false) ∧ w' = w := by
  have h1 : (1048576 : Int) < s.size := by omega
  go_enter Try.func10, Try.ntmps10
  go_wp2
  go_ret
  exact ⟨rfl, rfl⟩

theorem make14 (w : World) : (Instr.makeSlice 25 (.int .i64 14) (.int .i64 14)).run Try.prog w = .ok (.slice (some ⟨w.heap.size, 0, none⟩) 14 14) (w.alloc (.cells #[.int .u8 0, .int .u8 0, .int .u8 0, .int .u8 0, .int .u8 0, .int .u8 0, .int .u8 0, .int .u8 0, .int .u8 0, .int .u8 0, .int .u8 0, .int .u8 0, .int .u8 0, .int .u8 0] 5)) := by kernel_rfl

theorem pk0 : ({ data := #[110, 111, 116, 105, 102, 105, 99, 97, 116, 105, 111, 110, 115, 47] } : ByteArray)[0].toNat = 110 := rfl
theorem pk1 : ({ data := #[110, 111, 116, 105, 102, 105, 99, 97, 116, 105, 111, 110, 115, 47] } : ByteArray)[1].toNat = 111 := rfl
theorem pk2 : ({ data := #[110, 111, 116, 105, 102, 105, 99, 97, 116, 105, 111, 110, 115, 47] } : ByteArray)[2].toNat = 116 := rfl
theorem pk3 : ({ data := #[110, 111, 116, 105, 102, 105, 99, 97, 116, 105, 111, 110, 115, 47] } : ByteArray)[3].toNat = 105 := rfl
theorem pk4 : ({ data := #[110, 111, 116, 105, 102, 105, 99, 97, 116, 105, 111, 110, 115, 47] } : ByteArray)[4].toNat = 102 := rfl
theorem pk5 : ({ data := #[110, 111, 116, 105, 102, 105, 99, 97, 116, 105, 111, 110, 115, 47] } : ByteArray)[5].toNat = 105 := rfl
theorem pk6 : ({ data := #[110, 111, 116, 105, 102, 105, 99, 97, 116, 105, 111, 110, 115, 47] } : ByteArray)[6].toNat = 99 := rfl
theorem pk7 : ({ data := #[110, 111, 116, 105, 102, 105, 99, 97, 116, 105, 111, 110, 115, 47] } : ByteArray)[7].toNat = 97 := rfl
theorem pk8 : ({ data := #[110, 111, 116, 105, 102, 105, 99, 97, 116, 105, 111, 110, 115, 47] } : ByteArray)[8].toNat = 116 := rfl
theorem pk9 : ({ data := #[110, 111, 116, 105, 102, 105, 99, 97, 116, 105, 111, 110, 115, 47] } : ByteArray)[9].toNat = 105 := rfl
theorem pk10 : ({ data := #[110, 111, 116, 105, 102, 105, 99, 97, 116, 105, 111, 110, 115, 47] } : ByteArray)[10].toNat = 111 := rfl
theorem pk11 : ({ data := #[110, 111, 116, 105, 102, 105, 99, 97, 116, 105, 111, 110, 115, 47] } : ByteArray)[11].toNat = 110 := rfl
theorem pk12 : ({ data := #[110, 111, 116, 105, 102, 105, 99, 97, 116, 105, 111, 110, 115, 47] } : ByteArray)[12].toNat = 115 := rfl
theorem pk13 : ({ data := #[110, 111, 116, 105, 102, 105, 99, 97, 116, 105, 111, 110, 115, 47] } : ByteArray)[13].toNat = 47 := rfl

/-- The prefix's bytes as numbers. -/
def pfxI : List Int := [110, 111, 116, 105, 102, 105, 99, 97, 116, 105, 111, 110, 115, 47]
/-- The bytes behind 'q[i] = b', as a string. -/
def offS (n : Nat) (b : Int) : ByteArray := strOfNums (pfxI.set n b)

theorem conv14 (n : Nat) (b : Int) (w : World) : (convert 25 9 (.slice (some ⟨w.heap.size, 0, none⟩) 14 14)).run Try.prog (w.alloc (.cells (([.int .u8 110, .int .u8 111, .int .u8 116, .int .u8 105, .int .u8 102, .int .u8 105, .int .u8 99, .int .u8 97, .int .u8 116, .int .u8 105, .int .u8 111, .int .u8 110, .int .u8 115, .int .u8 47] : List Value).set n (.int .u8 b)).toArray 5)) =
    .ok (.string (offS n b)) (w.alloc (.cells (([.int .u8 110, .int .u8 111, .int .u8 116, .int .u8 105, .int .u8 102, .int .u8 105, .int .u8 99, .int .u8 97, .int .u8 116, .int .u8 105, .int .u8 111, .int .u8 110, .int .u8 115, .int .u8 47] : List Value).set n (.int .u8 b)).toArray 5)) := by
  refine run_convert_bytes_arg (P := Try.prog) _ 25 5 Try.underlying25 Try.underlying5 w.heap.size 0 14 14 (pfxI.set n b) (by simp [pfxI]) ?_ 9 Try.underlying9
  intro j hj
  have e : (([.int .u8 110, .int .u8 111, .int .u8 116, .int .u8 105, .int .u8 102, .int .u8 105, .int .u8 99, .int .u8 97, .int .u8 116, .int .u8 105, .int .u8 111, .int .u8 110, .int .u8 115, .int .u8 47] : List Value).set n (.int .u8 b)) = (pfxI.set n b).map (Value.int .u8) := by rw [List.map_set]; rfl
  rw [e]
  have hl : j < (pfxI.set n b).length := by simpa [pfxI] using hj
  simp [go_sem, List.getElem?_eq_getElem hl]
  rw [← List.map_set, List.getElem?_map, List.getElem?_eq_getElem hl]
  rfl

theorem offS_size (n : Nat) (b : Int) : (offS n b).size = 14 := by
  rw [offS, strOfNums_size]; simp [pfxI]

/-! ### The plain law -/
theorem byte_beq (b : Int) (c : UInt8) (h0 : 0 ≤ b) (h1 : b ≤ 255) : (c == UInt8.ofNat b.toNat) = (b == (c.toNat : Int)) := by
  rw [Bool.eq_iff_iff, beq_iff_eq, beq_iff_eq, ← UInt8.toNat_inj, UInt8.toNat_ofNat']
  omega

theorem isN_offS (n : Nat) (hn : n < 14) (b : Int) (h0 : 0 ≤ b) (h1 : b ≤ 255) : isN (offS n b) = (b == ((pfx.getD n 0).toNat : Int)) := by
  rw [← byte_beq b _ h0 h1]
  unfold isN Lib.hasPrefix offS
  rw [strOfNums_data]
  match n, hn with
  | 0, _ => simp [pfxI, pfx, List.isPrefixOf]
  | 1, _ => simp [pfxI, pfx, List.isPrefixOf]
  | 2, _ => simp [pfxI, pfx, List.isPrefixOf]
  | 3, _ => simp [pfxI, pfx, List.isPrefixOf]
  | 4, _ => simp [pfxI, pfx, List.isPrefixOf]
  | 5, _ => simp [pfxI, pfx, List.isPrefixOf]
  | 6, _ => simp [pfxI, pfx, List.isPrefixOf]
  | 7, _ => simp [pfxI, pfx, List.isPrefixOf]
  | 8, _ => simp [pfxI, pfx, List.isPrefixOf]
  | 9, _ => simp [pfxI, pfx, List.isPrefixOf]
  | 10, _ => simp [pfxI, pfx, List.isPrefixOf]
  | 11, _ => simp [pfxI, pfx, List.isPrefixOf]
  | 12, _ => simp [pfxI, pfx, List.isPrefixOf]
  | 13, _ => simp [pfxI, pfx, List.isPrefixOf]

theorem pfx_get (n : Nat) (h : n < ({ data := #[110, 111, 116, 105, 102, 105, 99, 97, 116, 105, 111, 110, 115, 47] } : ByteArray).size) : ({ data := #[110, 111, 116, 105, 102, 105, 99, 97, 116, 105, 111, 110, 115, 47] } : ByteArray)[n] = pfx.getD n 0 := by
  have h' : n < 14 := h
  match n, h' with
  | 0, _ => rfl
  | 1, _ => rfl
  | 2, _ => rfl
  | 3, _ => rfl
  | 4, _ => rfl
  | 5, _ => rfl
  | 6, _ => rfl
  | 7, _ => rfl
  | 8, _ => rfl
  | 9, _ => rfl
  | 10, _ => rfl
  | 11, _ => rfl
  | 12, _ => rfl
  | 13, _ => rfl

theorem off_law (s : ByteArray) (n : Nat) (h : n < ({ data := #[110, 111, 116, 105, 102, 105, 99, 97, 116, 105, 111, 110, 115, 47] } : ByteArray).size) (b : Int) (h0 : 0 ≤ b) (h1 : b ≤ 255) :
    isN (offS n b ++ s) = (b == (({ data := #[110, 111, 116, 105, 102, 105, 99, 97, 116, 105, 111, 110, 115, 47] } : ByteArray)[n].toNat : Int)) := by
  rw [isN_append _ _ (by rw [offS_size]; decide), isN_offS n h b h0 h1, pfx_get n h]

theorem short_law (n : Nat) (h : n < 14) : isN (({ data := #[110, 111, 116, 105, 102, 105, 99, 97, 116, 105, 111, 110, 115, 47] } : ByteArray).extract 0 n) = false := by
  refine isN_short _ ?_
  have e : ({ data := #[110, 111, 116, 105, 102, 105, 99, 97, 116, 105, 111, 110, 115, 47] } : ByteArray).size = 14 := rfl
  rw [ByteArray.size_extract, e]
  omega

set_option maxHeartbeats 1000000 in
theorem off_walk (s : ByteArray) (i b : Int) (w : World) (hs : s.size ≤ 1048576) (h0 : 0 ≤ i) (h14 : i < 14) (b0 : 0 ≤ b) (b1 : b ≤ 255) :
    Calls Try.prog 4 #[.string s, .int .i64 i, .int .u8 b] w fun e w' => e = .returned (.bool true) ∧ Grown w w' := by
  have h1 : ¬ (1048576 : Int) < s.size := by omega
  have hmk := make14
  go_enter Try.func4, Try.ntmps4
  go_wp2_with fail
  refine (bytes10_yes _ _ _ hs _).mono ?_
  rintro e w' ⟨rfl, rfl⟩
  go_wp2_with fail
  refine wp_loop_rounds 15 ?_
  iterate 15 (rw [rounds_succ]; go_wp2_with fail)
  clear hmk
  simp only [pk0, pk1, pk2, pk3, pk4, pk5, pk6, pk7, pk8, pk9, pk10, pk11, pk12, pk13, Int.cast_ofNat_Int]
  have hcv := conv14 i.toNat b w'
  have hsz := offS_size i.toNat b
  have hlt : i.toNat < ({ data := #[110, 111, 116, 105, 102, 105, 99, 97, 116, 105, 111, 110, 115, 47] } : ByteArray).size := by show i.toNat < 14; omega
  have m2 := off_law s i.toNat hlt b b0 b1
  have m3 := short_law i.toNat (by omega)
  clear b0 b1
  refine (isN_any _ _).mono ?_
  rw [isN_pfx]
  rintro e w1 ⟨rfl, rfl⟩
  go_wp2_with fail
  refine (isN_any _ _).mono ?_
  rintro e w1 ⟨rfl, rfl⟩
  go_wp2_with fail
  refine (isN_any _ _).mono ?_
  rintro e w1 ⟨rfl, rfl⟩
  go_wp2
  go_ret
  exact ⟨rfl, (Grown.refl _).alloc _ _⟩

set_option maxHeartbeats 1000000 in
theorem off_all (s : ByteArray) (i b : Int) (w : World) (b0 : 0 ≤ b) (b1 : b ≤ 255) :
    Calls Try.prog 4 #[.string s, .int .i64 i, .int .u8 b] w fun e w' => e = .returned (.bool true) ∧ Grown w w' := by
  by_cases hs : s.size ≤ 1048576
  · have h1 : ¬ (1048576 : Int) < s.size := by omega
    by_cases h0 : i < 0
    · go_enter Try.func4, Try.ntmps4
      go_wp2_with fail
      refine (bytes10_yes _ _ _ hs _).mono ?_
      rintro e w' ⟨rfl, rfl⟩
      go_wp2
      go_ret
      exact ⟨rfl, Grown.refl _⟩
    · by_cases h14 : 14 ≤ i
      · go_enter Try.func4, Try.ntmps4
        go_wp2_with fail
        refine (bytes10_yes _ _ _ hs _).mono ?_
        rintro e w' ⟨rfl, rfl⟩
        go_wp2
        go_ret
        exact ⟨rfl, Grown.refl _⟩
      · exact off_walk s i b w hs (by omega) (by omega) b0 b1
  · go_enter Try.func4, Try.ntmps4
    go_wp2_with fail
    refine (bytes10_no _ _ _ (by omega) _).mono ?_
    rintro e w' ⟨rfl, rfl⟩
    go_wp2
    go_ret
    exact ⟨rfl, Grown.refl _⟩

end Go.Proofs.Qxb6615658a
