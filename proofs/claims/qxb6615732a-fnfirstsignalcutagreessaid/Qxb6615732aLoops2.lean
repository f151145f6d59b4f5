/-
  The loops over an empty list; zzBytes, zzBytesWithin whole; zzSorted (7), zzCountBelow (10).
-/
import Derived.Test.Qxb6615732aLoops
namespace Go.Proofs.Qxb6615732a
open Go.RowKit

set_option maxHeartbeats 400000 in
theorem bytes5_none (a1 a2 a3 : Option Addr) (n1 c1 c2 n3 c3 : Nat) (x y : Int) (w : World) (h1 : n1 ≤ 9223372036854775807) (h3 : n3 ≤ 9223372036854775807) :
    Calls Try.prog 5 #[.slice a1 n1 c1, .slice a2 0 c2, .slice a3 n3 c3, .int .i64 x, .int .i64 y] w fun e w' => Answers e ∧ w' = w := by
  by_cases g1 : (1048576 : Int) < n1
  · go_enter Try.func5, Try.ntmps5
    go_wp2
    go_ret
    exact ⟨answers _, rfl⟩
  go_enter Try.func5, Try.ntmps5
  go_wp2
  refine wp_loop_rounds 1 ?_
  rw [rounds_succ]
  by_cases q1 : (1048576 : Int) < n3
  · go_wp2
    go_ret
    exact ⟨answers _, rfl⟩
  by_cases q2 : (1048576 : Int) < (n1 : Int) + n3
  · go_wp2
    go_ret
    exact ⟨answers _, rfl⟩
  go_wp2
  go_ret
  exact ⟨answers _, rfl⟩

/-- zzBytes: it answers, and nothing has turned. -/
theorem bytes5_any (vt vs vx : Value) (n1 n2 n3 : Nat) (f1 : Nat → Value) (ss : Nat → ByteArray) (f3 : Nat → Value) (x y : Int) (w : World) (h1 : n1 ≤ 9223372036854775807) (h2 : n2 ≤ 9223372036854775807) (h3 : n3 ≤ 9223372036854775807)
    (r1 : Reads vt n1 f1 w) (r2 : Reads vs n2 (fun i => .string (ss i)) w) (r3 : Reads vx n3 f3 w) :
    Calls Try.prog 5 #[vt, vs, vx, .int .i64 x, .int .i64 y] w fun e w' => Answers e ∧ w' = w := by
  obtain ⟨a1, c1, rfl, _, _⟩ := r1
  obtain ⟨a2, c2, rfl, _, e2⟩ := r2
  obtain ⟨a3, c3, rfl, _, _⟩ := r3
  by_cases h0 : 0 < n2
  · obtain ⟨b, o, rfl, _, e2⟩ := e2 h0
    exact bytes5_some a1 a3 n1 c1 n2 c2 n3 c3 b o ss x y w h1 h2 h3 e2
  · obtain rfl : n2 = 0 := by omega
    exact bytes5_none a1 a2 a3 n1 c1 c2 n3 c3 x y w h1 h3

set_option maxHeartbeats 400000 in
theorem bytes11_none (a1 a2 a3 : Option Addr) (n1 c1 c2 n3 c3 : Nat) (x y : Int) (w : World) (h1 : n1 ≤ 9223372036854775807) (h3 : n3 ≤ 9223372036854775807) :
    Calls Try.prog 11 #[.slice a1 n1 c1, .slice a2 0 c2, .slice a3 n3 c3, .int .i64 x, .int .i64 y] w fun e w' => Answers e ∧ w' = w := by
  by_cases g1 : (1048576 : Int) < n1
  · go_enter Try.func11, Try.ntmps11
    go_wp2
    go_ret
    exact ⟨answers _, rfl⟩
  go_enter Try.func11, Try.ntmps11
  go_wp2
  refine wp_loop_rounds 1 ?_
  rw [rounds_succ]
  by_cases q1 : (1048576 : Int) < n3
  · go_wp2
    go_ret
    exact ⟨answers _, rfl⟩
  by_cases q2 : (1048576 : Int) < (n1 : Int) + n3
  · go_wp2
    go_ret
    exact ⟨answers _, rfl⟩
  go_wp2
  go_ret
  exact ⟨answers _, rfl⟩

/-- zzBytes: it answers, and nothing has turned. -/
theorem bytes11_any (vt vs vx : Value) (n1 n2 n3 : Nat) (f1 : Nat → Value) (ss : Nat → ByteArray) (f3 : Nat → Value) (x y : Int) (w : World) (h1 : n1 ≤ 9223372036854775807) (h2 : n2 ≤ 9223372036854775807) (h3 : n3 ≤ 9223372036854775807)
    (r1 : Reads vt n1 f1 w) (r2 : Reads vs n2 (fun i => .string (ss i)) w) (r3 : Reads vx n3 f3 w) :
    Calls Try.prog 11 #[vt, vs, vx, .int .i64 x, .int .i64 y] w fun e w' => Answers e ∧ w' = w := by
  obtain ⟨a1, c1, rfl, _, _⟩ := r1
  obtain ⟨a2, c2, rfl, _, e2⟩ := r2
  obtain ⟨a3, c3, rfl, _, _⟩ := r3
  by_cases h0 : 0 < n2
  · obtain ⟨b, o, rfl, _, e2⟩ := e2 h0
    exact bytes11_some a1 a3 n1 c1 n2 c2 n3 c3 b o ss x y w h1 h2 h3 e2
  · obtain rfl : n2 = 0 := by omega
    exact bytes11_none a1 a2 a3 n1 c1 c2 n3 c3 x y w h1 h3

set_option maxHeartbeats 400000 in
theorem within_none (a1 a2 a3 : Option Addr) (n1 c1 c2 n3 c3 : Nat) (w : World) (h1 : n1 ≤ 65536) (h3 : n3 ≤ 65536) :
    Calls Try.prog 6 #[.slice a1 n1 c1, .slice a2 0 c2, .slice a3 n3 c3] w fun e w' => Answers e ∧ w' = w := by
  by_cases g1 : (1048576 : Int) < 8 * (n1 : Int) + n3
  · go_enter Try.func6, Try.ntmps6
    go_wp2
    go_ret
    exact ⟨answers _, rfl⟩
  go_enter Try.func6, Try.ntmps6
  go_wp2
  refine wp_loop_rounds 1 ?_
  rw [rounds_succ]
  go_wp2
  go_ret
  exact ⟨answers _, rfl⟩

/-- zzBytesWithin: it answers, and nothing has turned. -/
theorem within_any (vt vs vx : Value) (n1 n2 n3 : Nat) (f1 : Nat → Value) (ss : Nat → ByteArray) (f3 : Nat → Value) (w : World) (h1 : n1 ≤ 65536) (h2 : n2 ≤ 65536) (h3 : n3 ≤ 65536)
    (r1 : Reads vt n1 f1 w) (r2 : Reads vs n2 (fun i => .string (ss i)) w) (r3 : Reads vx n3 f3 w) :
    Calls Try.prog 6 #[vt, vs, vx] w fun e w' => Answers e ∧ w' = w := by
  obtain ⟨a1, c1, rfl, _, _⟩ := r1
  obtain ⟨a2, c2, rfl, _, e2⟩ := r2
  obtain ⟨a3, c3, rfl, _, _⟩ := r3
  by_cases h0 : 0 < n2
  · obtain ⟨b, o, rfl, _, e2⟩ := e2 h0
    exact within_some a1 a3 n1 c1 n2 c2 n3 c3 b o ss w h1 h2 h3 e2
  · obtain rfl : n2 = 0 := by omega
    exact within_none a1 a2 a3 n1 c1 c2 n3 c3 w h1 h3

/-- In order. -/
def Sorted (n : Nat) (ts : Nat → Int) : Prop := ∀ i j, i ≤ j → j < n → ts i ≤ ts j

theorem sorted_of_next (n : Nat) (ts : Nat → Int) (h : ∀ j, j + 1 < n → ts j ≤ ts (j + 1)) : Sorted n ts := by
  intro i j hij
  induction j with
  | zero => intro _; obtain rfl : i = 0 := by omega
            exact Int.le_refl _
  | succ j ih =>
    intro hj
    by_cases e : i = j + 1
    · subst e; exact Int.le_refl _
    · exact Int.le_trans (ih (by omega) (by omega)) (h j hj)

/-- What zzSorted answers. -/
def SaysSorted (n : Nat) (ts : Nat → Int) (e : Ending) : Prop := ∃ r : Bool, e = .returned (.bool r) ∧ (r = true → Sorted n ts)

set_option maxHeartbeats 400000 in
theorem sorted_some (n c b o : Nat) (ts : Nat → Int) (w : World) (hn : n ≤ 65536) (e1 : ∀ i, i < n → w.cell? ⟨b, o + i, none⟩ = some (.int .i64 (ts i))) :
    Calls Try.prog 7 #[.slice (some ⟨b, o, none⟩) n c] w fun e w' => SaysSorted n ts e ∧ ∃ d, w' = w.drewN d := by
  have HE := (show Hid _ from e1)
  clear e1
  go_enter Try.func7, Try.ntmps7
  go_wp2
  go_loopw [3] (fun i wr => ∃ (k d : Nat), i = .int .i64 ((k : Int) + 1) ∧ wr = w.drewN d ∧ k ≤ n ∧ Hid (∀ j, j + 1 < k + 1 → j + 1 < n → ts j ≤ ts (j + 1))) (fun i _ => n - (intOf i).toNat)
  case atStart => exact ⟨0, 0, by go_num, rfl, Nat.zero_le _, fun j h => by omega⟩
  case round =>
    obtain ⟨k, d, rfl, rfl, hk, HK⟩ := hrel
    by_cases hlt : k + 1 < n
    · have d1 := HE.out (k + 1) hlt
      have d0 := HE.out k (by omega)
      have hkn : (k : Int) + 1 < n := by omega
      by_cases hc : ts (k + 1) < ts k
      · go_wp2_with fail
        go_quiet (fail)
        go_wp2
        go_ret
        exact ⟨⟨false, rfl, fun h => by cases h⟩, d + _, World.drewN_drewN _ _ _⟩
      · have HK2 : Hid (∀ j, j + 1 < k + 1 + 1 → j + 1 < n → ts j ≤ ts (j + 1)) := fun j hj hn' => by
          by_cases e : j = k
          · subst e; omega
          · exact HK.out j (by omega) hn'
        go_wp2_with fail
        go_quiet (fail)
        go_wp2
        go_roundw
        case rel => exact ⟨k + 1, _, by go_num, rfl, by omega, HK2⟩
        case measure => simp [intOf]; omega
    · have HS : Hid (Sorted n ts) := sorted_of_next n ts fun j hj => HK.out j (by omega) hj
      go_wp2
      go_ret
      exact ⟨⟨true, rfl, fun _ => HS.out⟩, _, rfl⟩

set_option maxHeartbeats 400000 in
theorem sorted_none (a : Option Addr) (c : Nat) (ts : Nat → Int) (w : World) :
    Calls Try.prog 7 #[.slice a 0 c] w fun e w' => SaysSorted 0 ts e ∧ ∃ d, w' = w.drewN d := by
  go_enter Try.func7, Try.ntmps7
  go_wp2
  refine wp_loop_rounds 1 ?_
  rw [rounds_succ]
  go_wp2
  go_ret
  exact ⟨⟨true, rfl, fun _ i j _ h => by omega⟩, 0, rfl⟩

/-- zzSorted. -/
theorem sorted_any (vt : Value) (n : Nat) (ts : Nat → Int) (w : World) (hn : n ≤ 65536) (r1 : Reads vt n (fun i => .int .i64 (ts i)) w) :
    Calls Try.prog 7 #[vt] w fun e w' => SaysSorted n ts e ∧ ∃ d, w' = w.drewN d := by
  obtain ⟨a, c, rfl, _, e1⟩ := r1
  by_cases h0 : 0 < n
  · obtain ⟨b, o, rfl, _, e1⟩ := e1 h0
    exact sorted_some n c b o ts w hn e1
  · obtain rfl : n = 0 := by omega
    exact sorted_none a c ts w

/-- How many of the first k times lie before t. -/
def cnt (ts : Nat → Int) (t : Int) : Nat → Nat
  | 0 => 0
  | k + 1 => cnt ts t k + if ts k < t then 1 else 0
theorem cnt_le (ts : Nat → Int) (t : Int) : ∀ k, cnt ts t k ≤ k
  | 0 => Nat.le_refl _
  | k + 1 => by have := cnt_le ts t k; unfold cnt; split <;> omega
theorem cnt_lower (n : Nat) (ts : Nat → Int) (t : Int) (k : Nat) (h : Lower n ts t k) : cnt ts t n = k := by
  obtain ⟨hk, h1, h2⟩ := h
  have a : ∀ j, j ≤ k → cnt ts t j = j := by
    intro j
    induction j with
    | zero => intro _; rfl
    | succ j ih => intro hj; rw [cnt, ih (by omega), if_pos (h1 j (by omega))]
  have b : ∀ d, k + d ≤ n → cnt ts t (k + d) = k := by
    intro d
    induction d with
    | zero => intro _; exact a k (Nat.le_refl _)
    | succ d ih =>
      intro hd
      rw [← Nat.add_assoc, cnt, ih (by omega), if_neg (by have := h2 (k + d) (by omega) (by omega); omega)]
      rfl
  have := b (n - k) (by omega)
  rwa [show k + (n - k) = n by omega] at this

set_option maxHeartbeats 400000 in
theorem count_some (n c b o : Nat) (ts : Nat → Int) (t : Int) (w : World) (hn : n ≤ 65536) (e1 : ∀ i, i < n → w.cell? ⟨b, o + i, none⟩ = some (.int .i64 (ts i))) :
    Calls Try.prog 10 #[.slice (some ⟨b, o, none⟩) n c, .int .i64 t] w fun e w' => e = .returned (.int .i64 (cnt ts t n)) ∧ w' = w := by
  have HE := (show Hid _ from e1)
  clear e1
  go_enter Try.func10, Try.ntmps10
  go_wp2
  go_loop [5, 6] (fun x i => ∃ k : Nat, k ≤ n ∧ x = .int .i64 (cnt ts t k) ∧ i = .int .i64 k) (fun _ i => n - (intOf i).toNat)
  case atStart => exact ⟨0, Nat.zero_le _, rfl, rfl⟩
  case round =>
    obtain ⟨k, hk, rfl, rfl⟩ := hrel
    by_cases hlt : k < n
    · have d1 := HE.out k hlt
      have hkn : (k : Int) < n := by omega
      have hb := cnt_le ts t k
      by_cases hc : ts k < t
      · have HN : Hid (cnt ts t (k + 1) = cnt ts t k + 1) := by show _ = _; rw [cnt, if_pos hc]
        go_wp2
        go_round
        case rel => exact ⟨k + 1, by omega, by rw [HN.out]; go_num, by go_num⟩
        case measure => simp [intOf]; omega
      · have HN : Hid (cnt ts t (k + 1) = cnt ts t k) := by show _ = _; rw [cnt, if_neg hc]; rfl
        go_wp2
        go_round
        case rel => exact ⟨k + 1, by omega, by rw [HN.out], by go_num⟩
        case measure => simp [intOf]; omega
    · obtain rfl : k = n := by omega
      go_wp2
      go_ret
      exact ⟨rfl, rfl⟩

set_option maxHeartbeats 400000 in
theorem count_none (a : Option Addr) (c : Nat) (ts : Nat → Int) (t : Int) (w : World) :
    Calls Try.prog 10 #[.slice a 0 c, .int .i64 t] w fun e w' => e = .returned (.int .i64 (cnt ts t 0)) ∧ w' = w := by
  go_enter Try.func10, Try.ntmps10
  go_wp2
  refine wp_loop_rounds 1 ?_
  rw [rounds_succ]
  go_wp2
  go_ret
  exact ⟨rfl, rfl⟩

/-- zzCountBelow. -/
theorem count_any (vt : Value) (n : Nat) (ts : Nat → Int) (t : Int) (w : World) (hn : n ≤ 65536) (r1 : Reads vt n (fun i => .int .i64 (ts i)) w) :
    Calls Try.prog 10 #[vt, .int .i64 t] w fun e w' => e = .returned (.int .i64 (cnt ts t n)) ∧ w' = w := by
  obtain ⟨a, c, rfl, _, e1⟩ := r1
  by_cases h0 : 0 < n
  · obtain ⟨b, o, rfl, _, e1⟩ := e1 h0
    exact count_some n c b o ts t w hn e1
  · obtain rfl : n = 0 := by omega
    exact count_none a c ts t w

end Go.Proofs.Qxb6615732a
