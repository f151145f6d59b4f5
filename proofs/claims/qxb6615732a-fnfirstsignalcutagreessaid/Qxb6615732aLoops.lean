/-
  zzSorted (7), zzCountBelow (10), zzBytesWithin (6), zzBytes (5, 11).
-/
import Derived.Test.Qxb6615732aHist
namespace Go.Proofs.Qxb6615732a
open Go.RowKit

/-- It returns a bool. -/
def Answers (e : Ending) : Prop := ∃ r : Bool, e = .returned (.bool r)
theorem answers (r : Bool) : Answers (.returned (.bool r)) := ⟨r, rfl⟩

set_option maxHeartbeats 400000 in
/-- zzBytesWithin: it answers, and nothing has turned. -/
theorem within_some (a1 a3 : Option Addr) (n1 c1 n2 c2 n3 c3 b o : Nat) (ss : Nat → ByteArray) (w : World) (h1 : n1 ≤ 65536) (h2 : n2 ≤ 65536) (h3 : n3 ≤ 65536)
    (e2 : ∀ i, i < n2 → w.cell? ⟨b, o + i, none⟩ = some (.string (ss i))) :
    Calls Try.prog 6 #[.slice a1 n1 c1, .slice (some ⟨b, o, none⟩) n2 c2, .slice a3 n3 c3] w fun e w' => Answers e ∧ w' = w := by
  have HE := (show Hid _ from e2)
  clear e2
  go_enter Try.func6, Try.ntmps6
  go_wp2
  · go_ret
    exact ⟨answers _, rfl⟩
  · go_loop [7, 8] (fun x i => ∃ (z : Int) (k : Nat), k ≤ n2 ∧ x = .int .i64 z ∧ i = .int .i64 k) (fun _ i => n2 - (intOf i).toNat)
    case atStart => exact ⟨_, 0, Nat.zero_le _, rfl, rfl⟩
    case round =>
      obtain ⟨z, k, hk, rfl, rfl⟩ := hrel
      by_cases hlt : k < n2
      · have d := HE.out k hlt
        have hkn : (k : Int) < n2 := by omega
        go_wp2
        · go_ret
          exact ⟨answers _, rfl⟩
        · go_round
          case rel => exact ⟨_, k + 1, by omega, rfl, by go_num⟩
          case measure => simp [intOf]; omega
      · go_wp2
        go_ret
        exact ⟨answers _, rfl⟩

set_option maxHeartbeats 1000000 in
theorem bytes5_some (a1 a3 : Option Addr) (n1 c1 n2 c2 n3 c3 b o : Nat) (ss : Nat → ByteArray) (x y : Int) (w : World) (h1 : n1 ≤ 9223372036854775807) (h2 : n2 ≤ 9223372036854775807) (h3 : n3 ≤ 9223372036854775807)
    (e2 : ∀ i, i < n2 → w.cell? ⟨b, o + i, none⟩ = some (.string (ss i))) :
    Calls Try.prog 5 #[.slice a1 n1 c1, .slice (some ⟨b, o, none⟩) n2 c2, .slice a3 n3 c3, .int .i64 x, .int .i64 y] w fun e w' => Answers e ∧ w' = w := by
  have HE := (show Hid _ from e2)
  clear e2
  by_cases g1 : (1048576 : Int) < n1
  · go_enter Try.func5, Try.ntmps5
    go_wp2
    go_ret
    exact ⟨answers _, rfl⟩
  by_cases g2 : (1048576 : Int) < n2
  · go_enter Try.func5, Try.ntmps5
    go_wp2
    go_ret
    exact ⟨answers _, rfl⟩
  by_cases g3 : (1048576 : Int) < (n1 : Int) + n2
  · go_enter Try.func5, Try.ntmps5
    go_wp2
    go_ret
    exact ⟨answers _, rfl⟩
  go_enter Try.func5, Try.ntmps5
  go_wp2
  go_loop [11, 12] (fun v i => ∃ (z : Int) (k : Nat), k ≤ n2 ∧ 0 ≤ z ∧ z ≤ 1048576 ∧ v = .int .i64 z ∧ i = .int .i64 k) (fun _ i => n2 - (intOf i).toNat)
  case atStart => exact ⟨_, 0, Nat.zero_le _, by omega, by omega, rfl, rfl⟩
  case round =>
    obtain ⟨z, k, hk, z0, z1, rfl, rfl⟩ := hrel
    by_cases hlt : k < n2
    · have d := HE.out k hlt
      have hkn : (k : Int) < n2 := by omega
      by_cases q1 : (1048576 : Int) < (ss k).size
      · go_wp2
        go_ret
        exact ⟨answers _, rfl⟩
      by_cases q2 : (1048576 : Int) < z + (ss k).size
      · go_wp2
        go_ret
        exact ⟨answers _, rfl⟩
      go_wp2
      go_round
      case rel => exact ⟨_, k + 1, by omega, by omega, by omega, rfl, by go_num⟩
      case measure => simp [intOf]; omega
    · by_cases q1 : (1048576 : Int) < n3
      · go_wp2
        go_ret
        exact ⟨answers _, rfl⟩
      by_cases q2 : (1048576 : Int) < z + n3
      · go_wp2
        go_ret
        exact ⟨answers _, rfl⟩
      go_wp2
      go_ret
      exact ⟨answers _, rfl⟩

set_option maxHeartbeats 1000000 in
theorem bytes11_some (a1 a3 : Option Addr) (n1 c1 n2 c2 n3 c3 b o : Nat) (ss : Nat → ByteArray) (x y : Int) (w : World) (h1 : n1 ≤ 9223372036854775807) (h2 : n2 ≤ 9223372036854775807) (h3 : n3 ≤ 9223372036854775807)
    (e2 : ∀ i, i < n2 → w.cell? ⟨b, o + i, none⟩ = some (.string (ss i))) :
    Calls Try.prog 11 #[.slice a1 n1 c1, .slice (some ⟨b, o, none⟩) n2 c2, .slice a3 n3 c3, .int .i64 x, .int .i64 y] w fun e w' => Answers e ∧ w' = w := by
  have HE := (show Hid _ from e2)
  clear e2
  by_cases g1 : (1048576 : Int) < n1
  · go_enter Try.func11, Try.ntmps11
    go_wp2
    go_ret
    exact ⟨answers _, rfl⟩
  by_cases g2 : (1048576 : Int) < n2
  · go_enter Try.func11, Try.ntmps11
    go_wp2
    go_ret
    exact ⟨answers _, rfl⟩
  by_cases g3 : (1048576 : Int) < (n1 : Int) + n2
  · go_enter Try.func11, Try.ntmps11
    go_wp2
    go_ret
    exact ⟨answers _, rfl⟩
  go_enter Try.func11, Try.ntmps11
  go_wp2
  go_loop [11, 12] (fun v i => ∃ (z : Int) (k : Nat), k ≤ n2 ∧ 0 ≤ z ∧ z ≤ 1048576 ∧ v = .int .i64 z ∧ i = .int .i64 k) (fun _ i => n2 - (intOf i).toNat)
  case atStart => exact ⟨_, 0, Nat.zero_le _, by omega, by omega, rfl, rfl⟩
  case round =>
    obtain ⟨z, k, hk, z0, z1, rfl, rfl⟩ := hrel
    by_cases hlt : k < n2
    · have d := HE.out k hlt
      have hkn : (k : Int) < n2 := by omega
      by_cases q1 : (1048576 : Int) < (ss k).size
      · go_wp2
        go_ret
        exact ⟨answers _, rfl⟩
      by_cases q2 : (1048576 : Int) < z + (ss k).size
      · go_wp2
        go_ret
        exact ⟨answers _, rfl⟩
      go_wp2
      go_round
      case rel => exact ⟨_, k + 1, by omega, by omega, by omega, rfl, by go_num⟩
      case measure => simp [intOf]; omega
    · by_cases q1 : (1048576 : Int) < n3
      · go_wp2
        go_ret
        exact ⟨answers _, rfl⟩
      by_cases q2 : (1048576 : Int) < z + n3
      · go_wp2
        go_ret
        exact ⟨answers _, rfl⟩
      go_wp2
      go_ret
      exact ⟨answers _, rfl⟩

end Go.Proofs.Qxb6615732a
