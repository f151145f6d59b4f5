/-
  THE LEAVES' CONTRACTS: zzMirrorPath (9), zzMirrorCell (11), zzSwapRadios (12), radio.in (18), UE.reaches (19), alternatives.set (20), permit (17).
-/
import Derived.Test.Qxb6615605aRows
import Derived.WalkKit
import Derived.WalkSpells
import Derived.Outline
import Derived.Laws.IdiomCopy
import Derived.Laws.Pointers
import Derived.RowKit3
namespace Go.Proofs.Qxb6615605a
open Go.RowKit

/-- zzMirrorPath. -/
def mp (p : Int) : Int := if p = 3 then 4 else if p = 4 then 3 else if p = 5 then 6 else if p = 6 then 5 else p
/-- zzMirrorCell. -/
def mc (c : Int) : Int := if c = 1 then 2 else if c = 2 then 1 else c

theorem mp_any (p : Int) (w : World) : Calls Try.prog 9 #[.int .u8 p] w fun e w' => e = .returned (.int .u8 (mp p)) ∧ w' = w := by
  by_cases h3 : p = 3
  · subst h3; go_enter Try.func9, Try.ntmps9; go_wp2; go_ret; exact ⟨rfl, rfl⟩
  by_cases h4 : p = 4
  · subst h4; go_enter Try.func9, Try.ntmps9; go_wp2; go_ret; exact ⟨rfl, rfl⟩
  by_cases h5 : p = 5
  · subst h5; go_enter Try.func9, Try.ntmps9; go_wp2; go_ret; exact ⟨rfl, rfl⟩
  by_cases h6 : p = 6
  · subst h6; go_enter Try.func9, Try.ntmps9; go_wp2; go_ret; exact ⟨rfl, rfl⟩
  have e : mp p = p := by simp [mp, h3, h4, h5, h6]
  rw [e]
  have g3 : (p == 3) = false := by simpa using h3
  have g4 : (p == 4) = false := by simpa using h4
  have g5 : (p == 5) = false := by simpa using h5
  have g6 : (p == 6) = false := by simpa using h6
  go_enter Try.func9, Try.ntmps9; go_wp2; go_ret; exact ⟨rfl, rfl⟩

theorem mc_any (p : Int) (w : World) : Calls Try.prog 11 #[.int .u8 p] w fun e w' => e = .returned (.int .u8 (mc p)) ∧ w' = w := by
  by_cases h3 : p = 1
  · subst h3; go_enter Try.func11, Try.ntmps11; go_wp2; go_ret; exact ⟨rfl, rfl⟩
  by_cases h4 : p = 2
  · subst h4; go_enter Try.func11, Try.ntmps11; go_wp2; go_ret; exact ⟨rfl, rfl⟩
  have e : mc p = p := by simp [mc, h3, h4]
  rw [e]
  have g3 : (p == 1) = false := by simpa using h3
  have g4 : (p == 2) = false := by simpa using h4
  go_enter Try.func11, Try.ntmps11; go_wp2; go_ret; exact ⟨rfl, rfl⟩

/-- zzSwapRadios, as the walk spells it. -/
def sw (p : Int) : Int := bits BinOp.or IntKind.u8 (bits BinOp.or IntKind.u8 (bits BinOp.andNot IntKind.u8 p 3) (bits BinOp.and IntKind.u8 p 1 * 2 % 256)) (bits BinOp.and IntKind.u8 p 2 / 2)
/-- radio.in. -/
def isIn (r s : Int) : Bool := bits BinOp.and IntKind.u8 s r != 0

theorem swap_any (p : Int) (w : World) : Calls Try.prog 12 #[.int .u8 p] w fun e w' => e = .returned (.int .u8 (sw p)) ∧ w' = w := by
  go_enter Try.func12, Try.ntmps12
  go_wp2
  go_ret
  exact ⟨rfl, rfl⟩

theorem in_any (r s : Int) (w : World) : Calls Try.prog 18 #[.int .u8 r, .int .u8 s] w fun e w' => e = .returned (.bool (isIn r s)) ∧ w' = w := by
  go_enter Try.func18, Try.ntmps18
  go_wp2
  go_ret
  exact ⟨rfl, rfl⟩

theorem reaches_nr (a b c : Bool) (w : World) : Calls Try.prog 19 #[.agg #[.bool a, .bool b, .bool c], .int .u8 1] w fun e w' => e = .returned (.bool c) ∧ w' = w.alloc (.cells #[.bool a, .bool b, .bool c] 44) := by
  go_enter Try.func19, Try.ntmps19
  go_wp2
  go_ret
  exact ⟨rfl, rfl⟩

theorem reaches_eutra (a b c : Bool) (w : World) : Calls Try.prog 19 #[.agg #[.bool a, .bool b, .bool c], .int .u8 2] w fun e w' => e = .returned (.bool b) ∧ w' = w.alloc (.cells #[.bool a, .bool b, .bool c] 44) := by
  go_enter Try.func19, Try.ntmps19
  go_wp2
  go_ret
  exact ⟨rfl, rfl⟩

theorem Try.info33 : (Try.prog.info? 33).map (·.size) = some 1 := by kernel_rfl

theorem permit1 (b : Nat) (a : Addr) (x : Int) (y n : Value) (w : World) (hsrc : w.cell? a = some (.int .u8 x))
    (h3 : w.cell? ⟨b, 3, none⟩ = some y) (h5 : w.cell? ⟨b, 5, none⟩ = some n)
    (f3 : w.frozen? ⟨b, 3, none⟩ = false) (f5 : w.frozen? ⟨b, 5, none⟩ = false) :
    Calls Try.prog 17 #[.pointer (some ⟨b, 0, none⟩), .slice (some a) 1 1] w fun e w' => e = .returned (.tuple #[]) ∧ w' = (w.setCell ⟨b, 3, none⟩ (.int .u8 x)).setCell ⟨b, 5, none⟩ (.int .u8 1) := by
  have hcp : (Builtin.copy_ #[58, 58] 3 #[.slice (some ⟨b, 3, none⟩) 2 2, .slice (some a) 1 1]).run Try.prog w = .ok (.int .i64 1) (w.setCell ⟨b, 3, none⟩ (.int .u8 x)) := by
    refine run_copy_cells (P := Try.prog) w 58 58 3 33 b 3 2 2 a 1 1 [.int .u8 x] Try.underlying58 Try.info33 rfl ?_ ?_ ?_ ?_
    · intro j v hj
      match j, hj with
      | 0, hj => simp at hj; subst hj; exact hsrc
    · intro j hj
      obtain rfl : j = 0 := by simpa using hj
      simp [h3]
    · intro j hj
      obtain rfl : j = 0 := by simpa using hj
      exact f3
    · intro v hv
      simp at hv; subst hv; rfl
  go_enter Try.func17, Try.ntmps17
  go_wp2
  go_end0
  go_wp2
  go_end0
  exact ⟨rfl, rfl⟩

theorem permit2 (b : Nat) (a : Addr) (x1 x2 : Int) (y z n : Value) (w : World) (hsrc1 : w.cell? a = some (.int .u8 x1)) (hsrc2 : w.cell? (a.add 1) = some (.int .u8 x2))
    (h3 : w.cell? ⟨b, 3, none⟩ = some y) (h4 : w.cell? ⟨b, 4, none⟩ = some z) (h5 : w.cell? ⟨b, 5, none⟩ = some n)
    (f3 : w.frozen? ⟨b, 3, none⟩ = false) (f4 : w.frozen? ⟨b, 4, none⟩ = false) (f5 : w.frozen? ⟨b, 5, none⟩ = false) :
    Calls Try.prog 17 #[.pointer (some ⟨b, 0, none⟩), .slice (some a) 2 2] w fun e w' => e = .returned (.tuple #[]) ∧ w' = ((w.setCell ⟨b, 3, none⟩ (.int .u8 x1)).setCell ⟨b, 4, none⟩ (.int .u8 x2)).setCell ⟨b, 5, none⟩ (.int .u8 2) := by
  have hcp : (Builtin.copy_ #[58, 58] 3 #[.slice (some ⟨b, 3, none⟩) 2 2, .slice (some a) 2 2]).run Try.prog w = .ok (.int .i64 2) ((w.setCell ⟨b, 3, none⟩ (.int .u8 x1)).setCell ⟨b, 4, none⟩ (.int .u8 x2)) := by
    refine run_copy_cells (P := Try.prog) w 58 58 3 33 b 3 2 2 a 2 2 [.int .u8 x1, .int .u8 x2] Try.underlying58 Try.info33 rfl ?_ ?_ ?_ ?_
    · intro j v hj
      match j, hj with
      | 0, hj => simp at hj; subst hj; exact hsrc1
      | 1, hj => simp at hj; subst hj; exact hsrc2
    · intro j hj
      match j, hj with
      | 0, _ => simp [h3]
      | 1, _ => simp [h4]
    · intro j hj
      match j, hj with
      | 0, _ => exact f3
      | 1, _ => exact f4
    · intro v hv
      simp at hv; rcases hv with rfl | rfl <;> rfl
  go_enter Try.func17, Try.ntmps17
  go_wp2
  go_end0
  go_wp2
  go_end0
  exact ⟨rfl, rfl⟩

end Go.Proofs.Qxb6615605a
