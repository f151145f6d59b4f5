/-
  A slice cut at a place: its head and its tail; the plain law of the cut.
-/
import Derived.Test.Qxb6615732aOpen
namespace Go.Proofs.Qxb6615732a
open Go.RowKit

theorem elem_of {T E : TypeId} (hu : Try.prog.underlying T = some (.slice E)) : Try.prog.underlying T = some (.slice (Try.prog.elem T)) := by
  simp [Program.elem, hu]

theorem head_law (T E : TypeId) (hu : Try.prog.underlying T = some (.slice E)) (hs : ∀ w, (sizeOf (Try.prog.elem T)).run Try.prog w = .ok 1 w) (a : Option Addr) (n c k : Nat) (f : Nat → Value) (w : World) (hk : k ≤ n) (r : Reads (.slice a n c) n f w) :
    ∃ v, (∀ w', (Instr.slice T (.slice a n c) none (some (.int .i64 k)) none).run Try.prog w' = .ok v w') ∧ Reads v k f w := by
  obtain ⟨a', c', e, hc, r⟩ := r
  injection e with e1 _ e3
  subst e1 e3
  refine ⟨sliced a 0 k c 1, fun w' => ?_, ?_⟩
  · rw [run_slice_h w' T a n c (elem_of hu) .i64 k (by omega) (by omega), hs]
    simp [Result.andThen]
  · refine ⟨_, _, rfl, by omega, fun h0 => ?_⟩
    obtain ⟨b, o, rfl, hb, hcell⟩ := r (by omega)
    refine ⟨b, o, ?_, hb, fun i hi => hcell i (by omega)⟩
    simp [Addr.add]

theorem tail_law (T E : TypeId) (hu : Try.prog.underlying T = some (.slice E)) (hs : ∀ w, (sizeOf (Try.prog.elem T)).run Try.prog w = .ok 1 w) (a : Option Addr) (n c k : Nat) (f : Nat → Value) (w : World) (hk : k ≤ n) (r : Reads (.slice a n c) n f w) :
    ∃ v, (∀ w', (Instr.slice T (.slice a n c) (some (.int .i64 k)) none none).run Try.prog w' = .ok v w') ∧ Reads v (n - k) (fun i => f (k + i)) w := by
  obtain ⟨a', c', e, hc, r⟩ := r
  injection e with e1 _ e3
  subst e1 e3
  refine ⟨sliced a k n c 1, fun w' => ?_, ?_⟩
  · rw [run_slice_l w' T a n c (elem_of hu) .i64 k (by omega) (by omega), hs]
    simp [Result.andThen]
  · refine ⟨_, _, rfl, by omega, fun h0 => ?_⟩
    obtain ⟨b, o, rfl, hb, hcell⟩ := r (by omega)
    refine ⟨b, o + k, ?_, hb, fun i hi => ?_⟩
    · rw [if_neg (by omega)]
      simp [Addr.add]
    · rw [Nat.add_assoc]; exact hcell (k + i) (by omega)

theorem lower_one {n : Nat} {ts : Nat → Int} {t : Int} {x y : Nat} (hx : Lower n ts t x) (hy : Lower n ts t y) : x = y := by
  rw [← cnt_lower n ts t x hx, cnt_lower n ts t y hy]

theorem sorted_head {n k : Nat} {ts : Nat → Int} (h : Sorted n ts) (hk : k ≤ n) : Sorted k ts := fun i j hij hj => h i j hij (by omega)
theorem sorted_tail {n k : Nat} {ts : Nat → Int} (h : Sorted n ts) (hk : k ≤ n) : Sorted (n - k) (fun i => ts (k + i)) := fun i j hij hj => h (k + i) (k + j) (by omega) (by omega)

/-- THE PLAIN LAW: the head ends before it is through: the whole's answer is the head's. -/
theorem law_head {n k p x : Nat} {ts : Nat → Int} {t : Int} (hs : Sorted n ts) (hk : k ≤ n) (hp : Lower k ts t p) (hx : Lower n ts t x) (h : ¬ p = k) : x = p := by
  refine lower_one hx ⟨by have := hp.1; omega, hp.2.1, fun i hi hn => ?_⟩
  have h1 := hp.2.2 p (Nat.le_refl _) (by have := hp.1; omega)
  have h2 := hs p i hi hn
  omega
/-- THE PLAIN LAW: the head lies wholly before t. -/
theorem law_tail {n k s x : Nat} {ts : Nat → Int} {t : Int} (hk : k ≤ n) (hp : Lower k ts t k) (hq : Lower (n - k) (fun i => ts (k + i)) t s) (hx : Lower n ts t x) : x = k + s := by
  refine lower_one hx ⟨by have := hq.1; omega, fun i hi => ?_, fun i hi hn => ?_⟩
  · by_cases h : i < k
    · exact hp.2.1 i h
    · have : ts (k + (i - k)) < t := hq.2.1 (i - k) (by omega)
      rwa [show k + (i - k) = i by omega] at this
  · have : t ≤ ts (k + (i - k)) := hq.2.2 (i - k) (by omega) (by omega)
    rwa [show k + (i - k) = i by omega] at this

theorem size22 (w : World) : (sizeOf (Try.prog.elem 22)).run Try.prog w = .ok 1 w := by simp [go_sem]
theorem size23 (w : World) : (sizeOf (Try.prog.elem 23)).run Try.prog w = .ok 1 w := by simp [go_sem]
theorem size24 (w : World) : (sizeOf (Try.prog.elem 24)).run Try.prog w = .ok 1 w := by simp [go_sem]
end Go.Proofs.Qxb6615732a
