/-
  The three slices that come in, opened.
-/
import Derived.Test.Qxb6615732aCopy
import Derived.ProofKit
import Derived.OpenShut
import Derived.ShutString
import Derived.SliceStrings
import Derived.Deep.Grids
import Derived.ChangeOld
namespace Go.Proofs.Qxb6615732a
open Go.ChangeShapes Go.WideShapes Go.ChangeAt Go.RowKit

/-- A time fits int64. -/
def Fits (t : Int) : Prop := -9223372036854775808 ≤ t ∧ t ≤ 9223372036854775807

theorem fits_of_wf {t : Int} (h : (Lit.int .i64 t).wf = true) : Fits t := by
  simp [Lit.wf, IntKind.min, IntKind.max, IntKind.signed, IntKind.bits] at h
  unfold Fits; omega

theorem cell_lt {w : World} {a : Addr} {v : Value} (h : w.cell? a = some v) : a.block < w.heap.size := by
  unfold World.cell? at h
  rcases Nat.lt_or_ge a.block w.heap.size with h' | h'
  · exact h'
  · rw [Array.getElem?_eq_none h'] at h; cases h

theorem reads_of {w : World} {a : Addr} {len cap : Nat} {f : Nat → Value} (hl : len ≤ cap) (hc : ∀ i, i < len → w.cell? (a.add i) = some (f i)) : Reads (.slice (some a) len cap) len f w := by
  refine ⟨_, cap, rfl, hl, fun h0 => ?_⟩
  obtain ⟨b, off, spot⟩ := a
  have hspot : spot = none := by simpa [Addr.add] using World.cell?_spot (hc 0 h0)
  subst hspot
  exact ⟨b, off, rfl, by have := cell_lt (hc 0 h0); simpa [Addr.add] using this, fun i hi => by rw [← Go.WideShapes.add_plain]; exact hc i hi⟩
theorem reads_nil (f : Nat → Value) (w : World) : Reads (.slice none 0 0) 0 f w := ⟨none, 0, rfl, Nat.le_refl _, fun h => by omega⟩

section
variable {H : Type} {enc : TypeId × Value → H} {W : World}

theorem open_times {v : Value} {d : DataW H} {p : List MemPlace} (hv : ∃ a len cap, v = .slice a len cap) (h : DataW.Trod enc Try.prog W 0 (fun _ => true) true 22 v d p) :
    ∃ (a : Option Addr) (n c : Nat) (ts : Nat → Int), v = .slice a n c ∧ n ≤ 9223372036854775807 ∧ (∀ i, Fits (ts i)) ∧ Reads (.slice a n c) n (fun i => .int .i64 (ts i)) W := by
  obtain ⟨a, len, cap, rfl⟩ := hv
  obtain ⟨fuel, hf⟩ := h
  rcases open_ints Try.underlying22 Try.underlying2 (by kernel_rfl) hf with ⟨hcs, _⟩ | ⟨x, l, c, zs, hcs, _, hl, hm, hz, _, hcell, hwz⟩
  · simp [Value.cells] at hcs
    obtain ⟨rfl, rfl, rfl⟩ := hcs
    exact ⟨none, 0, 0, fun _ => 0, rfl, by omega, fun _ => (show Fits 0 by unfold Fits; omega), reads_nil _ _⟩
  · simp [Value.cells] at hcs
    obtain ⟨rfl, rfl, rfl⟩ := hcs
    simp only [if_true] at hz
    unfold maxLen at hm
    refine ⟨_, _, _, fun i => zs.getD i 0, rfl, by omega, fun i => ?_, reads_of hl fun i hi => hcell i (by omega)⟩
    by_cases hi : i < zs.length
    · have e : zs.getD i 0 = zs[i] := by simp [List.getD, hi]
      show Fits (zs.getD i 0)
      rw [e]
      exact fits_of_wf (hwz _ (List.getElem_mem hi))
    · have e : zs.getD i 0 = 0 := by simp [List.getD, List.getElem?_eq_none (by omega : zs.length ≤ i)]
      show Fits (zs.getD i 0)
      rw [e]
      unfold Fits; omega

theorem open_sensors {v : Value} {d : DataW H} {p : List MemPlace} (hv : ∃ a len cap, v = .slice a len cap) (h : DataW.Trod enc Try.prog W 0 (fun _ => true) true 23 v d p) :
    ∃ (a : Option Addr) (n c : Nat) (ss : Nat → ByteArray), v = .slice a n c ∧ n ≤ 9223372036854775807 ∧ Reads (.slice a n c) n (fun i => .string (ss i)) W := by
  obtain ⟨a, len, cap, rfl⟩ := hv
  obtain ⟨fuel, hf⟩ := h
  rcases open_strings Try.underlying23 Try.underlying9 (by kernel_rfl) hf with ⟨hcs, _⟩ | ⟨x, l, c, zs, hcs, _, hl, hm, hz, _, hcell, _⟩
  · simp [Value.cells] at hcs
    obtain ⟨rfl, rfl, rfl⟩ := hcs
    exact ⟨none, 0, 0, fun _ => ByteArray.empty, rfl, by omega, reads_nil _ _⟩
  · simp [Value.cells] at hcs
    obtain ⟨rfl, rfl, rfl⟩ := hcs
    simp only [if_true] at hz
    unfold maxLen at hm
    exact ⟨_, _, _, fun i => zs.getD i ByteArray.empty, rfl, by omega, reads_of hl fun i hi => hcell i (by omega)⟩

theorem open_alerts {v : Value} {d : DataW H} {p : List MemPlace} (hv : ∃ a len cap, v = .slice a len cap) (h : DataW.Trod enc Try.prog W 0 (fun _ => true) true 24 v d p) :
    ∃ (a : Option Addr) (n c : Nat) (xs : Nat → Bool), v = .slice a n c ∧ n ≤ 9223372036854775807 ∧ Reads (.slice a n c) n (fun i => .bool (xs i)) W := by
  obtain ⟨a, len, cap, rfl⟩ := hv
  obtain ⟨fuel, hf⟩ := h
  rcases Go.Deep.open_bools Try.underlying24 Try.underlying4 (by kernel_rfl) hf with ⟨hcs, _⟩ | ⟨x, l, c, B, hcs, _, hl, hm, _, hcell⟩
  · simp [Value.cells] at hcs
    obtain ⟨rfl, rfl, rfl⟩ := hcs
    exact ⟨none, 0, 0, fun _ => false, rfl, by omega, reads_nil _ _⟩
  · simp [Value.cells] at hcs
    obtain ⟨rfl, rfl, rfl⟩ := hcs
    unfold maxLen at hm
    exact ⟨_, _, _, B, rfl, by omega, reads_of hl fun i hi => hcell i (by omega)⟩
end

end Go.Proofs.Qxb6615732a
