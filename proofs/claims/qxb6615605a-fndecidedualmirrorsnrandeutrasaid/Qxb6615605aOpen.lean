/-
  DualCall by value: nine fields of one cell each: opened, shut.
-/
import Derived.Test.Qxb6615605aRows
import Derived.WalkKit
import Derived.ProofKit
import Derived.OpenShut
import Derived.ShutString
namespace Go.Proofs.Qxb6615605a
open Go.ChangeShapes Go.WideShapes Go.ChangeAt Go.RowKit

theorem Try.cells23 : Try.prog.cellsOf 23 = 9 := by kernel_rfl
theorem Try.cells4 : Try.prog.cellsOf 4 = 1 := by kernel_rfl
theorem Try.cells5 : Try.prog.cellsOf 5 = 1 := by kernel_rfl

theorem list9 {α : Type} {l : List α} (h : l.length = 9) : ∃ a b c d e f g i j, l = [a, b, c, d, e, f, g, i, j] := by
  match l, h with
  | [a, b, c, d, e, f, g, i, j], _ => exact ⟨a, b, c, d, e, f, g, i, j, rfl⟩

/-- DualCall, as a value. -/
def callV (mode cell emc emf : Int) (eps emcbs uesfb ueE ueN : Bool) : Value := .agg #[.int .u8 mode, .int .u8 cell, .int .u8 emc, .int .u8 emf, .bool eps, .bool emcbs, .bool uesfb, .bool ueE, .bool ueN]
/-- DualCall, as data. -/
def callD {H : Type} (mode cell emc emf : Int) (eps emcbs uesfb ueE ueN : Bool) : DataW H := .agg [.lit (.int .u8 mode), .lit (.int .u8 cell), .lit (.int .u8 emc), .lit (.int .u8 emf), .lit (.bool eps), .lit (.bool emcbs), .lit (.bool uesfb), .lit (.bool ueE), .lit (.bool ueN)]

theorem open_call {H : Type} {enc : TypeId × Value → H} {w : World} {base : Nat} {spare : Nat → Bool} {held : Bool} {r : Reach} {b0 : Nat} {v : Value} {d : DataW H} {p : List MemPlace}
    (hv : Value.okWide Try.prog w r b0 23 v) (h : DataW.Trod enc Try.prog w base spare held 23 v d p) :
    ∃ (mode cell emc emf : Int) (eps emcbs uesfb ueE ueN : Bool), v = callV mode cell emc emf eps emcbs uesfb ueE ueN ∧ d = callD mode cell emc emf eps emcbs uesfb ueE ueN ∧ p = []
      ∧ (Lit.int .u8 mode).wf = true ∧ (Lit.int .u8 cell).wf = true ∧ (Lit.int .u8 emc).wf = true ∧ (Lit.int .u8 emf).wf = true := by
  obtain ⟨cs, rfl, hsz⟩ := okWide_struct Try.underlying23 hv
  obtain ⟨l⟩ := cs
  obtain ⟨c0, c1, c2, c3, c4, c5, c6, c7, c8, rfl⟩ := list9 (show l.length = 9 by simpa [Try.cells23] using hsz)
  obtain ⟨fuel, hf⟩ := h
  obtain ⟨xs, n, _, hx, _, hlen, hf⟩ := DataW.trod_struct Try.underlying23 hf
  obtain ⟨y0, y1, y2, y3, y4, y5, y6, y7, y8, rfl⟩ := list9 hlen
  have k0 : DataW.trod enc Try.prog w base spare held n 5 [c0] = some y0 := by simpa [Try.cells5, Value.cells] using hf 0 _ rfl
  have k1 : DataW.trod enc Try.prog w base spare held n 5 [c1] = some y1 := by simpa [Try.cells5, Value.cells] using hf 1 _ rfl
  have k2 : DataW.trod enc Try.prog w base spare held n 5 [c2] = some y2 := by simpa [Try.cells5, Value.cells] using hf 2 _ rfl
  have k3 : DataW.trod enc Try.prog w base spare held n 5 [c3] = some y3 := by simpa [Try.cells5, Value.cells] using hf 3 _ rfl
  have k4 : DataW.trod enc Try.prog w base spare held n 4 [c4] = some y4 := by simpa [Try.cells4, Value.cells] using hf 4 _ rfl
  have k5 : DataW.trod enc Try.prog w base spare held n 4 [c5] = some y5 := by simpa [Try.cells4, Value.cells] using hf 5 _ rfl
  have k6 : DataW.trod enc Try.prog w base spare held n 4 [c6] = some y6 := by simpa [Try.cells4, Value.cells] using hf 6 _ rfl
  have k7 : DataW.trod enc Try.prog w base spare held n 4 [c7] = some y7 := by simpa [Try.cells4, Value.cells] using hf 7 _ rfl
  have k8 : DataW.trod enc Try.prog w base spare held n 4 [c8] = some y8 := by simpa [Try.cells4, Value.cells] using hf 8 _ rfl
  obtain ⟨z0, e0, rfl, w0⟩ := DataW.trod_int Try.underlying5 k0
  obtain ⟨z1, e1, rfl, w1⟩ := DataW.trod_int Try.underlying5 k1
  obtain ⟨z2, e2, rfl, w2⟩ := DataW.trod_int Try.underlying5 k2
  obtain ⟨z3, e3, rfl, w3⟩ := DataW.trod_int Try.underlying5 k3
  obtain ⟨z4, e4, rfl⟩ := DataW.trod_bool Try.underlying4 k4
  obtain ⟨z5, e5, rfl⟩ := DataW.trod_bool Try.underlying4 k5
  obtain ⟨z6, e6, rfl⟩ := DataW.trod_bool Try.underlying4 k6
  obtain ⟨z7, e7, rfl⟩ := DataW.trod_bool Try.underlying4 k7
  obtain ⟨z8, e8, rfl⟩ := DataW.trod_bool Try.underlying4 k8
  obtain rfl : c0 = .int .u8 z0 := by simpa using e0
  obtain rfl : c1 = .int .u8 z1 := by simpa using e1
  obtain rfl : c2 = .int .u8 z2 := by simpa using e2
  obtain rfl : c3 = .int .u8 z3 := by simpa using e3
  obtain rfl : c4 = .bool z4 := by simpa using e4
  obtain rfl : c5 = .bool z5 := by simpa using e5
  obtain rfl : c6 = .bool z6 := by simpa using e6
  obtain rfl : c7 = .bool z7 := by simpa using e7
  obtain rfl : c8 = .bool z8 := by simpa using e8
  simp only [List.map_cons, List.map_nil, List.flatMap_cons, List.flatMap_nil, List.append_nil, Prod.mk.injEq] at hx
  obtain ⟨rfl, rfl⟩ := hx
  exact ⟨z0, z1, z2, z3, z4, z5, z6, z7, z8, rfl, rfl, rfl, w0, w1, w2, w3⟩

theorem shut_call {H : Type} {enc : TypeId × Value → H} {w : World} {base : Nat} {spare : Nat → Bool} {held : Bool} {mode cell emc emf : Int} {eps emcbs uesfb ueE ueN : Bool}
    (w0 : (Lit.int .u8 mode).wf = true) (w1 : (Lit.int .u8 cell).wf = true) (w2 : (Lit.int .u8 emc).wf = true) (w3 : (Lit.int .u8 emf).wf = true) :
    DataW.Trod enc Try.prog w base spare held 23 (callV mode cell emc emf eps emcbs uesfb ueE ueN) (callD mode cell emc emf eps emcbs uesfb ueE ueN) [] := by
  have ti : ∀ n, (Lit.int .u8 n).wf = true → DataW.trod enc Try.prog w base spare held 1 5 [.int .u8 n] = some (.lit (.int .u8 n), []) := fun n hn => by simp [DataW.trod, Try.underlying5, hn]
  have tb : ∀ b, DataW.trod enc Try.prog w base spare held 1 4 [.bool b] = some (.lit (.bool b), []) := fun b => by simp [DataW.trod, Try.underlying4]
  have ts := trod_struct_mk (enc := enc) (w := w) (base := base) (spare := spare) (held := held) (n := 1) (cs := [.int .u8 mode, .int .u8 cell, .int .u8 emc, .int .u8 emf, .bool eps, .bool emcbs, .bool uesfb, .bool ueE, .bool ueN])
    (xs := [(.lit (.int .u8 mode), []), (.lit (.int .u8 cell), []), (.lit (.int .u8 emc), []), (.lit (.int .u8 emf), []), (.lit (.bool eps), []), (.lit (.bool emcbs), []), (.lit (.bool uesfb), []), (.lit (.bool ueE), []), (.lit (.bool ueN), [])])
    Try.underlying23 (by simp [Try.cells23]) (by simp [Try.cells4, Try.cells5, ti _ w0, ti _ w1, ti _ w2, ti _ w3, tb])
  exact ⟨2, by simpa [Value.cells, callV, callD] using ts⟩

end Go.Proofs.Qxb6615605a
