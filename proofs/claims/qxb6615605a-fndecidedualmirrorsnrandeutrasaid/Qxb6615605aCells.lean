/-
  Rows of cells, told whole.
-/
import Derived.Test.Qxb6615605aRows
import Derived.WalkKit
import Derived.RowKit3
namespace Go.Proofs.Qxb6615605a
open Go.RowKit

/-- Block b is there and holds vs from its head on. -/
def Row (b : Nat) (vs : List Value) (w : World) : Prop := b < w.heap.size ∧ ∀ k v, vs[k]? = some v → w.cell? ⟨b, k, none⟩ = some v

theorem row_below {b B : Nat} {vs : List Value} {w w' : World} (h : Row b vs w) (hb : Below B w w') (hB : b < B) : Row b vs w' :=
  ⟨Nat.lt_of_lt_of_le h.1 hb.size, fun k v hk => (hb.cell (p := ⟨b, k, none⟩) hB).trans (h.2 k v hk)⟩
theorem row_alloc {b : Nat} {vs : List Value} {w : World} (h : Row b vs w) (o : Obj) : Row b vs (w.alloc o) :=
  ⟨by simp; have := h.1; omega, fun k v hk => (World.cell?_alloc_past _ _ _ h.1).trans (h.2 k v hk)⟩
theorem row_new (vs : List Value) (w : World) (t : TypeId) : Row w.heap.size vs (w.alloc (.cells vs.toArray t)) :=
  ⟨by simp, fun k v hk => by simp [go_sem, hk]⟩
theorem row_drew {b : Nat} {vs : List Value} {w : World} (h : Row b vs w) : Row b vs w.drew := h
theorem row_set {b : Nat} {vs : List Value} {w : World} (h : Row b vs w) {a : Addr} (ha : a.block ≠ b) (u : Value) : Row b vs (w.setCell a u) :=
  ⟨by simpa using h.1, fun k v hk => by rw [World.cell?_setCell_other _ _ _ _ (by rintro rfl; exact ha rfl)]; exact h.2 k v hk⟩

theorem row_six {b : Nat} {u0 u1 u2 u3 u4 u5 v0 v1 v2 v3 v4 v5 : Value} {w : World} (h : Row b [u0, u1, u2, u3, u4, u5] w) :
    Row b [v0, v1, v2, v3, v4, v5] ((((((w.setCell ⟨b, 0, none⟩ v0).setCell ⟨b, 1, none⟩ v1).setCell ⟨b, 2, none⟩ v2).setCell ⟨b, 3, none⟩ v3).setCell ⟨b, 4, none⟩ v4).setCell ⟨b, 5, none⟩ v5) := by
  have h0 := h.2 0 _ rfl
  have h1 := h.2 1 _ rfl
  have h2 := h.2 2 _ rfl
  have h3 := h.2 3 _ rfl
  have h4 := h.2 4 _ rfl
  have h5 := h.2 5 _ rfl
  refine ⟨by simpa using h.1, fun k v hk => ?_⟩
  match k, hk with
  | 0, hk => obtain rfl : v0 = v := by simpa using hk
             simp [go_sem, h0]
  | 1, hk => obtain rfl : v1 = v := by simpa using hk
             simp [go_sem, h1]
  | 2, hk => obtain rfl : v2 = v := by simpa using hk
             simp [go_sem, h2]
  | 3, hk => obtain rfl : v3 = v := by simpa using hk
             simp [go_sem, h3]
  | 4, hk => obtain rfl : v4 = v := by simpa using hk
             simp [go_sem, h4]
  | 5, hk => obtain rfl : v5 = v := by simpa using hk
             simp [go_sem, h5]
  | k + 6, hk => simp at hk

/-- Where the orders of 'y := zzRunDual(..)' meet. -/
def Four (N M P Y : Nat) (cs ms xs ys : List Value) (w wx : World) : Prop := Below N w wx ∧ Row N cs wx ∧ Row M ms wx ∧ Row P xs wx ∧ Row Y ys wx

theorem four_a {N M : Nat} {cs ms xs ys : List Value} {w w2 w3 : World} (hb : Below N w w2) (hN : Row N cs w2) (hM : Row M ms w2)
    (hb3 : Below ((w2.alloc (.cells xs.toArray 28)).drew).heap.size ((w2.alloc (.cells xs.toArray 28)).drew) w3) :
    Four N M w2.heap.size w3.heap.size cs ms xs ys w (w3.alloc (.cells ys.toArray 28)) := by
  have e : ((w2.alloc (.cells xs.toArray 28)).drew).heap.size = w2.heap.size + 1 := by simp
  rw [e] at hb3
  have n := hN.1
  have m := hM.1
  have s3 : w2.heap.size + 1 ≤ w3.heap.size := by have := hb3.size; simp at this; omega
  exact ⟨(((hb.alloc (by omega) _).drew).trans (hb3.mono (by omega))).alloc (by omega) _, row_alloc (row_below (row_drew (row_alloc hN _)) hb3 (by omega)) _, row_alloc (row_below (row_drew (row_alloc hM _)) hb3 (by omega)) _,
    row_alloc (row_below (row_drew (row_new xs w2 28)) hb3 (by omega)) _, row_new ys w3 28⟩

theorem four_b {N M : Nat} {cs ms xs : List Value} {u0 u1 u2 u3 u4 u5 v0 v1 v2 v3 v4 v5 : Value} {w w2 w3 : World} (hb : Below N w w2) (hN : Row N cs w2) (hM : Row M ms w2)
    (hb3 : Below (((w2.alloc (.cells xs.toArray 28)).alloc (.cells #[u0, u1, u2, u3, u4, u5] 28)).drew).heap.size (((w2.alloc (.cells xs.toArray 28)).alloc (.cells #[u0, u1, u2, u3, u4, u5] 28)).drew) w3) :
    Four N M w2.heap.size (w2.heap.size + 1) cs ms xs [v0, v1, v2, v3, v4, v5] w ((((((w3.setCell ⟨w2.heap.size + 1, 0, none⟩ v0).setCell ⟨w2.heap.size + 1, 1, none⟩ v1).setCell ⟨w2.heap.size + 1, 2, none⟩ v2).setCell ⟨w2.heap.size + 1, 3, none⟩ v3).setCell ⟨w2.heap.size + 1, 4, none⟩ v4).setCell ⟨w2.heap.size + 1, 5, none⟩ v5) := by
  have e : (((w2.alloc (.cells xs.toArray 28)).alloc (.cells #[u0, u1, u2, u3, u4, u5] 28)).drew).heap.size = w2.heap.size + 1 + 1 := by simp
  rw [e] at hb3
  have n := hN.1
  have m := hM.1
  have hb' : Below N w w3 := ((((hb.alloc (by omega) _).alloc (by simp; omega) _).drew).trans (hb3.mono (by omega)))
  have st : ∀ {b : Nat} {vs : List Value}, b ≠ w2.heap.size + 1 → Row b vs w3 → Row b vs ((((((w3.setCell ⟨w2.heap.size + 1, 0, none⟩ v0).setCell ⟨w2.heap.size + 1, 1, none⟩ v1).setCell ⟨w2.heap.size + 1, 2, none⟩ v2).setCell ⟨w2.heap.size + 1, 3, none⟩ v3).setCell ⟨w2.heap.size + 1, 4, none⟩ v4).setCell ⟨w2.heap.size + 1, 5, none⟩ v5) :=
    fun hne h => row_set (row_set (row_set (row_set (row_set (row_set h (Ne.symm hne) _) (Ne.symm hne) _) (Ne.symm hne) _) (Ne.symm hne) _) (Ne.symm hne) _) (Ne.symm hne) _
  have new : Row (w2.heap.size + 1) [u0, u1, u2, u3, u4, u5] w3 := by
    have h := row_new [u0, u1, u2, u3, u4, u5] (w2.alloc (.cells xs.toArray 28)) 28
    have e' : (w2.alloc (.cells xs.toArray 28)).heap.size = w2.heap.size + 1 := by simp
    rw [e'] at h
    exact row_below (row_drew h) hb3 (by omega)
  have le : N ≤ w2.heap.size + 1 := by omega
  refine ⟨?_, st (by omega) (row_below (row_drew (row_alloc (row_alloc hN _) _)) hb3 (by omega)), st (by omega) (row_below (row_drew (row_alloc (row_alloc hM _) _)) hb3 (by omega)), st (by omega) (row_below (row_drew (row_alloc (row_new xs w2 28) _)) hb3 (by omega)), row_six new⟩
  exact (((((hb'.setCell (p := ⟨w2.heap.size + 1, 0, none⟩) le _).setCell (p := ⟨w2.heap.size + 1, 1, none⟩) le _).setCell (p := ⟨w2.heap.size + 1, 2, none⟩) le _).setCell (p := ⟨w2.heap.size + 1, 3, none⟩) le _).setCell (p := ⟨w2.heap.size + 1, 4, none⟩) le _).setCell (p := ⟨w2.heap.size + 1, 5, none⟩) le _

end Go.Proofs.Qxb6615605a
