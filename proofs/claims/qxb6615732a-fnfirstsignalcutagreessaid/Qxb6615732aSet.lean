/-
  ZZsetSignals (12), ZZnewHistory (8).
-/
import Derived.Test.Qxb6615732aFirst
import Derived.Laws.MakeOwn
namespace Go.Proofs.Qxb6615732a
open Go.RowKit

/-- What make([]signal, n) lays. -/
def sigObj (n : Nat) : Obj := .cells (madeCells #[.int .u64 0, .int .i64 0, .pointer none, .string ⟨#[]⟩, .bool false] (n * 5)) 46

theorem info46 : (Try.prog.info? 46).map (fun i => (i.zero, i.size, i.bytes)) = some (some (.agg #[.int .u64 0, .int .i64 0, .pointer none, .string ⟨#[]⟩, .bool false]), 5, 48) := by kernel_rfl

theorem make34 (n : Nat) (hn : n ≤ 65536) (w : World) : (Instr.makeSlice 34 (.int .i64 (n : Int)) (.int .i64 (n : Int))).run Try.prog w = .ok (.slice (some ⟨w.heap.size, 0, none⟩) n n) (w.alloc (sigObj n)) := by
  obtain ⟨i, hi, hz, hs, hb⟩ := info_parts info46
  have := run_make (P := Try.prog) w 34 46 i _ Try.underlying34 hi hz .i64 .i64 (n : Int) (n : Int) (by omega) (Int.le_refl _) (by rw [hb]; omega) (by omega)
  rw [hs] at this
  simpa [sigObj, Value.cells] using this

theorem sig_cell (n j : Nat) (h : j < n * 5) (w : World) : ∃ v, (w.alloc (sigObj n)).cell? ⟨w.heap.size, j, none⟩ = some v := by
  unfold sigObj
  have hs := size_madeCells #[.int .u64 0, .int .i64 0, .pointer none, .string ⟨#[]⟩, .bool false] (n * 5)
  generalize madeCells #[.int .u64 0, .int .i64 0, .pointer none, .string ⟨#[]⟩, .bool false] (n * 5) = c at hs
  exact ⟨c[j]'(by omega), by simp [go_sem, Array.getElem?_eq_getElem (show j < c.size by omega)]⟩
theorem sig_frozen (n j : Nat) (w : World) : (w.alloc (sigObj n)).frozen? ⟨w.heap.size, j, none⟩ = false := by
  unfold sigObj; simp [go_sem]

/-- Behind k rounds. -/
def Built (g n k : Nat) (ts : Nat → Int) (w wr : World) : Prop :=
  Below g w wr ∧ g < wr.heap.size ∧ SigRow g k ts wr ∧ (∀ j, j < n * 5 → ∃ v, wr.cell? ⟨g, j, none⟩ = some v) ∧ (∀ j, wr.frozen? ⟨g, j, none⟩ = false)

theorem built_start (n : Nat) (ts : Nat → Int) (w : World) : Built w.heap.size n 0 ts w (w.alloc (sigObj n)) :=
  ⟨(Below.refl _ _).alloc (Nat.le_refl _) _, by simp, ⟨by simp, fun i h => by omega⟩, fun j h => sig_cell n j h w, fun j => sig_frozen n j w⟩

theorem built_keep {g n k B : Nat} {ts : Nat → Int} {w wr w1 : World} (h : Built g n k ts w wr) (hb : Below B wr w1) (hB : wr.heap.size ≤ B) : Built g n k ts w w1 := by
  obtain ⟨h1, h2, h3, h4, h5⟩ := h
  have e : ∀ o, w1.cell? ⟨g, o, none⟩ = wr.cell? ⟨g, o, none⟩ := fun o => hb.cell (p := ⟨g, o, none⟩) (by simp; omega)
  have f : ∀ o, w1.frozen? ⟨g, o, none⟩ = wr.frozen? ⟨g, o, none⟩ := fun o => hb.frozen (p := ⟨g, o, none⟩) (by simp; omega)
  exact ⟨h1.trans (hb.mono (by omega)), Nat.lt_of_lt_of_le h2 hb.size, sig_below h3 hb (by omega), fun j hj => by rw [e]; exact h4 j hj, fun j => by rw [f]; exact h5 j⟩

/-- Five cells stored. -/
def five (w : World) (g o : Nat) (v0 v1 v2 v3 v4 : Value) : World :=
  ((((w.setCell ⟨g, o, none⟩ v0).setCell ⟨g, o + 1, none⟩ v1).setCell ⟨g, o + 2, none⟩ v2).setCell ⟨g, o + 3, none⟩ v3).setCell ⟨g, o + 4, none⟩ v4

theorem five_other (w : World) (g o : Nat) (v0 v1 v2 v3 v4 : Value) (j : Nat) (h : j < o ∨ o + 5 ≤ j) : (five w g o v0 v1 v2 v3 v4).cell? ⟨g, j, none⟩ = w.cell? ⟨g, j, none⟩ := by
  unfold five
  rw [World.cell?_setCell_other _ _ _ _ (by intro h; injection h; omega), World.cell?_setCell_other _ _ _ _ (by intro h; injection h; omega), World.cell?_setCell_other _ _ _ _ (by intro h; injection h; omega), World.cell?_setCell_other _ _ _ _ (by intro h; injection h; omega), World.cell?_setCell_other _ _ _ _ (by intro h; injection h; omega)]

theorem five_at (w : World) (g o : Nat) (v0 v1 v2 v3 v4 u0 u1 u2 u3 u4 : Value) (h0 : w.cell? ⟨g, o, none⟩ = some u0) (h1 : w.cell? ⟨g, o + 1, none⟩ = some u1) (h2 : w.cell? ⟨g, o + 2, none⟩ = some u2) (h3 : w.cell? ⟨g, o + 3, none⟩ = some u3) (h4 : w.cell? ⟨g, o + 4, none⟩ = some u4) :
    (five w g o v0 v1 v2 v3 v4).cell? ⟨g, o, none⟩ = some v0 ∧ (five w g o v0 v1 v2 v3 v4).cell? ⟨g, o + 1, none⟩ = some v1 ∧ (five w g o v0 v1 v2 v3 v4).cell? ⟨g, o + 2, none⟩ = some v2
      ∧ (five w g o v0 v1 v2 v3 v4).cell? ⟨g, o + 3, none⟩ = some v3 ∧ (five w g o v0 v1 v2 v3 v4).cell? ⟨g, o + 4, none⟩ = some v4 := by
  unfold five
  simp [go_sem, h0, h1, h2, h3, h4]

theorem built_step {g n k : Nat} {ts : Nat → Int} {w w1 : World} {s : ByteArray} {x : Bool} (h : Built g n k ts w w1) (hk : k < n) :
    Built g n (k + 1) ts w (five w1 g (k * 5) (.int .u64 (nn (ts k))) (.int .i64 (sc (ts k))) (.pointer none) (.string s) (.bool x)) := by
  obtain ⟨h1, h2, h3, h4, h5⟩ := h
  obtain ⟨u0, e0⟩ := h4 (k * 5) (by omega)
  obtain ⟨u1, e1⟩ := h4 (k * 5 + 1) (by omega)
  obtain ⟨u2, e2⟩ := h4 (k * 5 + 2) (by omega)
  obtain ⟨u3, e3⟩ := h4 (k * 5 + 3) (by omega)
  obtain ⟨u4, e4⟩ := h4 (k * 5 + 4) (by omega)
  have ha := five_at w1 g (k * 5) (.int .u64 (nn (ts k))) (.int .i64 (sc (ts k))) (.pointer none) (.string s) (.bool x) u0 u1 u2 u3 u4 e0 e1 e2 e3 e4
  have ho := five_other w1 g (k * 5) (.int .u64 (nn (ts k))) (.int .i64 (sc (ts k))) (.pointer none) (.string s) (.bool x)
  have hz : (five w1 g (k * 5) (.int .u64 (nn (ts k))) (.int .i64 (sc (ts k))) (.pointer none) (.string s) (.bool x)).heap.size = w1.heap.size := by simp [five]
  refine ⟨?_, by rw [hz]; exact h2, ⟨by rw [hz]; exact h2, fun i hi => ?_⟩, fun j hj => ?_, fun j => ?_⟩
  · unfold five
    exact ((((h1.setCell (p := ⟨g, k * 5, none⟩) (Nat.le_refl _) _).setCell (p := ⟨g, k * 5 + 1, none⟩) (Nat.le_refl _) _).setCell (p := ⟨g, k * 5 + 2, none⟩) (Nat.le_refl _) _).setCell (p := ⟨g, k * 5 + 3, none⟩) (Nat.le_refl _) _).setCell (p := ⟨g, k * 5 + 4, none⟩) (Nat.le_refl _) _
  · by_cases hik : i = k
    · subst hik
      exact ⟨ha.1, ha.2.1, ha.2.2.1, ⟨s, ha.2.2.2.1⟩, ⟨x, ha.2.2.2.2⟩⟩
    · rw [ho _ (by omega), ho _ (by omega), ho _ (by omega), ho _ (by omega), ho _ (by omega)]
      exact h3.2 i (by omega)
  · by_cases hin : j < k * 5 ∨ k * 5 + 5 ≤ j
    · rw [ho j hin]; exact h4 j hj
    · have : j = k * 5 ∨ j = k * 5 + 1 ∨ j = k * 5 + 2 ∨ j = k * 5 + 3 ∨ j = k * 5 + 4 := by omega
      rcases this with rfl | rfl | rfl | rfl | rfl
      · exact ⟨_, ha.1⟩
      · exact ⟨_, ha.2.1⟩
      · exact ⟨_, ha.2.2.1⟩
      · exact ⟨_, ha.2.2.2.1⟩
      · exact ⟨_, ha.2.2.2.2⟩
  · unfold five
    simp only [World.frozen?_setCell]
    exact h5 j

/-- zzTime, told so that a region that draws can use it. -/
theorem zzTime_kept (ns : Int) (h0 : -9223372036854775808 ≤ ns) (h1 : ns ≤ 9223372036854775807) (g o b1 o1 b2 o2 b3 o3 : Nat) (v0 v1 v2 v3 v4 x1 x2 x3 : Value) (w : World) (hg : g < w.heap.size) (hb1 : b1 < w.heap.size) (hb2 : b2 < w.heap.size) (hb3 : b3 < w.heap.size)
    (k0 : w.cell? ⟨g, o, none⟩ = some v0) (k1 : w.cell? ⟨g, o + 1, none⟩ = some v1) (k2 : w.cell? ⟨g, o + 2, none⟩ = some v2) (k3 : w.cell? ⟨g, o + 3, none⟩ = some v3) (k4 : w.cell? ⟨g, o + 4, none⟩ = some v4)
    (c1 : w.cell? ⟨b1, o1, none⟩ = some x1) (c2 : w.cell? ⟨b2, o2, none⟩ = some x2) (c3 : w.cell? ⟨b3, o3, none⟩ = some x3) (hf : ∀ j, w.frozen? ⟨g, j, none⟩ = false) :
    Calls Try.prog 14 #[.int .i64 ns] w fun e w' => e = .returned (.agg #[.int .u64 (nn ns), .int .i64 (sc ns), .pointer none]) ∧ Hid (Below w.heap.size w w') ∧ (∀ j, w'.frozen? ⟨g, j, none⟩ = false)
      ∧ w'.cell? ⟨g, o, none⟩ = some v0 ∧ w'.cell? ⟨g, o + 1, none⟩ = some v1 ∧ w'.cell? ⟨g, o + 2, none⟩ = some v2 ∧ w'.cell? ⟨g, o + 3, none⟩ = some v3 ∧ w'.cell? ⟨g, o + 4, none⟩ = some v4
      ∧ w'.cell? ⟨b1, o1, none⟩ = some x1 ∧ w'.cell? ⟨b2, o2, none⟩ = some x2 ∧ w'.cell? ⟨b3, o3, none⟩ = some x3 :=
  (zzTime_any ns w h0 h1).mono fun _ _ ⟨h, hb⟩ => ⟨h, hb, fun j => (hb.frozen (p := ⟨g, j, none⟩) hg).trans (hf j), (hb.cell (p := ⟨g, o, none⟩) hg).trans k0, (hb.cell (p := ⟨g, o + 1, none⟩) hg).trans k1, (hb.cell (p := ⟨g, o + 2, none⟩) hg).trans k2, (hb.cell (p := ⟨g, o + 3, none⟩) hg).trans k3, (hb.cell (p := ⟨g, o + 4, none⟩) hg).trans k4,
    (hb.cell (p := ⟨b1, o1, none⟩) hb1).trans c1, (hb.cell (p := ⟨b2, o2, none⟩) hb2).trans c2, (hb.cell (p := ⟨b3, o3, none⟩) hb3).trans c3⟩

end Go.Proofs.Qxb6615732a
