/-
  firstSignal (13), ZZfirstSignal (9).
-/
import Derived.Test.Qxb6615732aSearch
namespace Go.Proofs.Qxb6615732a
open Go.RowKit

/-- The History at block h: n signals, their times ts. -/
def Hist (h n : Nat) (ts : Nat → Int) (w : World) : Prop := h < w.heap.size ∧ ∃ g, w.cell? ⟨h, 1, none⟩ = some (.slice (some ⟨g, 0, none⟩) n n) ∧ SigRow g n ts w

/-- k is the place of the first time at or after t. -/
def Lower (n : Nat) (ts : Nat → Int) (t : Int) (k : Nat) : Prop := k ≤ n ∧ (∀ i, i < k → ts i < t) ∧ (∀ i, k ≤ i → i < n → t ≤ ts i)

theorem sig_below {g n B : Nat} {ts : Nat → Int} {w w' : World} (h : SigRow g n ts w) (hb : Below B w w') (hg : g < B) : SigRow g n ts w' := by
  refine ⟨Nat.lt_of_lt_of_le h.1 hb.size, fun i hi => ?_⟩
  have e : ∀ o, w'.cell? ⟨g, o, none⟩ = w.cell? ⟨g, o, none⟩ := fun o => hb.cell (p := ⟨g, o, none⟩) hg
  simp only [e]
  exact h.2 i hi
theorem sig_alloc {g n : Nat} {ts : Nat → Int} {w : World} (h : SigRow g n ts w) (o : Obj) : SigRow g n ts (w.alloc o) :=
  sig_below h ((Below.refl w.heap.size w).alloc (Nat.le_refl _) o) h.1
theorem hist_below {h n B : Nat} {ts : Nat → Int} {w w' : World} (hh : Hist h n ts w) (hb : Below B w w') (hB : w.heap.size ≤ B) : Hist h n ts w' := by
  obtain ⟨h1, g, h2, h3⟩ := hh
  exact ⟨Nat.lt_of_lt_of_le h1 hb.size, g, (hb.cell (p := ⟨h, 1, none⟩) (by simp; omega)).trans h2, sig_below h3 hb (by have := h3.1; omega)⟩

/-- The search, told so that a region that draws can use it. -/
theorem search_kept (g n : Nat) (ts : Nat → Int) (t : Int) (h B : Nat) (v u0 u1 u2 : Value) (hn : n ≤ 65536) (hs : ∀ i j, i ≤ j → j < n → ts i ≤ ts j) (w : World) (hg : SigRow g n ts w)
    (hh : h < w.heap.size) (hB : B < w.heap.size) (k : w.cell? ⟨h, 1, none⟩ = some v) (t0 : w.cell? ⟨B, 0, none⟩ = some u0) (t1 : w.cell? ⟨B, 1, none⟩ = some u1) (t2 : w.cell? ⟨B, 2, none⟩ = some u2) :
    Calls Try.prog 15 #[.slice (some ⟨g, 0, none⟩) n n, .agg #[.int .u64 (nn t), .int .i64 (sc t), .pointer none], .func (.func 16) #[] #[]] w fun e w' =>
      ∃ (k : Nat) (b : Bool), e = .returned (.tuple #[.int .i64 k, .bool b]) ∧ Hid (Lower n ts t k) ∧ Hid (Below w.heap.size w w')
        ∧ w'.cell? ⟨h, 1, none⟩ = some v ∧ w'.cell? ⟨B, 0, none⟩ = some u0 ∧ w'.cell? ⟨B, 1, none⟩ = some u1 ∧ w'.cell? ⟨B, 2, none⟩ = some u2 :=
  (search_any g n ts t hn hs w hg).mono fun _ _ ⟨⟨k', b, he, hl⟩, hb⟩ => ⟨k', b, he, hl, hb, (hb.cell (p := ⟨h, 1, none⟩) hh).trans k,
    (hb.cell (p := ⟨B, 0, none⟩) hB).trans t0, (hb.cell (p := ⟨B, 1, none⟩) hB).trans t1, (hb.cell (p := ⟨B, 2, none⟩) hB).trans t2⟩

set_option maxRecDepth 100000 in
set_option maxHeartbeats 1000000 in
theorem first_any (h n : Nat) (ts : Nat → Int) (t : Int) (hn : n ≤ 65536) (hs : ∀ i j, i ≤ j → j < n → ts i ≤ ts j) (w : World) (hh : Hist h n ts w) :
    Calls Try.prog 13 #[.pointer (some ⟨h, 0, none⟩), .agg #[.int .u64 (nn t), .int .i64 (sc t), .pointer none]] w fun e w' =>
      (∃ k : Nat, e = .returned (.int .i64 k) ∧ Lower n ts t k) ∧ Below w.heap.size w w' := by
  obtain ⟨z1, g, c1, hg⟩ := hh
  have HS := (show Hid _ from hs)
  have HG : Hid (SigRow g n ts w) := hg
  clear hs hg
  have z2 : h < w.heap.size + 1 := by omega
  go_enter Try.func13, Try.ntmps13
  go_wp2_with fail
  go_region_held3 (fun w' => w'.cell? ⟨h, 1, none⟩ = some (.slice (some ⟨g, 0, none⟩) n n) ∧ w'.cell? ⟨w.heap.size, 0, none⟩ = some (.int .u64 (nn t)) ∧ w'.cell? ⟨w.heap.size, 1, none⟩ = some (.int .i64 (sc t)) ∧ w'.cell? ⟨w.heap.size, 2, none⟩ = some (.pointer none))
    (first | (simp [go_sem, c1, z1]; done) | (simp [*]; done)) (first
    | (go_at_call 15; refine (search_kept g n ts t h w.heap.size (.slice (some ⟨g, 0, none⟩) n n) (.int .u64 (nn t)) (.int .i64 (sc t)) (.pointer none) hn HS.out _ ?_ ?_ ?_ ?_ ?_ ?_ ?_).mono ?_; exact sig_alloc HG.out _; (simp [go_sem]; exact z2); (simp [go_sem]); (simp [go_sem, c1, z1]); (simp [go_sem]); (simp [go_sem]); (simp [go_sem]); rintro e w1 ⟨k, b, rfl, HL, HB1, d0, d1, d2, d3⟩))
  have HB2 : Hid (Below w.heap.size w w1) := (((Below.refl _ _).alloc (Nat.le_refl _) _).drew).trans (HB1.out.mono (by simp))
  clear HB1 d0 d1 d2 d3
  go_wp2
  go_ret
  exact ⟨⟨k, rfl, HL.out⟩, HB2.out⟩

set_option maxHeartbeats 400000 in
/-- ZZfirstSignal. -/
theorem zzfirst_any (h n : Nat) (ts : Nat → Int) (t : Int) (t0 : -9223372036854775808 ≤ t) (t1 : t ≤ 9223372036854775807) (hn : n ≤ 65536) (hs : ∀ i j, i ≤ j → j < n → ts i ≤ ts j) (w : World) (hh : Hist h n ts w) :
    Calls Try.prog 9 #[.pointer (some ⟨h, 0, none⟩), .int .i64 t] w fun e w' => (∃ k : Nat, e = .returned (.int .i64 k) ∧ Lower n ts t k) ∧ Below w.heap.size w w' := by
  have HS := (show Hid _ from hs)
  have HH : Hid (Hist h n ts w) := hh
  clear hs hh
  go_enter Try.func9, Try.ntmps9
  go_wp2_with fail
  refine (zzTime_any t _ t0 t1).mono ?_
  rintro e w1 ⟨rfl, hb⟩
  have HH1 : Hid (Hist h n ts w1) := hist_below HH.out hb (Nat.le_refl _)
  have HB : Hid (Below w.heap.size w w1) := hb
  clear hb
  go_wp2_with fail
  refine (first_any h n ts t hn HS.out _ HH1.out).mono ?_
  rintro e w2 ⟨⟨k, rfl, hl⟩, hb⟩
  have HB2 : Hid (Below w.heap.size w w2) := HB.out.trans (hb.mono HB.out.size)
  have HL : Hid (Lower n ts t k) := hl
  clear hb hl
  go_wp2
  go_ret
  exact ⟨⟨k, rfl, HL.out⟩, HB2.out⟩

end Go.Proofs.Qxb6615732a
