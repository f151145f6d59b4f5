/-
  slices.BinarySearchFunc (15) at this program's types.
-/
import Derived.Test.Qxb6615732aCompare
import Derived.Deep.RegionHeld3
import Derived.Deep.DeepCutAuto
namespace Go.Proofs.Qxb6615732a
open Go.RowKit

/-- Block g holds the n signals whose times are ts. -/
def SigRow (g n : Nat) (ts : Nat → Int) (w : World) : Prop :=
  g < w.heap.size ∧ ∀ i, i < n → w.cell? ⟨g, i * 5, none⟩ = some (.int .u64 (nn (ts i))) ∧ w.cell? ⟨g, i * 5 + 1, none⟩ = some (.int .i64 (sc (ts i))) ∧ w.cell? ⟨g, i * 5 + 2, none⟩ = some (.pointer none)
    ∧ (∃ s, w.cell? ⟨g, i * 5 + 3, none⟩ = some (.string s)) ∧ (∃ b, w.cell? ⟨g, i * 5 + 4, none⟩ = some (.bool b))

/-- The closure, told so that a region that draws can use it: what is read in the region is left as it was. -/
theorem clo_kept (a b : Int) (s : ByteArray) (x : Bool) (g o B : Nat) (v0 v1 v2 v3 v4 u0 u1 u2 : Value) (w : World) (hg : g < w.heap.size) (hB : B < w.heap.size)
    (k0 : w.cell? ⟨g, o, none⟩ = some v0) (k1 : w.cell? ⟨g, o + 1, none⟩ = some v1) (k2 : w.cell? ⟨g, o + 2, none⟩ = some v2) (k3 : w.cell? ⟨g, o + 3, none⟩ = some v3) (k4 : w.cell? ⟨g, o + 4, none⟩ = some v4)
    (t0 : w.cell? ⟨B, 0, none⟩ = some u0) (t1 : w.cell? ⟨B, 1, none⟩ = some u1) (t2 : w.cell? ⟨B, 2, none⟩ = some u2) :
    Calls Try.prog 16 #[.agg #[.int .u64 (nn a), .int .i64 (sc a), .pointer none, .string s, .bool x], .agg #[.int .u64 (nn b), .int .i64 (sc b), .pointer none]] w fun e w' => e = .returned (.int .i64 (cmpI a b)) ∧ Hid (Below w.heap.size w w')
      ∧ w'.cell? ⟨g, o, none⟩ = some v0 ∧ w'.cell? ⟨g, o + 1, none⟩ = some v1 ∧ w'.cell? ⟨g, o + 2, none⟩ = some v2 ∧ w'.cell? ⟨g, o + 3, none⟩ = some v3 ∧ w'.cell? ⟨g, o + 4, none⟩ = some v4
      ∧ w'.cell? ⟨B, 0, none⟩ = some u0 ∧ w'.cell? ⟨B, 1, none⟩ = some u1 ∧ w'.cell? ⟨B, 2, none⟩ = some u2 :=
  (clo_any a b s x w).mono fun _ _ ⟨h, hb⟩ => ⟨h, hb, (hb.cell (p := ⟨g, o, none⟩) hg).trans k0, (hb.cell (p := ⟨g, o + 1, none⟩) hg).trans k1, (hb.cell (p := ⟨g, o + 2, none⟩) hg).trans k2, (hb.cell (p := ⟨g, o + 3, none⟩) hg).trans k3, (hb.cell (p := ⟨g, o + 4, none⟩) hg).trans k4,
    (hb.cell (p := ⟨B, 0, none⟩) hB).trans t0, (hb.cell (p := ⟨B, 1, none⟩) hB).trans t1, (hb.cell (p := ⟨B, 2, none⟩) hB).trans t2⟩

set_option maxRecDepth 100000 in
set_option maxHeartbeats 1000000 in
theorem search_any (g n : Nat) (ts : Nat → Int) (t : Int) (hn : n ≤ 65536) (hs : ∀ i j, i ≤ j → j < n → ts i ≤ ts j) (w : World) (hg : SigRow g n ts w) :
    Calls Try.prog 15 #[.slice (some ⟨g, 0, none⟩) n n, .agg #[.int .u64 (nn t), .int .i64 (sc t), .pointer none], .func (.func 16) #[] #[]] w fun e w' =>
      (∃ (k : Nat) (b : Bool), e = .returned (.tuple #[.int .i64 k, .bool b]) ∧ k ≤ n ∧ (∀ i, i < k → ts i < t) ∧ (∀ i, k ≤ i → i < n → t ≤ ts i)) ∧ Below w.heap.size w w' := by
  have HS := (show Hid _ from hs)
  have HG := (show Hid _ from hg)
  clear hs hg
  go_enter Try.func15, Try.ntmps15
  go_wp2
  go_loopw [9, 10] (fun i j wr => ∃ lo hi : Nat, lo ≤ hi ∧ hi ≤ n ∧ i = .int .i64 lo ∧ j = .int .i64 hi ∧ Hid (∀ i, i < lo → ts i < t) ∧ Hid (∀ i, hi ≤ i → i < n → t ≤ ts i)
      ∧ Hid (Below (w.heap.size + 1) (w.alloc (.cells #[.int .u64 (nn t), .int .i64 (sc t), .pointer none] 43)) wr)) (fun i j _ => (intOf j).toNat - (intOf i).toNat)
  case atStart => exact ⟨0, n, Nat.zero_le _, Nat.le_refl _, rfl, rfl, fun i h => by omega, fun i h1 h2 => by omega, by show Below _ _ _; simpa using Below.refl _ _⟩
  case round =>
    obtain ⟨lo, hi, h1, h2, rfl, rfl, HL, HH, HB⟩ := hrel
    by_cases hlt : lo < hi
    · obtain ⟨m, hm, m1, m2⟩ : ∃ m : Nat, ((lo : Int) + hi) / 2 = m ∧ lo ≤ m ∧ m < hi := ⟨(lo + hi) / 2, by omega, by omega, by omega⟩
      obtain ⟨c0, c1, c2, ⟨s, c3⟩, ⟨x, c4⟩⟩ := HG.out.2 m (by omega)
      have hgz := HG.out.1
      have k0 : wr.cell? ⟨g, m * 5, none⟩ = some (.int .u64 (nn (ts m))) := by rw [HB.out.cell (p := ⟨g, m * 5, none⟩) (by simp; omega), World.cell?_alloc_past _ _ _ hgz, c0]
      have k1 : wr.cell? ⟨g, m * 5 + 1, none⟩ = some (.int .i64 (sc (ts m))) := by rw [HB.out.cell (p := ⟨g, m * 5 + 1, none⟩) (by simp; omega), World.cell?_alloc_past _ _ _ hgz, c1]
      have k2 : wr.cell? ⟨g, m * 5 + 2, none⟩ = some (.pointer none) := by rw [HB.out.cell (p := ⟨g, m * 5 + 2, none⟩) (by simp; omega), World.cell?_alloc_past _ _ _ hgz, c2]
      have k3 : wr.cell? ⟨g, m * 5 + 3, none⟩ = some (.string s) := by rw [HB.out.cell (p := ⟨g, m * 5 + 3, none⟩) (by simp; omega), World.cell?_alloc_past _ _ _ hgz, c3]
      have k4 : wr.cell? ⟨g, m * 5 + 4, none⟩ = some (.bool x) := by rw [HB.out.cell (p := ⟨g, m * 5 + 4, none⟩) (by simp; omega), World.cell?_alloc_past _ _ _ hgz, c4]
      have t0 : wr.cell? ⟨w.heap.size, 0, none⟩ = some (.int .u64 (nn t)) := by rw [HB.out.cell (p := ⟨w.heap.size, 0, none⟩) (by simp)]; simp [go_sem]
      have t1 : wr.cell? ⟨w.heap.size, 1, none⟩ = some (.int .i64 (sc t)) := by rw [HB.out.cell (p := ⟨w.heap.size, 1, none⟩) (by simp)]; simp [go_sem]
      have t2 : wr.cell? ⟨w.heap.size, 2, none⟩ = some (.pointer none) := by rw [HB.out.cell (p := ⟨w.heap.size, 2, none⟩) (by simp)]; simp [go_sem]
      clear c0 c1 c2 c3 c4
      have hmn : (m : Int) < n := by omega
      have z1 : w.heap.size < wr.heap.size := by have := HB.out.size; simp at this; omega
      have z2 : g < wr.heap.size := by omega
      go_wp2_with fail
      go_region_held3 (fun w' => w'.cell? ⟨g, m * 5, none⟩ = some (.int .u64 (nn (ts m))) ∧ w'.cell? ⟨g, m * 5 + 1, none⟩ = some (.int .i64 (sc (ts m))) ∧ w'.cell? ⟨g, m * 5 + 2, none⟩ = some (.pointer none) ∧ w'.cell? ⟨g, m * 5 + 3, none⟩ = some (.string s) ∧ w'.cell? ⟨g, m * 5 + 4, none⟩ = some (.bool x)
          ∧ w'.cell? ⟨w.heap.size, 0, none⟩ = some (.int .u64 (nn t)) ∧ w'.cell? ⟨w.heap.size, 1, none⟩ = some (.int .i64 (sc t)) ∧ w'.cell? ⟨w.heap.size, 2, none⟩ = some (.pointer none)) (first | (simp [go_sem, k0, k1, k2, k3, k4, t0, t1, t2]; done) | (simp [*]; done)) (first
        | (go_at_call 16; refine (clo_kept (ts m) t s x g (m * 5) w.heap.size (.int .u64 (nn (ts m))) (.int .i64 (sc (ts m))) (.pointer none) (.string s) (.bool x) (.int .u64 (nn t)) (.int .i64 (sc t)) (.pointer none) _ ?_ ?_ ?_ ?_ ?_ ?_ ?_ ?_ ?_ ?_).mono ?_; (simp [go_sem]; exact z2); (simp [go_sem]; exact z1); exact k0; exact k1; exact k2; exact k3; exact k4; exact t0; exact t1; exact t2; rintro e w1 ⟨rfl, HB1, d0, d1, d2, d3, d4, d5, d6, d7⟩))
      have HB2 : Hid (Below (w.heap.size + 1) (w.alloc (.cells #[.int .u64 (nn t), .int .i64 (sc t), .pointer none] 43)) w1) := HB.out.trans ((Below.refl _ _).drew.trans (HB1.out.mono (by simp; omega)))
      clear d0 d1 d2 d3 d4 d5 d6 d7 k0 k1 k2 k3 k4 t0 t1 t2 HB1 HB z1 z2
      by_cases hc : ts m < t
      · have hcm : cmpI (ts m) t < 0 := by unfold cmpI; rw [if_pos hc]; decide
        have HL2 : Hid (∀ i, i < m + 1 → ts i < t) := fun i hi' => by
          have := HS.out i m (by omega) (by omega)
          omega
        clear hc
        go_wp2
        go_roundw
        case rel => exact ⟨m + 1, hi, by omega, h2, by go_num, rfl, HL2, HH, HB2⟩
        case measure => simp [intOf]; omega
      · have hcm : ¬ cmpI (ts m) t < 0 := by
          unfold cmpI; rw [if_neg hc]; split <;> decide
        have HH2 : Hid (∀ i, m ≤ i → i < n → t ≤ ts i) := fun i hi' hn' => by
          have := HS.out m i hi' hn'
          omega
        clear hc
        go_wp2
        go_roundw
        case rel => exact ⟨lo, m, m1, by omega, rfl, rfl, HL, HH2, HB2⟩
        case measure => simp [intOf]; omega
    · obtain rfl : lo = hi := by omega
      by_cases hln : lo < n
      · obtain ⟨c0, c1, c2, ⟨s, c3⟩, ⟨x, c4⟩⟩ := HG.out.2 lo (by omega)
        have hgz := HG.out.1
        have k0 : wr.cell? ⟨g, lo * 5, none⟩ = some (.int .u64 (nn (ts lo))) := by rw [HB.out.cell (p := ⟨g, lo * 5, none⟩) (by simp; omega), World.cell?_alloc_past _ _ _ hgz, c0]
        have k1 : wr.cell? ⟨g, lo * 5 + 1, none⟩ = some (.int .i64 (sc (ts lo))) := by rw [HB.out.cell (p := ⟨g, lo * 5 + 1, none⟩) (by simp; omega), World.cell?_alloc_past _ _ _ hgz, c1]
        have k2 : wr.cell? ⟨g, lo * 5 + 2, none⟩ = some (.pointer none) := by rw [HB.out.cell (p := ⟨g, lo * 5 + 2, none⟩) (by simp; omega), World.cell?_alloc_past _ _ _ hgz, c2]
        have k3 : wr.cell? ⟨g, lo * 5 + 3, none⟩ = some (.string s) := by rw [HB.out.cell (p := ⟨g, lo * 5 + 3, none⟩) (by simp; omega), World.cell?_alloc_past _ _ _ hgz, c3]
        have k4 : wr.cell? ⟨g, lo * 5 + 4, none⟩ = some (.bool x) := by rw [HB.out.cell (p := ⟨g, lo * 5 + 4, none⟩) (by simp; omega), World.cell?_alloc_past _ _ _ hgz, c4]
        have t0 : wr.cell? ⟨w.heap.size, 0, none⟩ = some (.int .u64 (nn t)) := by rw [HB.out.cell (p := ⟨w.heap.size, 0, none⟩) (by simp)]; simp [go_sem]
        have t1 : wr.cell? ⟨w.heap.size, 1, none⟩ = some (.int .i64 (sc t)) := by rw [HB.out.cell (p := ⟨w.heap.size, 1, none⟩) (by simp)]; simp [go_sem]
        have t2 : wr.cell? ⟨w.heap.size, 2, none⟩ = some (.pointer none) := by rw [HB.out.cell (p := ⟨w.heap.size, 2, none⟩) (by simp)]; simp [go_sem]
        clear c0 c1 c2 c3 c4
        have hmn : (lo : Int) < n := by omega
        have z1 : w.heap.size < wr.heap.size := by have := HB.out.size; simp at this; omega
        have z2 : g < wr.heap.size := by omega
        go_wp2_with fail
        go_region_held3 (fun w' => w'.cell? ⟨g, lo * 5, none⟩ = some (.int .u64 (nn (ts lo))) ∧ w'.cell? ⟨g, lo * 5 + 1, none⟩ = some (.int .i64 (sc (ts lo))) ∧ w'.cell? ⟨g, lo * 5 + 2, none⟩ = some (.pointer none) ∧ w'.cell? ⟨g, lo * 5 + 3, none⟩ = some (.string s) ∧ w'.cell? ⟨g, lo * 5 + 4, none⟩ = some (.bool x)
            ∧ w'.cell? ⟨w.heap.size, 0, none⟩ = some (.int .u64 (nn t)) ∧ w'.cell? ⟨w.heap.size, 1, none⟩ = some (.int .i64 (sc t)) ∧ w'.cell? ⟨w.heap.size, 2, none⟩ = some (.pointer none)) (first | (simp [go_sem, k0, k1, k2, k3, k4, t0, t1, t2]; done) | (simp [*]; done)) (first
          | (go_at_call 16; refine (clo_kept (ts lo) t s x g (lo * 5) w.heap.size (.int .u64 (nn (ts lo))) (.int .i64 (sc (ts lo))) (.pointer none) (.string s) (.bool x) (.int .u64 (nn t)) (.int .i64 (sc t)) (.pointer none) _ ?_ ?_ ?_ ?_ ?_ ?_ ?_ ?_ ?_ ?_).mono ?_; (simp [go_sem]; exact z2); (simp [go_sem]; exact z1); exact k0; exact k1; exact k2; exact k3; exact k4; exact t0; exact t1; exact t2; rintro e w1 ⟨rfl, HB1, d0, d1, d2, d3, d4, d5, d6, d7⟩))
        have HB2 : Hid (Below w.heap.size w w1) := ((Below.refl _ _).alloc (Nat.le_refl _) _).trans ((HB.out.trans ((Below.refl _ _).drew.trans (HB1.out.mono (by simp; omega)))).mono (by omega))
        clear d0 d1 d2 d3 d4 d5 d6 d7 k0 k1 k2 k3 k4 t0 t1 t2 HB1 HB z1 z2
        go_wp2
        go_ret2
        exact ⟨⟨lo, _, rfl, h2, HL.out, HH.out⟩, HB2.out⟩
      · have hd : decide ((lo : Int) < (n : Int)) = false := by simp; omega
        have HB2 : Hid (Below w.heap.size w wr) := ((Below.refl _ _).alloc (Nat.le_refl _) _).trans (HB.out.mono (by omega))
        clear HB
        go_wp2_with fail
        go_quiet (fail)
        go_wp2
        go_ret2
        exact ⟨⟨lo, _, rfl, h2, HL.out, HH.out⟩, below_drewN HB2.out _⟩

end Go.Proofs.Qxb6615732a
