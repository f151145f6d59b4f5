/-
  ZZsetSignals (12), ZZnewHistory (8): the walks.
-/
import Derived.Test.Qxb6615732aSet
import Derived.LoopN
namespace Go.Proofs.Qxb6615732a
open Go.RowKit

set_option maxRecDepth 100000 in
set_option maxHeartbeats 1000000 in
theorem set_some (h n : Nat) (b1 o1 c1 b2 o2 c2 b3 o3 c3 : Nat) (ts : Nat → Int) (ss : Nat → ByteArray) (xs : Nat → Bool) (m1 : Value) (w : World) (hn : n ≤ 65536) (hz : h < w.heap.size) (z1 : b1 < w.heap.size) (z2 : b2 < w.heap.size) (z3 : b3 < w.heap.size)
    (ht : ∀ i, -9223372036854775808 ≤ ts i ∧ ts i ≤ 9223372036854775807)
    (e1 : ∀ i, i < n → w.cell? ⟨b1, o1 + i, none⟩ = some (.int .i64 (ts i))) (e2 : ∀ i, i < n → w.cell? ⟨b2, o2 + i, none⟩ = some (.string (ss i))) (e3 : ∀ i, i < n → w.cell? ⟨b3, o3 + i, none⟩ = some (.bool (xs i)))
    (k1 : w.cell? ⟨h, 1, none⟩ = some m1) (hf : ∀ j, w.frozen? ⟨h, j, none⟩ = false) :
    Calls Try.prog 12 #[.pointer (some ⟨h, 0, none⟩), .slice (some ⟨b1, o1, none⟩) n c1, .slice (some ⟨b2, o2, none⟩) n c2, .slice (some ⟨b3, o3, none⟩) n c3] w fun e w' =>
      e = .returned (.tuple #[]) ∧ Hist h n ts w' ∧ Below h w w' := by
  have hmk := make34 n hn
  have HE1 := (show Hid _ from e1)
  have HE2 := (show Hid _ from e2)
  have HE3 := (show Hid _ from e3)
  have HT := (show Hid _ from ht)
  clear e1 e2 e3 ht
  go_enter Try.func12, Try.ntmps12
  go_wp2
  clear hmk
  go_loopw [15] (fun i wr => ∃ k : Nat, k ≤ n ∧ i = .int .i64 k ∧ Hid (Built w.heap.size n k ts w wr)) (fun i _ => n - (intOf i).toNat)
  case atStart => exact ⟨0, Nat.zero_le _, rfl, built_start n ts w⟩
  case round =>
    obtain ⟨k, hk, rfl, HB⟩ := hrel
    by_cases hlt : k < n
    · have d1 : wr.cell? ⟨b1, o1 + k, none⟩ = some (.int .i64 (ts k)) := (HB.out.1.cell (p := ⟨b1, o1 + k, none⟩) z1).trans (HE1.out k hlt)
      have d2 : wr.cell? ⟨b2, o2 + k, none⟩ = some (.string (ss k)) := (HB.out.1.cell (p := ⟨b2, o2 + k, none⟩) z2).trans (HE2.out k hlt)
      have d3 : wr.cell? ⟨b3, o3 + k, none⟩ = some (.bool (xs k)) := (HB.out.1.cell (p := ⟨b3, o3 + k, none⟩) z3).trans (HE3.out k hlt)
      obtain ⟨v0, g0⟩ := HB.out.2.2.2.1 (k * 5) (by omega)
      obtain ⟨v1, g1⟩ := HB.out.2.2.2.1 (k * 5 + 1) (by omega)
      obtain ⟨v2, g2⟩ := HB.out.2.2.2.1 (k * 5 + 2) (by omega)
      obtain ⟨v3, g3⟩ := HB.out.2.2.2.1 (k * 5 + 3) (by omega)
      obtain ⟨v4, g4⟩ := HB.out.2.2.2.1 (k * 5 + 4) (by omega)
      have f0 := HB.out.2.2.2.2
      have y0 := HB.out.2.1
      have y1 : b1 < wr.heap.size := by omega
      have y2 : b2 < wr.heap.size := by omega
      have y3 : b3 < wr.heap.size := by omega
      have hkn : (k : Int) < n := by omega
      have ne1 : ¬ w.heap.size = b1 := by omega
      have ne2 : ¬ w.heap.size = b2 := by omega
      have ne3 : ¬ w.heap.size = b3 := by omega
      go_wp2_with fail
      go_region_held3 (fun w' => w'.cell? ⟨b1, o1 + k, none⟩ = some (.int .i64 (ts k)) ∧ w'.cell? ⟨b2, o2 + k, none⟩ = some (.string (ss k)) ∧ w'.cell? ⟨b3, o3 + k, none⟩ = some (.bool (xs k)))
        (first | (simp [go_sem, d1, d2, d3]; done) | (simp [go_sem, r1, r2, r3]; done) | (simp [go_sem, ne1, ne2, ne3, r1, r2, r3]; done)) (first
        | (go_at_call 14; refine (zzTime_kept (ts k) (HT.out k).1 (HT.out k).2 w.heap.size (k * 5) b1 (o1 + k) b2 (o2 + k) b3 (o3 + k) v0 v1 v2 v3 v4 (.int .i64 (ts k)) (.string (ss k)) (.bool (xs k)) _ ?_ ?_ ?_ ?_ ?_ ?_ ?_ ?_ ?_ ?_ ?_ ?_ ?_).mono ?_; exact y0; exact y1; exact y2; exact y3; exact g0; exact g1; exact g2; exact g3; exact g4; exact d1; exact d2; exact d3; exact f0; rintro e w1 ⟨rfl, HB1, f1, q0, q1, q2, q3, q4, r1, r2, r3⟩))
      have HB2 : Hid (Built w.heap.size n (k + 1) ts w (five w1 w.heap.size (k * 5) (.int .u64 (nn (ts k))) (.int .i64 (sc (ts k))) (.pointer none) (.string (ss k)) (.bool (xs k)))) :=
        built_step (built_keep HB.out ((Below.refl _ _).drew.trans HB1.out) (by simp)) hlt
      clear HB HB1 f0 f1 g0 g1 g2 g3 g4 q0 q1 q2 q3 q4 r1 r2 r3 d1 d2 d3
      go_wp2_with fail
      go_roundw
      case rel => exact ⟨k + 1, by omega, by go_num, HB2⟩
      case measure => simp [intOf]; omega
    · obtain rfl : k = n := by omega
      have y0 := HB.out.2.1
      have a1 : wr.cell? ⟨h, 1, none⟩ = some m1 := (HB.out.1.cell (p := ⟨h, 1, none⟩) hz).trans k1
      have a3 : wr.frozen? ⟨h, 1, none⟩ = false := (HB.out.1.frozen (p := ⟨h, 1, none⟩) hz).trans (hf 1)
      have ne1 : ¬ h = w.heap.size := by omega
      go_wp2
      go_end0
      refine ⟨rfl, ⟨by simp; omega, w.heap.size, by simp [go_sem, a1], ?_⟩, ?_⟩
      · refine ⟨by simp; exact y0, fun i hi => ?_⟩
        have e : ∀ o, (wr.setCell ⟨h, 1, none⟩ (.slice (some ⟨w.heap.size, 0, none⟩) k k)).cell? ⟨w.heap.size, o, none⟩ = wr.cell? ⟨w.heap.size, o, none⟩ := fun o => World.cell?_setCell_other _ _ _ _ (by intro h; injection h; omega)
        simp only [e]
        exact HB.out.2.2.1.2 i hi
      · exact (HB.out.1.mono (show h ≤ w.heap.size by omega)).setCell (p := ⟨h, 1, none⟩) (Nat.le_refl _) _


set_option maxHeartbeats 400000 in
/-- No signal. -/
theorem set_none (h : Nat) (a1 a2 a3 : Option Addr) (c1 c2 c3 : Nat) (ts : Nat → Int) (m1 : Value) (w : World) (hz : h < w.heap.size)
    (k1 : w.cell? ⟨h, 1, none⟩ = some m1) (hf : ∀ j, w.frozen? ⟨h, j, none⟩ = false) :
    Calls Try.prog 12 #[.pointer (some ⟨h, 0, none⟩), .slice a1 0 c1, .slice a2 0 c2, .slice a3 0 c3] w fun e w' =>
      e = .returned (.tuple #[]) ∧ Hist h 0 ts w' ∧ Below h w w' := by
  have hmk : ∀ w, (Instr.makeSlice 34 (.int .i64 0) (.int .i64 0)).run Try.prog w = .ok (.slice (some ⟨w.heap.size, 0, none⟩) 0 0) (w.alloc (sigObj 0)) := fun w => make34 0 (by omega) w
  have b1 : (w.alloc (sigObj 0)).cell? ⟨h, 1, none⟩ = some m1 := (World.cell?_alloc_past _ _ _ hz).trans k1
  have b2 : (w.alloc (sigObj 0)).frozen? ⟨h, 1, none⟩ = false := (((Below.refl w.heap.size w).alloc (Nat.le_refl _) _).frozen (p := ⟨h, 1, none⟩) hz).trans (hf 1)
  go_enter Try.func12, Try.ntmps12
  go_wp2
  refine wp_loop_rounds 1 ?_
  rw [rounds_succ]
  go_wp2
  go_end0
  refine ⟨rfl, ⟨by simp; omega, w.heap.size, ?_, by simp, fun i hi => by omega⟩, ?_⟩
  · exact (World.cell?_alloc_past _ _ _ (by simpa using hz)).trans (World.cell?_setCell_same _ _ _ k1)
  · exact ((Below.refl h w).setCell (p := ⟨h, 1, none⟩) (Nat.le_refl _) _).alloc (by simp; omega) _

/-- The slice v reads, element by element, as f. -/
def Reads (v : Value) (n : Nat) (f : Nat → Value) (w : World) : Prop :=
  ∃ (a : Option Addr) (c : Nat), v = .slice a n c ∧ n ≤ c ∧ (0 < n → ∃ b o, a = some ⟨b, o, none⟩ ∧ b < w.heap.size ∧ ∀ i, i < n → w.cell? ⟨b, o + i, none⟩ = some (f i))

theorem reads_below {v : Value} {n B : Nat} {f : Nat → Value} {w w' : World} (h : Reads v n f w) (hb : Below B w w') (hB : w.heap.size ≤ B) : Reads v n f w' := by
  obtain ⟨a, c, hv, hc, h⟩ := h
  refine ⟨a, c, hv, hc, fun h0 => ?_⟩
  obtain ⟨b, o, ha, hb', h⟩ := h h0
  exact ⟨b, o, ha, Nat.lt_of_lt_of_le hb' hb.size, fun i hi => (hb.cell (p := ⟨b, o + i, none⟩) (by simp; omega)).trans (h i hi)⟩

/-- ZZsetSignals. -/
theorem set_any (h n : Nat) (vt vs vx : Value) (ts : Nat → Int) (ss : Nat → ByteArray) (xs : Nat → Bool) (m1 : Value) (w : World) (hn : n ≤ 65536) (hz : h < w.heap.size)
    (ht : ∀ i, -9223372036854775808 ≤ ts i ∧ ts i ≤ 9223372036854775807)
    (r1 : Reads vt n (fun i => .int .i64 (ts i)) w) (r2 : Reads vs n (fun i => .string (ss i)) w) (r3 : Reads vx n (fun i => .bool (xs i)) w)
    (k1 : w.cell? ⟨h, 1, none⟩ = some m1) (hf : ∀ j, w.frozen? ⟨h, j, none⟩ = false) :
    Calls Try.prog 12 #[.pointer (some ⟨h, 0, none⟩), vt, vs, vx] w fun e w' => e = .returned (.tuple #[]) ∧ Hist h n ts w' ∧ Below h w w' := by
  obtain ⟨a1, c1, rfl, _, e1⟩ := r1
  obtain ⟨a2, c2, rfl, _, e2⟩ := r2
  obtain ⟨a3, c3, rfl, _, e3⟩ := r3
  by_cases h0 : 0 < n
  · obtain ⟨b1, o1, rfl, z1, e1⟩ := e1 h0
    obtain ⟨b2, o2, rfl, z2, e2⟩ := e2 h0
    obtain ⟨b3, o3, rfl, z3, e3⟩ := e3 h0
    exact set_some h n b1 o1 c1 b2 o2 c2 b3 o3 c3 ts ss xs m1 w hn hz z1 z2 z3 ht e1 e2 e3 k1 hf
  · obtain rfl : n = 0 := by omega
    exact set_none h a1 a2 a3 c1 c2 c3 ts m1 w hz k1 hf

set_option maxHeartbeats 400000 in
/-- ZZnewHistory. -/
theorem new_any (n : Nat) (vt vs vx : Value) (ts : Nat → Int) (ss : Nat → ByteArray) (xs : Nat → Bool) (w : World) (hn : n ≤ 65536)
    (ht : ∀ i, -9223372036854775808 ≤ ts i ∧ ts i ≤ 9223372036854775807)
    (r1 : Reads vt n (fun i => .int .i64 (ts i)) w) (r2 : Reads vs n (fun i => .string (ss i)) w) (r3 : Reads vx n (fun i => .bool (xs i)) w) :
    Calls Try.prog 8 #[vt, vs, vx] w fun e w' => ∃ h : Nat, e = .returned (.pointer (some ⟨h, 0, none⟩)) ∧ Hist h n ts w' ∧ Below w.heap.size w w' := by
  have HT := (show Hid _ from ht)
  have R1 := (show Hid _ from r1)
  have R2 := (show Hid _ from r2)
  have R3 := (show Hid _ from r3)
  clear ht r1 r2 r3
  go_enter Try.func8, Try.ntmps8
  go_wp2_with fail
  have hB : ∀ o, Below w.heap.size w (w.alloc o) := fun o => (Below.refl _ _).alloc (Nat.le_refl _) _
  refine (set_any w.heap.size n vt vs vx ts ss xs (.slice none 0 0) _ hn (by simp) HT.out (reads_below R1.out (hB _) (Nat.le_refl _)) (reads_below R2.out (hB _) (Nat.le_refl _)) (reads_below R3.out (hB _) (Nat.le_refl _)) (by simp [go_sem]) (fun j => by simp [go_sem])).mono ?_
  rintro e w1 ⟨rfl, hh, hb⟩
  have HH : Hid (Hist w.heap.size n ts w1) := hh
  have HB1 : Hid (Below w.heap.size w w1) := (hB _).trans hb
  clear hh hb hB
  go_wp2
  go_ret
  exact ⟨_, rfl, HH.out, HB1.out⟩

end Go.Proofs.Qxb6615732a
