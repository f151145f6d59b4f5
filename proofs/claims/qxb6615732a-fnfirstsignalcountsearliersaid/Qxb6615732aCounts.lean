/-
  FnFirstSignalCountsEarlier (3): its walk.
-/
import Derived.Test.Qxb6615732aOpen
namespace Go.Proofs.Qxb6615732a
open Go.RowKit

set_option maxRecDepth 100000 in
set_option maxHeartbeats 2000000 in
theorem counts_core (a1 a2 a3 : Option Addr) (n c1 c2 c3 : Nat) (ts : Nat → Int) (ss : Nat → ByteArray) (xs : Nat → Bool) (t1 t2 : Int) (w : World) (hn : n ≤ 65536) (ht : ∀ i, Fits (ts i)) (f1 : Fits t1) (f2 : Fits t2)
    (r1 : Reads (.slice a1 n c1) n (fun i => .int .i64 (ts i)) w) (r2 : Reads (.slice a2 n c2) n (fun i => .string (ss i)) w) (r3 : Reads (.slice a3 n c3) n (fun i => .bool (xs i)) w) :
    Calls Try.prog 3 #[.slice a1 n c1, .slice a2 n c2, .slice a3 n c3, .int .i64 t1, .int .i64 t2] w fun e w' => e = .returned (.bool true) ∧ Below w.heap.size w w' := by
  have g1 : ¬ (65536 : Int) < n := by omega
  have HT := (show Hid _ from ht)
  have F1 := (show Hid _ from f1)
  have F2 := (show Hid _ from f2)
  have R1 := (show Hid _ from r1)
  have R2 := (show Hid _ from r2)
  have R3 := (show Hid _ from r3)
  clear ht f1 f2 r1 r2 r3
  go_enter Try.func3, Try.ntmps3
  go_wp2_with fail
  refine (bytes5_any _ _ _ n n n _ ss _ t1 t2 _ (by omega) (by omega) (by omega) R1.out R2.out R3.out).mono ?_
  rintro e w1 ⟨⟨r, rfl⟩, rfl⟩
  cases r
  · go_wp2
    go_ret
    exact ⟨rfl, Below.refl _ _⟩
  go_wp2_with fail
  refine (within_any _ _ _ n n n _ ss _ _ hn hn hn R1.out R2.out R3.out).mono ?_
  rintro e w1 ⟨⟨r, rfl⟩, rfl⟩
  cases r
  · go_wp2
    go_ret
    exact ⟨rfl, Below.refl _ _⟩
  go_wp2_with fail
  refine (sorted_any _ n ts _ hn R1.out).mono ?_
  rintro e wx ⟨⟨r, rfl, hs⟩, d, rfl⟩
  cases r
  · clear hs
    go_wp2
    go_ret
    exact ⟨rfl, below_drewN (Below.refl _ _) _⟩
  have HS : Hid (Sorted n ts) := hs rfl
  clear hs
  have q1 := fun (w : World) (a : Option Addr) (n c : Nat) => run_neq_slice_nil_any (P := Try.prog) w 22 2 a n c 0 0 Try.underlying22
  have q2 := fun (w : World) (a : Option Addr) (n c : Nat) => run_neq_slice_nil_any (P := Try.prog) w 23 9 a n c 0 0 Try.underlying23
  have q3 := fun (w : World) (a : Option Addr) (n c : Nat) => run_neq_slice_nil_any (P := Try.prog) w 24 4 a n c 0 0 Try.underlying24
  go_upto_if 58 with fail
  go_cut [0] (fun s0 wx => Hid (Reads s0 n (fun i => .int .i64 (ts i)) wx) ∧ Hid (Below w1.heap.size w1 wx))
  case first =>
    cases a1 with
    | none =>
      go_wp2_with fail
      go_meet
      exact ⟨reads_below R1.out (below_drewN (Below.refl _ _) _) (Nat.le_refl _), (below_drewN (Below.refl _ _) _)⟩
    | some x =>
      obtain ⟨W1, W2, hmk, hcp, hr, hb⟩ := copy_law 22 2 _ 8 Try.underlying22 info2 rfl (by decide) n c1 hn x (fun i => .int .i64 (ts i)) (fun _ => rfl) (w1.drewN d) (reads_below R1.out (below_drewN (Below.refl _ _) _) (Nat.le_refl _))
      simp only [World.heap_drewN] at hmk hcp hr hb
      have HR := (show Hid _ from hr)
      have HB := (show Hid _ from hb)
      clear hr hb
      go_wp2_with fail
      go_meet
      exact ⟨HR.out, (below_drewN (Below.refl _ _) _).trans HB.out⟩
  case rest =>
  obtain ⟨HR1, HB1⟩ := hcut
  obtain ⟨b1, k1, rfl, _, _⟩ := HR1.out
  obtain ⟨w2, rfl⟩ : ∃ w2 : World, w2 = wc := ⟨_, rfl⟩
  have P2 : Hid (Reads (.slice a2 n c2) n (fun i => .string (ss i)) w2) := reads_below R2.out HB1.out (Nat.le_refl _)
  have P3 : Hid (Reads (.slice a3 n c3) n (fun i => .bool (xs i)) w2) := reads_below R3.out HB1.out (Nat.le_refl _)
  clear R1 R2 R3
  go_upto_if 67 with fail
  go_cut [1] (fun s1 wx => Hid (Reads s1 n (fun i => .string (ss i)) wx) ∧ Hid (Below w2.heap.size w2 wx))
  case first =>
    cases a2 with
    | none =>
      go_wp2_with fail
      go_meet
      exact ⟨reads_below P2.out (Below.refl _ _) (Nat.le_refl _), (Below.refl _ _)⟩
    | some x =>
      obtain ⟨W1, W2, hmk, hcp, hr, hb⟩ := copy_law 23 9 _ 16 Try.underlying23 info9 rfl (by decide) n c2 hn x (fun i => .string (ss i)) (fun _ => rfl) w2 (reads_below P2.out (Below.refl _ _) (Nat.le_refl _))
      have HR := (show Hid _ from hr)
      have HB := (show Hid _ from hb)
      clear hr hb
      go_wp2_with fail
      go_meet
      exact ⟨HR.out, HB.out⟩
  case rest =>
  obtain ⟨HR2, HB2⟩ := hcut
  obtain ⟨b2, k2, rfl, _, _⟩ := HR2.out
  obtain ⟨w3, rfl⟩ : ∃ w3 : World, w3 = wc := ⟨_, rfl⟩
  have Q1 : Hid (Reads (.slice b1 n k1) n (fun i => .int .i64 (ts i)) w3) := reads_below HR1.out HB2.out (Nat.le_refl _)
  have Q3 : Hid (Reads (.slice a3 n c3) n (fun i => .bool (xs i)) w3) := reads_below P3.out HB2.out (Nat.le_refl _)
  clear P2 P3 HR1
  go_upto_if 76 with fail
  go_cut [2] (fun s2 wx => Hid (Reads s2 n (fun i => .bool (xs i)) wx) ∧ Hid (Below w3.heap.size w3 wx))
  case first =>
    cases a3 with
    | none =>
      go_wp2_with fail
      go_meet
      exact ⟨reads_below Q3.out (Below.refl _ _) (Nat.le_refl _), (Below.refl _ _)⟩
    | some x =>
      obtain ⟨W1, W2, hmk, hcp, hr, hb⟩ := copy_law 24 4 _ 1 Try.underlying24 info4 rfl (by decide) n c3 hn x (fun i => .bool (xs i)) (fun _ => rfl) w3 (reads_below Q3.out (Below.refl _ _) (Nat.le_refl _))
      have HR := (show Hid _ from hr)
      have HB := (show Hid _ from hb)
      clear hr hb
      go_wp2_with fail
      go_meet
      exact ⟨HR.out, HB.out⟩
  case rest =>
  obtain ⟨HR3, HB3⟩ := hcut
  obtain ⟨b3, k3, rfl, _, _⟩ := HR3.out
  obtain ⟨w4, rfl⟩ : ∃ w4 : World, w4 = wc := ⟨_, rfl⟩
  have RA : Hid (Reads (.slice b1 n k1) n (fun i => .int .i64 (ts i)) w4) := reads_below Q1.out HB3.out (Nat.le_refl _)
  have RB : Hid (Reads (.slice b2 n k2) n (fun i => .string (ss i)) w4) := reads_below HR2.out HB3.out (Nat.le_refl _)
  have HBB : Hid (Below w1.heap.size w1 w4) := HB1.out.trans ((HB2.out.mono HB1.out.size).trans (HB3.out.mono (Nat.le_trans HB1.out.size HB2.out.size)))
  clear Q1 Q3 HR2 HB1 HB2 HB3 q1 q2 q3
  go_wp2_with fail
  refine (new_any n _ _ _ ts ss xs _ hn HT.out RA.out RB.out HR3.out).mono ?_
  rintro e w5 ⟨h, rfl, hh, hb⟩
  have HH : Hid (Hist h n ts w5) := hh
  have RA5 : Hid (Reads (.slice b1 n k1) n (fun i => .int .i64 (ts i)) w5) := reads_below RA.out hb (Nat.le_refl _)
  have HB5 : Hid (Below w1.heap.size w1 w5) := HBB.out.trans (hb.mono HBB.out.size)
  clear hh hb HBB RA RB HR3
  go_wp2_with fail
  refine (zzfirst_any h n ts t1 F1.out.1 F1.out.2 hn HS.out _ HH.out).mono ?_
  rintro e w6 ⟨⟨x1, rfl, hl1⟩, hb⟩
  have HL1 : Hid (Lower n ts t1 x1) := hl1
  have HH6 : Hid (Hist h n ts w6) := hist_below HH.out hb (Nat.le_refl _)
  have RA6 : Hid (Reads (.slice b1 n k1) n (fun i => .int .i64 (ts i)) w6) := reads_below RA5.out hb (Nat.le_refl _)
  have HB6 : Hid (Below w1.heap.size w1 w6) := HB5.out.trans (hb.mono HB5.out.size)
  clear hl1 hb HH RA5 HB5
  go_wp2_with fail
  refine (zzfirst_any h n ts t2 F2.out.1 F2.out.2 hn HS.out _ HH6.out).mono ?_
  rintro e w7 ⟨⟨x2, rfl, hl2⟩, hb⟩
  have HL2 : Hid (Lower n ts t2 x2) := hl2
  have RA7 : Hid (Reads (.slice b1 n k1) n (fun i => .int .i64 (ts i)) w7) := reads_below RA6.out hb (Nat.le_refl _)
  have HB7 : Hid (Below w1.heap.size w1 w7) := HB6.out.trans (hb.mono HB6.out.size)
  clear hl2 hb HH6 RA6 HB6
  have e1 := cnt_lower n ts t1 x1 HL1.out
  have e2 := cnt_lower n ts t2 x2 HL2.out
  have l1 := HL1.out.1
  have l2 := HL2.out.1
  go_wp2_with fail
  refine (count_any _ n ts t1 _ hn RA7.out).mono ?_
  rw [e1]
  rintro e w8 ⟨rfl, rfl⟩
  go_wp2_with fail
  refine (count_any _ n ts t2 _ hn RA7.out).mono ?_
  rw [e2]
  rintro e w8 ⟨rfl, rfl⟩
  clear e1 e2
  by_cases h12 : t1 ≤ t2
  · have hle : ¬ (x2 : Int) < x1 := by
      intro hlt
      have ha := HL1.out.2.1 x2 (by omega)
      have hb := HL2.out.2.2 x2 (Nat.le_refl _) (by omega)
      omega
    go_wp2
    go_ret
    exact ⟨rfl, HB7.out⟩
  · go_wp2
    go_ret
    exact ⟨rfl, HB7.out⟩

set_option maxHeartbeats 1000000 in
/-- The lengths part, or one is too great: true at once. -/
theorem counts_early (a1 a2 a3 : Option Addr) (n1 n2 n3 c1 c2 c3 : Nat) (ts : Nat → Int) (ss : Nat → ByteArray) (xs : Nat → Bool) (t1 t2 : Int) (w : World) (h1 : n1 ≤ 9223372036854775807) (h2 : n2 ≤ 9223372036854775807) (h3 : n3 ≤ 9223372036854775807)
    (hne : ¬ (n1 ≤ 65536 ∧ n2 = n1 ∧ n3 = n1))
    (r1 : Reads (.slice a1 n1 c1) n1 (fun i => .int .i64 (ts i)) w) (r2 : Reads (.slice a2 n2 c2) n2 (fun i => .string (ss i)) w) (r3 : Reads (.slice a3 n3 c3) n3 (fun i => .bool (xs i)) w) :
    Calls Try.prog 3 #[.slice a1 n1 c1, .slice a2 n2 c2, .slice a3 n3 c3, .int .i64 t1, .int .i64 t2] w fun e w' => e = .returned (.bool true) ∧ Below w.heap.size w w' := by
  have R1 := (show Hid _ from r1)
  have R2 := (show Hid _ from r2)
  have R3 := (show Hid _ from r3)
  have HN := (show Hid _ from hne)
  clear r1 r2 r3 hne
  by_cases g1 : (65536 : Int) < n1
  · go_enter Try.func3, Try.ntmps3
    go_wp2_with fail
    refine (bytes5_any _ _ _ n1 n2 n3 _ ss _ t1 t2 _ h1 h2 h3 R1.out R2.out R3.out).mono ?_
    rintro e w1 ⟨⟨r, rfl⟩, rfl⟩
    cases r
    · go_wp2
      go_ret
      exact ⟨rfl, Below.refl _ _⟩
    · go_wp2
      go_ret
      exact ⟨rfl, Below.refl _ _⟩
  by_cases g2 : (65536 : Int) < n2
  · go_enter Try.func3, Try.ntmps3
    go_wp2_with fail
    refine (bytes5_any _ _ _ n1 n2 n3 _ ss _ t1 t2 _ h1 h2 h3 R1.out R2.out R3.out).mono ?_
    rintro e w1 ⟨⟨r, rfl⟩, rfl⟩
    cases r
    · go_wp2
      go_ret
      exact ⟨rfl, Below.refl _ _⟩
    · go_wp2
      go_ret
      exact ⟨rfl, Below.refl _ _⟩
  by_cases g3 : (65536 : Int) < n3
  · go_enter Try.func3, Try.ntmps3
    go_wp2_with fail
    refine (bytes5_any _ _ _ n1 n2 n3 _ ss _ t1 t2 _ h1 h2 h3 R1.out R2.out R3.out).mono ?_
    rintro e w1 ⟨⟨r, rfl⟩, rfl⟩
    cases r
    · go_wp2
      go_ret
      exact ⟨rfl, Below.refl _ _⟩
    · go_wp2
      go_ret
      exact ⟨rfl, Below.refl _ _⟩
  by_cases g4 : n2 = n1
  · have g5 : ¬ n3 = n1 := fun h => HN.out ⟨by omega, g4, h⟩
    subst g4
    have p5 : ((n3 : Int) != (n2 : Int)) = true := by rw [bne_iff_ne]; omega
    clear g5
    go_enter Try.func3, Try.ntmps3
    go_wp2_with fail
    refine (bytes5_any _ _ _ n2 n2 n3 _ ss _ t1 t2 _ h1 h2 h3 R1.out R2.out R3.out).mono ?_
    rintro e w1 ⟨⟨r, rfl⟩, rfl⟩
    cases r
    · go_wp2
      go_ret
      exact ⟨rfl, Below.refl _ _⟩
    go_wp2_with fail
    refine (within_any _ _ _ n2 n2 n3 _ ss _ _ (by omega) (by omega) (by omega) R1.out R2.out R3.out).mono ?_
    rintro e w1 ⟨⟨r, rfl⟩, rfl⟩
    cases r
    · go_wp2
      go_ret
      exact ⟨rfl, Below.refl _ _⟩
    go_wp2
    go_ret
    exact ⟨rfl, Below.refl _ _⟩
  · have p4 : ((n2 : Int) != (n1 : Int)) = true := by rw [bne_iff_ne]; omega
    clear g4
    go_enter Try.func3, Try.ntmps3
    go_wp2_with fail
    refine (bytes5_any _ _ _ n1 n2 n3 _ ss _ t1 t2 _ h1 h2 h3 R1.out R2.out R3.out).mono ?_
    rintro e w1 ⟨⟨r, rfl⟩, rfl⟩
    cases r
    · go_wp2
      go_ret
      exact ⟨rfl, Below.refl _ _⟩
    go_wp2_with fail
    refine (within_any _ _ _ n1 n2 n3 _ ss _ _ (by omega) (by omega) (by omega) R1.out R2.out R3.out).mono ?_
    rintro e w1 ⟨⟨r, rfl⟩, rfl⟩
    cases r
    · go_wp2
      go_ret
      exact ⟨rfl, Below.refl _ _⟩
    go_wp2
    go_ret
    exact ⟨rfl, Below.refl _ _⟩

/-- FnFirstSignalCountsEarlier, whole. -/
theorem counts_all (a1 a2 a3 : Option Addr) (n1 n2 n3 c1 c2 c3 : Nat) (ts : Nat → Int) (ss : Nat → ByteArray) (xs : Nat → Bool) (t1 t2 : Int) (w : World) (h1 : n1 ≤ 9223372036854775807) (h2 : n2 ≤ 9223372036854775807) (h3 : n3 ≤ 9223372036854775807)
    (ht : ∀ i, Fits (ts i)) (f1 : Fits t1) (f2 : Fits t2)
    (r1 : Reads (.slice a1 n1 c1) n1 (fun i => .int .i64 (ts i)) w) (r2 : Reads (.slice a2 n2 c2) n2 (fun i => .string (ss i)) w) (r3 : Reads (.slice a3 n3 c3) n3 (fun i => .bool (xs i)) w) :
    Calls Try.prog 3 #[.slice a1 n1 c1, .slice a2 n2 c2, .slice a3 n3 c3, .int .i64 t1, .int .i64 t2] w fun e w' => e = .returned (.bool true) ∧ Below w.heap.size w w' := by
  by_cases hne : n1 ≤ 65536 ∧ n2 = n1 ∧ n3 = n1
  · obtain ⟨hn, rfl, rfl⟩ := hne
    exact counts_core a1 a2 a3 _ c1 c2 c3 ts ss xs t1 t2 w hn ht f1 f2 r1 r2 r3
  · exact counts_early a1 a2 a3 n1 n2 n3 c1 c2 c3 ts ss xs t1 t2 w h1 h2 h3 hne r1 r2 r3

end Go.Proofs.Qxb6615732a
