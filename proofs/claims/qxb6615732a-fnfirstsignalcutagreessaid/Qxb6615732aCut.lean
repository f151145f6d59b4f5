/-
  FnFirstSignalCutAgrees (4): its walk.
-/
import Derived.Test.Qxb6615732aParts
namespace Go.Proofs.Qxb6615732a
open Go.RowKit

/-- ZZnewHistory, called in a world that has come from one in which the slices are read. -/
theorem new_from (n : Nat) (vt vs vx : Value) (ts : Nat → Int) (ss : Nat → ByteArray) (xs : Nat → Bool) (w0 w : World) (hn : n ≤ 65536) (ht : ∀ i, Fits (ts i))
    (r1 : Reads vt n (fun i => .int .i64 (ts i)) w0) (r2 : Reads vs n (fun i => .string (ss i)) w0) (r3 : Reads vx n (fun i => .bool (xs i)) w0) (hb : Below w0.heap.size w0 w) :
    Calls Try.prog 8 #[vt, vs, vx] w fun e w' => ∃ h : Nat, e = .returned (.pointer (some ⟨h, 0, none⟩)) ∧ Hid (Hist h n ts w') ∧ Hid (Below w0.heap.size w0 w') := by
  refine (new_any n vt vs vx ts ss xs w hn ht (reads_below r1 hb (Nat.le_refl _)) (reads_below r2 hb (Nat.le_refl _)) (reads_below r3 hb (Nat.le_refl _))).mono ?_
  rintro e w' ⟨h, rfl, hh, hb'⟩
  exact ⟨h, rfl, hh, hb.trans (hb'.mono hb.size)⟩

theorem below_drew1 (w : World) : Below w.heap.size w w.drew := (Below.refl _ _).drew

set_option maxRecDepth 100000 in
set_option maxHeartbeats 4000000 in
theorem cut_core (a1 a2 a3 : Option Addr) (n c1 c2 c3 : Nat) (ts : Nat → Int) (ss : Nat → ByteArray) (xs : Nat → Bool) (c t : Int) (w : World) (hn : n ≤ 65536) (ht : ∀ i, Fits (ts i)) (ft : Fits t)
    (r1 : Reads (.slice a1 n c1) n (fun i => .int .i64 (ts i)) w) (r2 : Reads (.slice a2 n c2) n (fun i => .string (ss i)) w) (r3 : Reads (.slice a3 n c3) n (fun i => .bool (xs i)) w) :
    Calls Try.prog 4 #[.slice a1 n c1, .slice a2 n c2, .slice a3 n c3, .int .i64 c, .int .i64 t] w fun e w' => e = .returned (.bool true) ∧ Below w.heap.size w w' := by
  have g1 : ¬ (65536 : Int) < n := by omega
  have HT := (show Hid _ from ht)
  have FT := (show Hid _ from ft)
  have R1 := (show Hid _ from r1)
  have R2 := (show Hid _ from r2)
  have R3 := (show Hid _ from r3)
  clear ht ft r1 r2 r3
  go_enter Try.func4, Try.ntmps4
  go_wp2_with fail
  refine (bytes11_any _ _ _ n n n _ ss _ c t _ (by omega) (by omega) (by omega) R1.out R2.out R3.out).mono ?_
  rintro e w1 ⟨⟨r, rfl⟩, rfl⟩
  cases r
  · go_wp2
    go_ret
    exact ⟨rfl, Below.refl _ _⟩
  go_wp2_with fail
  refine (within_any _ _ _ n n n _ ss _ _ hn hn hn R1.out R2.out R3.out).mono ?_
  rintro e w1 ⟨⟨r, rfl⟩, rfl⟩
  cases r
  · go_wp2
    go_ret
    exact ⟨rfl, Below.refl _ _⟩
  have q1 := fun (w : World) (a : Option Addr) (n c : Nat) => run_neq_slice_nil_any (P := Try.prog) w 22 2 a n c 0 0 Try.underlying22
  have q2 := fun (w : World) (a : Option Addr) (n c : Nat) => run_neq_slice_nil_any (P := Try.prog) w 23 9 a n c 0 0 Try.underlying23
  have q3 := fun (w : World) (a : Option Addr) (n c : Nat) => run_neq_slice_nil_any (P := Try.prog) w 24 4 a n c 0 0 Try.underlying24
  go_upto_if 60 with fail
  go_cut [0] (fun s0 wx => Hid (Reads s0 n (fun i => .int .i64 (ts i)) wx) ∧ Hid (Below w1.heap.size w1 wx))
  case first =>
    cases a1 with
    | none =>
      go_wp2_with fail
      go_meet
      exact ⟨reads_below R1.out (Below.refl _ _) (Nat.le_refl _), (Below.refl _ _)⟩
    | some x =>
      obtain ⟨W1, W2, hmk, hcp, hr, hb⟩ := copy_law 22 2 _ 8 Try.underlying22 info2 rfl (by decide) n c1 hn x (fun i => .int .i64 (ts i)) (fun _ => rfl) w1 (reads_below R1.out (Below.refl _ _) (Nat.le_refl _))
      have HR := (show Hid _ from hr)
      have HB := (show Hid _ from hb)
      clear hr hb
      go_wp2_with fail
      go_meet
      exact ⟨HR.out, HB.out⟩
  case rest =>
  obtain ⟨HR1, HB1⟩ := hcut
  obtain ⟨b1, k1, rfl, _, _⟩ := HR1.out
  obtain ⟨w2, rfl⟩ : ∃ w2 : World, w2 = wc := ⟨_, rfl⟩
  have P2 : Hid (Reads (.slice a2 n c2) n (fun i => .string (ss i)) w2) := reads_below R2.out HB1.out (Nat.le_refl _)
  have P3 : Hid (Reads (.slice a3 n c3) n (fun i => .bool (xs i)) w2) := reads_below R3.out HB1.out (Nat.le_refl _)
  clear R1 R2 R3
  go_upto_if 69 with fail
  go_cut [1] (fun s1 wx => Hid (Reads s1 n (fun i => .string (ss i)) wx) ∧ Hid (Below w2.heap.size w2 wx))
  case first =>
    cases a2 with
    | none =>
      go_wp2_with fail
      go_meet
      exact ⟨reads_below P2.out (Below.refl _ _) (Nat.le_refl _), (Below.refl _ _)⟩
    | some x =>
      obtain ⟨W1, W2, hmk, hcp, hr, hb⟩ := copy_law 23 9 _ 16 Try.underlying23 info9 rfl (by decide) n c2 hn x (fun i => .string (ss i)) (fun _ => rfl) w2 (reads_below P2.out (Below.refl _ _) (Nat.le_refl _))
      have HR := (show Hid _ from hr)
      have HB := (show Hid _ from hb)
      clear hr hb
      go_wp2_with fail
      go_meet
      exact ⟨HR.out, HB.out⟩
  case rest =>
  obtain ⟨HR2, HB2⟩ := hcut
  obtain ⟨b2, k2, rfl, _, _⟩ := HR2.out
  obtain ⟨w3, rfl⟩ : ∃ w3 : World, w3 = wc := ⟨_, rfl⟩
  have Q1 : Hid (Reads (.slice b1 n k1) n (fun i => .int .i64 (ts i)) w3) := reads_below HR1.out HB2.out (Nat.le_refl _)
  have Q3 : Hid (Reads (.slice a3 n c3) n (fun i => .bool (xs i)) w3) := reads_below P3.out HB2.out (Nat.le_refl _)
  clear P2 P3 HR1
  go_upto_if 78 with fail
  go_cut [2] (fun s2 wx => Hid (Reads s2 n (fun i => .bool (xs i)) wx) ∧ Hid (Below w3.heap.size w3 wx))
  case first =>
    cases a3 with
    | none =>
      go_wp2_with fail
      go_meet
      exact ⟨reads_below Q3.out (Below.refl _ _) (Nat.le_refl _), (Below.refl _ _)⟩
    | some x =>
      obtain ⟨W1, W2, hmk, hcp, hr, hb⟩ := copy_law 24 4 _ 1 Try.underlying24 info4 rfl (by decide) n c3 hn x (fun i => .bool (xs i)) (fun _ => rfl) w3 (reads_below Q3.out (Below.refl _ _) (Nat.le_refl _))
      have HR := (show Hid _ from hr)
      have HB := (show Hid _ from hb)
      clear hr hb
      go_wp2_with fail
      go_meet
      exact ⟨HR.out, HB.out⟩
  case rest =>
  obtain ⟨HR3, HB3⟩ := hcut
  obtain ⟨b3, k3, rfl, _, _⟩ := HR3.out
  obtain ⟨w4, rfl⟩ : ∃ w4 : World, w4 = wc := ⟨_, rfl⟩
  have RA : Hid (Reads (.slice b1 n k1) n (fun i => .int .i64 (ts i)) w4) := reads_below Q1.out HB3.out (Nat.le_refl _)
  have RB : Hid (Reads (.slice b2 n k2) n (fun i => .string (ss i)) w4) := reads_below HR2.out HB3.out (Nat.le_refl _)
  have HBB : Hid (Below w1.heap.size w1 w4) := HB1.out.trans ((HB2.out.mono HB1.out.size).trans (HB3.out.mono (Nat.le_trans HB1.out.size HB2.out.size)))
  clear Q1 Q3 HR2 HB1 HB2 HB3 q1 q2 q3
  by_cases hc : 0 ≤ c ∧ c ≤ n
  · obtain ⟨m, rfl⟩ : ∃ m : Nat, c = m := ⟨c.toNat, by omega⟩
    have hm : m ≤ n := by omega
    have hc1 : ¬ (n : Int) < m := by omega
    clear hc
    go_wp2_with fail
    refine (sorted_any _ n ts _ hn RA.out).mono ?_
    rintro e wx ⟨⟨r, rfl, hs⟩, d, rfl⟩
    cases r
    · clear hs
      go_wp2
      go_ret
      exact ⟨rfl, below_drewN HBB.out _⟩
    have HS : Hid (Sorted n ts) := hs rfl
    clear hs
    go_wp2_with fail
    refine (new_from n _ _ _ ts ss xs w4 _ hn HT.out RA.out RB.out HR3.out (below_drewN (Below.refl _ _) _)).mono ?_
    rintro e w5 ⟨h, rfl, HH, hb⟩
    have RA5 := (show Hid _ from reads_below RA.out hb.out (Nat.le_refl _))
    have RB5 := (show Hid _ from reads_below RB.out hb.out (Nat.le_refl _))
    have RC5 := (show Hid _ from reads_below HR3.out hb.out (Nat.le_refl _))
    have HB5 : Hid (Below w1.heap.size w1 w5) := HBB.out.trans (hb.out.mono HBB.out.size)
    clear hb HBB RA RB HR3
    obtain ⟨u1, s1, q1⟩ := head_law 22 2 Try.underlying22 size22 _ n _ m _ w5 hm RA5.out
    obtain ⟨u2, s2, q2⟩ := head_law 23 9 Try.underlying23 size23 _ n _ m _ w5 hm RB5.out
    obtain ⟨u3, s3, q3⟩ := head_law 24 4 Try.underlying24 size24 _ n _ m _ w5 hm RC5.out
    have Q1 := (show Hid _ from q1)
    have Q2 := (show Hid _ from q2)
    have Q3 := (show Hid _ from q3)
    clear q1 q2 q3
    go_wp2_with fail
    go_region_held3 (fun _ => True) (trivial) (first
      | (go_at_call 8; refine (new_from m u1 u2 u3 ts ss xs w5 _ (Nat.le_trans hm hn) HT.out Q1.out Q2.out Q3.out (below_drew1 _)).mono ?_; rintro e w6 ⟨h2, rfl, HH2, hb⟩))
    have RA6 := (show Hid _ from reads_below RA5.out hb.out (Nat.le_refl _))
    have RB6 := (show Hid _ from reads_below RB5.out hb.out (Nat.le_refl _))
    have RC6 := (show Hid _ from reads_below RC5.out hb.out (Nat.le_refl _))
    have HH6 := (show Hid _ from hist_below HH.out hb.out (Nat.le_refl _))
    have HB6 : Hid (Below w1.heap.size w1 w6) := HB5.out.trans (hb.out.mono HB5.out.size)
    clear hb HB5 RA5 RB5 RC5 HH Q1 Q2 Q3 s1 s2 s3
    obtain ⟨u1, s1, q1⟩ := tail_law 22 2 Try.underlying22 size22 _ n _ m _ w6 hm RA6.out
    obtain ⟨u2, s2, q2⟩ := tail_law 23 9 Try.underlying23 size23 _ n _ m _ w6 hm RB6.out
    obtain ⟨u3, s3, q3⟩ := tail_law 24 4 Try.underlying24 size24 _ n _ m _ w6 hm RC6.out
    have Q1 := (show Hid _ from q1)
    have Q2 := (show Hid _ from q2)
    have Q3 := (show Hid _ from q3)
    clear q1 q2 q3
    go_wp2_with fail
    go_region_held3 (fun _ => True) (trivial) (first
      | (go_at_call 8; refine (new_from (n - m) u1 u2 u3 (fun i => ts (m + i)) (fun i => ss (m + i)) (fun i => xs (m + i)) w6 _ (Nat.le_trans (Nat.sub_le _ _) hn) (fun i => HT.out (m + i)) Q1.out Q2.out Q3.out (below_drew1 _)).mono ?_; rintro e w7 ⟨h3, rfl, HH3, hb⟩))
    have RA7 := (show Hid _ from reads_below RA6.out hb.out (Nat.le_refl _))
    have HH7 := (show Hid _ from hist_below HH6.out hb.out (Nat.le_refl _))
    have HI7 := (show Hid _ from hist_below HH2.out hb.out (Nat.le_refl _))
    have HB7 : Hid (Below w1.heap.size w1 w7) := HB6.out.trans (hb.out.mono HB6.out.size)
    clear hb HB6 RA6 RB6 RC6 HH6 HH2 Q1 Q2 Q3 s1 s2 s3
    go_wp2_with fail
    refine (zzfirst_any h n ts t FT.out.1 FT.out.2 hn HS.out _ HH7.out).mono ?_
    rintro e w8 ⟨⟨x, rfl, hl⟩, hb⟩
    have LX : Hid (Lower n ts t x) := hl
    have RA8 := (show Hid _ from reads_below RA7.out hb (Nat.le_refl _))
    have HI8 := (show Hid _ from hist_below HI7.out hb (Nat.le_refl _))
    have HJ8 := (show Hid _ from hist_below HH3.out hb (Nat.le_refl _))
    have HB8 : Hid (Below w1.heap.size w1 w8) := HB7.out.trans (hb.mono HB7.out.size)
    clear hl hb HB7 RA7 HH7 HI7 HH3
    go_wp2_with fail
    refine (zzfirst_any h2 m ts t FT.out.1 FT.out.2 (Nat.le_trans hm hn) (sorted_head HS.out hm) _ HI8.out).mono ?_
    rintro e w9 ⟨⟨p, rfl, hl⟩, hb⟩
    have LP : Hid (Lower m ts t p) := hl
    have RA9 := (show Hid _ from reads_below RA8.out hb (Nat.le_refl _))
    have HJ9 := (show Hid _ from hist_below HJ8.out hb (Nat.le_refl _))
    have HB9 : Hid (Below w1.heap.size w1 w9) := HB8.out.trans (hb.mono HB8.out.size)
    clear hl hb HB8 RA8 HI8 HJ8
    go_wp2_with fail
    refine (zzfirst_any h3 (n - m) (fun i => ts (m + i)) t FT.out.1 FT.out.2 (Nat.le_trans (Nat.sub_le _ _) hn) (sorted_tail HS.out hm) _ HJ9.out).mono ?_
    rintro e wz ⟨⟨s, rfl, hl⟩, hb⟩
    have LS : Hid (Lower (n - m) (fun i => ts (m + i)) t s) := hl
    have RZ := (show Hid _ from reads_below RA9.out hb (Nat.le_refl _))
    have HBZ : Hid (Below w1.heap.size w1 wz) := HB9.out.trans (hb.mono HB9.out.size)
    clear hl hb HB9 RA9 HJ9
    have lx := LX.out.1
    have lp := LP.out.1
    have ls := LS.out.1
    go_upto_if 134 with fail
    go_cut [21] (fun v21 wx => v21 = .int .i64 (x : Int) ∧ wx = wz)
    case first =>
      by_cases hp : p = m
      · subst hp
        have e := law_tail hm LP.out LS.out LX.out
        have E : Hid ((x : Int) = p + s) := by show _ = _; omega
        clear e
        go_wp2_with fail
        go_meet
        exact ⟨by rw [E.out], rfl⟩
      · have e := law_head HS.out hm LP.out LX.out hp
        have E : Hid ((x : Int) = p) := by show _ = _; omega
        have hp' : ¬ (p : Int) = m := by omega
        clear e hp
        go_wp2_with fail
        go_meet
        exact ⟨by rw [E.out], rfl⟩
    case rest =>
    obtain ⟨rfl, rfl⟩ := hcut
    by_cases hn0 : n = 0
    · obtain rfl : x = 0 := by omega
      subst hn0
      go_wp2
      go_ret
      exact ⟨rfl, HBZ.out⟩
    obtain ⟨a, ca, e, _, r⟩ := RZ.out
    injection e with e1 _ e3
    obtain ⟨b, o, hbo, _, hcell⟩ := r (by omega)
    rw [hbo] at e1
    subst e1
    have HC := (show Hid _ from hcell)
    clear e3 r hbo hcell RZ
    by_cases hxn : x < n
    · have d1 := HC.out x hxn
      have t1 : ¬ ts x < t := by have := LX.out.2.2 x (Nat.le_refl _) hxn; omega
      have hx' : (x : Int) < n := by omega
      by_cases hx0 : x = 0
      · subst hx0
        rw [Nat.add_zero] at d1
        have hx0 : (0 : Int) < n := by omega
        clear hx'
        go_wp2
        go_ret
        exact ⟨rfl, HBZ.out⟩
      · obtain ⟨y, rfl⟩ : ∃ y, x = y + 1 := ⟨x - 1, by omega⟩
        have d2 := HC.out y (by omega)
        have t2 : ¬ t ≤ ts y := by have := LX.out.2.1 y (by omega); omega
        clear hx0
        go_wp2
        go_ret
        exact ⟨rfl, HBZ.out⟩
    · have hx' : ¬ (x : Int) < n := by omega
      obtain ⟨y, rfl⟩ : ∃ y, x = y + 1 := ⟨x - 1, by omega⟩
      have d2 := HC.out y (by omega)
      have hy : (y : Int) < n := by omega
      have t2 : ¬ t ≤ ts y := by have := LX.out.2.1 y (by omega); omega
      clear hxn hn0 lp ls hm hc1
      go_wp2
      go_ret
      exact ⟨rfl, HBZ.out⟩
  · by_cases hneg : c < 0
    · clear hc
      go_wp2
      go_ret
      exact ⟨rfl, HBB.out⟩
    · have hgt : (n : Int) < c := by omega
      clear hc
      go_wp2
      go_ret
      exact ⟨rfl, HBB.out⟩

set_option maxRecDepth 100000 in
set_option maxHeartbeats 2000000 in
/-- The lengths part, or one is too great: true at once. -/
theorem cut_early (a1 a2 a3 : Option Addr) (n1 n2 n3 c1 c2 c3 : Nat) (ts : Nat → Int) (ss : Nat → ByteArray) (xs : Nat → Bool) (c t : Int) (w : World) (h1 : n1 ≤ 9223372036854775807) (h2 : n2 ≤ 9223372036854775807) (h3 : n3 ≤ 9223372036854775807)
    (hne : ¬ (n1 ≤ 65536 ∧ n2 = n1 ∧ n3 = n1))
    (r1 : Reads (.slice a1 n1 c1) n1 (fun i => .int .i64 (ts i)) w) (r2 : Reads (.slice a2 n2 c2) n2 (fun i => .string (ss i)) w) (r3 : Reads (.slice a3 n3 c3) n3 (fun i => .bool (xs i)) w) :
    Calls Try.prog 4 #[.slice a1 n1 c1, .slice a2 n2 c2, .slice a3 n3 c3, .int .i64 c, .int .i64 t] w fun e w' => e = .returned (.bool true) ∧ Below w.heap.size w w' := by
  have R1 := (show Hid _ from r1)
  have R2 := (show Hid _ from r2)
  have R3 := (show Hid _ from r3)
  have HN := (show Hid _ from hne)
  clear r1 r2 r3 hne
  by_cases g1 : (65536 : Int) < n1
  · go_enter Try.func4, Try.ntmps4
    go_wp2_with fail
    refine (bytes11_any _ _ _ n1 n2 n3 _ ss _ c t _ h1 h2 h3 R1.out R2.out R3.out).mono ?_
    rintro e w1 ⟨⟨r, rfl⟩, rfl⟩
    cases r
    · go_wp2
      go_ret
      exact ⟨rfl, Below.refl _ _⟩
    · go_wp2
      go_ret
      exact ⟨rfl, Below.refl _ _⟩
  by_cases g2 : (65536 : Int) < n2
  · go_enter Try.func4, Try.ntmps4
    go_wp2_with fail
    refine (bytes11_any _ _ _ n1 n2 n3 _ ss _ c t _ h1 h2 h3 R1.out R2.out R3.out).mono ?_
    rintro e w1 ⟨⟨r, rfl⟩, rfl⟩
    cases r
    · go_wp2
      go_ret
      exact ⟨rfl, Below.refl _ _⟩
    · go_wp2
      go_ret
      exact ⟨rfl, Below.refl _ _⟩
  by_cases g3 : (65536 : Int) < n3
  · go_enter Try.func4, Try.ntmps4
    go_wp2_with fail
    refine (bytes11_any _ _ _ n1 n2 n3 _ ss _ c t _ h1 h2 h3 R1.out R2.out R3.out).mono ?_
    rintro e w1 ⟨⟨r, rfl⟩, rfl⟩
    cases r
    · go_wp2
      go_ret
      exact ⟨rfl, Below.refl _ _⟩
    · go_wp2
      go_ret
      exact ⟨rfl, Below.refl _ _⟩
  by_cases g4 : n2 = n1
  · have g5 : ¬ n3 = n1 := fun h => HN.out ⟨by omega, g4, h⟩
    subst g4
    have p5 : ((n3 : Int) != (n2 : Int)) = true := by rw [bne_iff_ne]; omega
    clear g5
    go_enter Try.func4, Try.ntmps4
    go_wp2_with fail
    refine (bytes11_any _ _ _ n2 n2 n3 _ ss _ c t _ h1 h2 h3 R1.out R2.out R3.out).mono ?_
    rintro e w1 ⟨⟨r, rfl⟩, rfl⟩
    cases r
    · go_wp2
      go_ret
      exact ⟨rfl, Below.refl _ _⟩
    go_wp2_with fail
    refine (within_any _ _ _ n2 n2 n3 _ ss _ _ (by omega) (by omega) (by omega) R1.out R2.out R3.out).mono ?_
    rintro e w1 ⟨⟨r, rfl⟩, rfl⟩
    cases r
    · go_wp2
      go_ret
      exact ⟨rfl, Below.refl _ _⟩
    go_wp2
    go_ret
    exact ⟨rfl, Below.refl _ _⟩
  · have p4 : ((n2 : Int) != (n1 : Int)) = true := by rw [bne_iff_ne]; omega
    clear g4
    go_enter Try.func4, Try.ntmps4
    go_wp2_with fail
    refine (bytes11_any _ _ _ n1 n2 n3 _ ss _ c t _ h1 h2 h3 R1.out R2.out R3.out).mono ?_
    rintro e w1 ⟨⟨r, rfl⟩, rfl⟩
    cases r
    · go_wp2
      go_ret
      exact ⟨rfl, Below.refl _ _⟩
    go_wp2_with fail
    refine (within_any _ _ _ n1 n2 n3 _ ss _ _ (by omega) (by omega) (by omega) R1.out R2.out R3.out).mono ?_
    rintro e w1 ⟨⟨r, rfl⟩, rfl⟩
    cases r
    · go_wp2
      go_ret
      exact ⟨rfl, Below.refl _ _⟩
    go_wp2
    go_ret
    exact ⟨rfl, Below.refl _ _⟩

/-- FnFirstSignalCutAgrees, whole. -/
theorem cut_all (a1 a2 a3 : Option Addr) (n1 n2 n3 c1 c2 c3 : Nat) (ts : Nat → Int) (ss : Nat → ByteArray) (xs : Nat → Bool) (c t : Int) (w : World) (h1 : n1 ≤ 9223372036854775807) (h2 : n2 ≤ 9223372036854775807) (h3 : n3 ≤ 9223372036854775807)
    (ht : ∀ i, Fits (ts i)) (ft : Fits t)
    (r1 : Reads (.slice a1 n1 c1) n1 (fun i => .int .i64 (ts i)) w) (r2 : Reads (.slice a2 n2 c2) n2 (fun i => .string (ss i)) w) (r3 : Reads (.slice a3 n3 c3) n3 (fun i => .bool (xs i)) w) :
    Calls Try.prog 4 #[.slice a1 n1 c1, .slice a2 n2 c2, .slice a3 n3 c3, .int .i64 c, .int .i64 t] w fun e w' => e = .returned (.bool true) ∧ Below w.heap.size w w' := by
  by_cases hne : n1 ≤ 65536 ∧ n2 = n1 ∧ n3 = n1
  · obtain ⟨hn, rfl, rfl⟩ := hne
    exact cut_core a1 a2 a3 _ c1 c2 c3 ts ss xs c t w hn ht ft r1 r2 r3
  · exact cut_early a1 a2 a3 n1 n2 n3 c1 c2 c3 ts ss xs c t w h1 h2 h3 hne r1 r2 r3

end Go.Proofs.Qxb6615732a
