/-
  THE PLAIN LAW OF '%q' (no Go in sight): FmtText.quote cut into units, a unit a rune (or a byte that opens none).
  Q l: the quoted form of l without its two quotes.
-/
import GoSem.Extern.FmtText
namespace Go.Proofs.Qxb6615698aFmt.Quote
open Go Go.Extern Go.Extern.FmtText

/-- The k-th byte as a number; 0 beyond the end. -/
def at' (l : List UInt8) (k : Nat) : Nat := (l[k]?.getD 0).toNat
def cont (l : List UInt8) (k : Nat) : Bool := decide (k < l.length) && at' l k / 64 == 2

/-- Utf8.decode at a list's head. -/
def dec (l : List UInt8) : Nat × Nat :=
  if at' l 0 < 0x80 then (at' l 0, 1)
  else if at' l 0 / 32 == 6 && cont l 1 then
    if (at' l 0 % 32) * 64 + at' l 1 % 64 ≥ 0x80 then ((at' l 0 % 32) * 64 + at' l 1 % 64, 2) else (0xFFFD, 1)
  else if at' l 0 / 16 == 14 && cont l 1 && cont l 2 then
    if (at' l 0 % 16) * 4096 + (at' l 1 % 64) * 64 + at' l 2 % 64 ≥ 0x800 && Utf8.valid ((at' l 0 % 16) * 4096 + (at' l 1 % 64) * 64 + at' l 2 % 64 : Nat) then ((at' l 0 % 16) * 4096 + (at' l 1 % 64) * 64 + at' l 2 % 64, 3) else (0xFFFD, 1)
  else if at' l 0 / 8 == 30 && cont l 1 && cont l 2 && cont l 3 then
    if (at' l 0 % 8) * 262144 + (at' l 1 % 64) * 4096 + (at' l 2 % 64) * 64 + at' l 3 % 64 ≥ 0x10000 && Utf8.valid ((at' l 0 % 8) * 262144 + (at' l 1 % 64) * 4096 + (at' l 2 % 64) * 64 + at' l 3 % 64 : Nat) then ((at' l 0 % 8) * 262144 + (at' l 1 % 64) * 4096 + (at' l 2 % 64) * 64 + at' l 3 % 64, 4) else (0xFFFD, 1)
  else (0xFFFD, 1)

theorem get_arr (b : List UInt8) (i : Nat) : (arr b).get! i = b[i]?.getD 0 := by
  show b.toArray[i]! = _
  rw [getElem!_def]
  simp
  cases h : b[i]? <;> simp [default]

theorem size_arr (b : List UInt8) : (arr b).size = b.length := by simp [arr, ByteArray.size]

theorem decode_dec (b : List UInt8) (pos : Nat) : Utf8.decode (arr b) pos = dec (b.drop pos) := by
  have ha : ∀ k, ((arr b).get! (pos + k)).toNat = at' (b.drop pos) k := by
    intro k; rw [get_arr]; simp [at', List.getElem?_drop]
  have hc : ∀ k, (decide (pos + k < (arr b).size) && at' (b.drop pos) k / 64 == 2) = cont (b.drop pos) k := by
    intro k
    rw [size_arr, cont]
    congr 1
    rw [List.length_drop]
    rw [decide_eq_decide]; omega
  unfold Utf8.decode dec
  simp only [ha, hc, Utf8.runeError]

theorem dec1 (a : UInt8) (t : List UInt8) (h : a.toNat < 128) : dec (a :: t) = (a.toNat, 1) := by
  simp [dec, at', h]

theorem dec2 (a b : UInt8) (t : List UInt8) (h1 : a.toNat / 32 = 6) (h2 : b.toNat / 64 = 2) (h : 128 ≤ a.toNat % 32 * 64 + b.toNat % 64) : dec (a :: b :: t) = (a.toNat % 32 * 64 + b.toNat % 64, 2) := by
  have h0 : ¬ a.toNat < 128 := by omega
  simp [dec, at', cont, h0, h1, h2, h]

theorem dec3 (a b c : UInt8) (t : List UInt8) (h1 : a.toNat / 16 = 14) (h2 : b.toNat / 64 = 2) (h3 : c.toNat / 64 = 2) (h : 2048 ≤ a.toNat % 16 * 4096 + b.toNat % 64 * 64 + c.toNat % 64) (hv : Utf8.valid ((a.toNat % 16 * 4096 + b.toNat % 64 * 64 + c.toNat % 64 : Nat) : Int) = true) : dec (a :: b :: c :: t) = (a.toNat % 16 * 4096 + b.toNat % 64 * 64 + c.toNat % 64, 3) := by
  have h0 : ¬ a.toNat < 128 := by omega
  have h4 : ¬ a.toNat / 32 = 6 := by omega
  have hv' := hv
  simp only [Int.natCast_add, Int.natCast_mul, Int.natCast_emod] at hv'
  simp [dec, at', cont, h0, h1, h2, h3, h4, h]
  simpa using hv'

theorem dec4 (a b c d : UInt8) (t : List UInt8) (h1 : a.toNat / 8 = 30) (h2 : b.toNat / 64 = 2) (h3 : c.toNat / 64 = 2) (h4 : d.toNat / 64 = 2) (h : 65536 ≤ a.toNat % 8 * 262144 + b.toNat % 64 * 4096 + c.toNat % 64 * 64 + d.toNat % 64) (hv : Utf8.valid ((a.toNat % 8 * 262144 + b.toNat % 64 * 4096 + c.toNat % 64 * 64 + d.toNat % 64 : Nat) : Int) = true) : dec (a :: b :: c :: d :: t) = (a.toNat % 8 * 262144 + b.toNat % 64 * 4096 + c.toNat % 64 * 64 + d.toNat % 64, 4) := by
  have h0 : ¬ a.toNat < 128 := by omega
  have h5 : ¬ a.toNat / 32 = 6 := by omega
  have h6 : ¬ a.toNat / 16 = 14 := by omega
  have hv' := hv
  simp only [Int.natCast_add, Int.natCast_mul, Int.natCast_emod] at hv'
  simp [dec, at', cont, h0, h1, h2, h3, h4, h5, h6, h]
  simpa using hv'

theorem list_two {α : Type} (t : List α) (h : 2 ≤ t.length) : ∃ b c t', t = b :: c :: t' := by
  match t, h with
  | b :: c :: t', _ => exact ⟨b, c, t', rfl⟩
theorem list_three {α : Type} (t : List α) (h : 3 ≤ t.length) : ∃ b c d t', t = b :: c :: d :: t' := by
  match t, h with
  | b :: c :: d :: t', _ => exact ⟨b, c, d, t', rfl⟩

/-- The five ways of a decoding. -/
theorem dec_cases (a : UInt8) (t : List UInt8) :
    (a.toNat < 128 ∧ dec (a :: t) = (a.toNat, 1)) ∨
    (128 ≤ a.toNat ∧ dec (a :: t) = (0xFFFD, 1)) ∨
    (∃ b t', t = b :: t' ∧ a.toNat / 32 = 6 ∧ b.toNat / 64 = 2 ∧ 128 ≤ a.toNat % 32 * 64 + b.toNat % 64) ∨
    (∃ b c t', t = b :: c :: t' ∧ a.toNat / 16 = 14 ∧ b.toNat / 64 = 2 ∧ c.toNat / 64 = 2 ∧ 2048 ≤ a.toNat % 16 * 4096 + b.toNat % 64 * 64 + c.toNat % 64 ∧ Utf8.valid ((a.toNat % 16 * 4096 + b.toNat % 64 * 64 + c.toNat % 64 : Nat) : Int) = true) ∨
    (∃ b c d t', t = b :: c :: d :: t' ∧ a.toNat / 8 = 30 ∧ b.toNat / 64 = 2 ∧ c.toNat / 64 = 2 ∧ d.toNat / 64 = 2 ∧ 65536 ≤ a.toNat % 8 * 262144 + b.toNat % 64 * 4096 + c.toNat % 64 * 64 + d.toNat % 64 ∧ Utf8.valid ((a.toNat % 8 * 262144 + b.toNat % 64 * 4096 + c.toNat % 64 * 64 + d.toNat % 64 : Nat) : Int) = true) := by
  by_cases h0 : a.toNat < 128
  · exact Or.inl ⟨h0, dec1 a t h0⟩
  have e : ∀ x : Nat × Nat, x = (0xFFFD, 1) → dec (a :: t) = x → (128 ≤ a.toNat ∧ dec (a :: t) = (0xFFFD, 1)) := fun x hx hd => ⟨by omega, hd.trans hx⟩
  by_cases h1 : (at' (a :: t) 0 / 32 == 6 && cont (a :: t) 1) = true
  · by_cases g : at' (a :: t) 0 % 32 * 64 + at' (a :: t) 1 % 64 ≥ 0x80
    · cases t with
      | nil => simp [cont] at h1
      | cons b t' =>
        simp [at', cont] at h1 g
        exact Or.inr (Or.inr (Or.inl ⟨b, t', rfl, h1.1, h1.2, g⟩))
    · refine Or.inr (Or.inl (e _ rfl ?_))
      unfold dec
      rw [if_neg (show ¬ at' (a :: t) 0 < 0x80 by simpa [at'] using h0), if_pos h1, if_neg g]
  by_cases h2 : (at' (a :: t) 0 / 16 == 14 && cont (a :: t) 1 && cont (a :: t) 2) = true
  · by_cases g : (decide (at' (a :: t) 0 % 16 * 4096 + at' (a :: t) 1 % 64 * 64 + at' (a :: t) 2 % 64 ≥ 0x800) && Utf8.valid ((at' (a :: t) 0 % 16 * 4096 + at' (a :: t) 1 % 64 * 64 + at' (a :: t) 2 % 64 : Nat) : Int)) = true
    · rw [Bool.and_eq_true, decide_eq_true_eq] at g
      simp only [Bool.and_eq_true, beq_iff_eq, cont, decide_eq_true_eq] at h2
      obtain ⟨b, c, t', rfl⟩ : ∃ b c t', t = b :: c :: t' := list_two t (by have := h2.2.1; simp at this; omega)
      exact Or.inr (Or.inr (Or.inr (Or.inl ⟨b, c, t', rfl, h2.1.1, h2.1.2.2, h2.2.2, g.1, g.2⟩)))
    · refine Or.inr (Or.inl (e _ rfl ?_))
      unfold dec
      rw [if_neg (show ¬ at' (a :: t) 0 < 0x80 by simpa [at'] using h0), if_neg h1, if_pos h2, if_neg g]
  by_cases h3 : (at' (a :: t) 0 / 8 == 30 && cont (a :: t) 1 && cont (a :: t) 2 && cont (a :: t) 3) = true
  · by_cases g : (decide (at' (a :: t) 0 % 8 * 262144 + at' (a :: t) 1 % 64 * 4096 + at' (a :: t) 2 % 64 * 64 + at' (a :: t) 3 % 64 ≥ 0x10000) && Utf8.valid ((at' (a :: t) 0 % 8 * 262144 + at' (a :: t) 1 % 64 * 4096 + at' (a :: t) 2 % 64 * 64 + at' (a :: t) 3 % 64 : Nat) : Int)) = true
    · rw [Bool.and_eq_true, decide_eq_true_eq] at g
      simp only [Bool.and_eq_true, beq_iff_eq, cont, decide_eq_true_eq] at h3
      obtain ⟨b, c, d, t', rfl⟩ : ∃ b c d t', t = b :: c :: d :: t' := list_three t (by have := h3.2.1; simp at this; omega)
      exact Or.inr (Or.inr (Or.inr (Or.inr ⟨b, c, d, t', rfl, h3.1.1.1, h3.1.1.2.2, h3.1.2.2, h3.2.2, g.1, g.2⟩)))
    · refine Or.inr (Or.inl (e _ rfl ?_))
      unfold dec
      rw [if_neg (show ¬ at' (a :: t) 0 < 0x80 by simpa [at'] using h0), if_neg h1, if_neg h2, if_pos h3, if_neg g]
  · refine Or.inr (Or.inl (e _ rfl ?_))
    unfold dec
    rw [if_neg (show ¬ at' (a :: t) 0 < 0x80 by simpa [at'] using h0), if_neg h1, if_neg h2, if_neg h3]

/-- The cut does not fall inside a sequence. -/
def Apart (l1 l2 : List UInt8) : Prop := ∀ a x, l1.getLast? = some a → l2.head? = some x → 128 ≤ a.toNat → x.toNat / 64 ≠ 2

theorem dec_append (a : UInt8) (t l2 : List UInt8) (h : Apart (a :: t) l2) : dec (a :: (t ++ l2)) = dec (a :: t) := by
  cases l2 with
  | nil => simp
  | cons x l2 =>
    match t with
    | [] =>
      have hx := h a x (by simp) (by simp)
      by_cases h0 : a.toNat < 128
      · rw [dec1 _ _ h0, dec1 _ _ h0]
      · have := hx (by omega)
        simp [dec, at', cont, h0, this]
    | [b] =>
      have hx := h b x (by simp) (by simp)
      by_cases h0 : b.toNat / 64 = 2
      · have := hx (by omega)
        simp [dec, at', cont, this]
      · simp [dec, at', cont, h0]
    | [b, c] =>
      have hx := h c x (by simp) (by simp)
      by_cases h0 : c.toNat / 64 = 2
      · have := hx (by omega)
        simp [dec, at', cont, this]
      · simp [dec, at', cont, h0]
    | b :: c :: d :: t => simp [dec, at', cont]

/-! ### The units -/
def unit (l : List UInt8) : List UInt8 :=
  if (dec l).2 == 1 && (dec l).1 == 0xFFFD then 92 :: 120 :: hexDigits (at' l 0) 2 else escRune 34 false (dec l).1

/-- The quoted form with fuel. -/
def qf : Nat → List UInt8 → List UInt8
  | 0, _ => []
  | fuel + 1, l => if l = [] then [] else unit l ++ qf fuel (l.drop (dec l).2)

/-- The quoted form, without its two quotes. -/
def Q (l : List UInt8) : List UInt8 := qf l.length l

theorem quoteFrom_qf (b : List UInt8) : ∀ (fuel pos : Nat), quoteFrom 34 false (arr b) fuel pos = qf fuel (b.drop pos)
  | 0, _ => rfl
  | fuel + 1, pos => by
    rw [quoteFrom, qf, size_arr]
    by_cases h : pos < b.length
    · have hne : ¬ b.drop pos = [] := by simp; omega
      rw [if_pos h, if_neg hne, decode_dec, quoteFrom_qf b fuel, List.drop_drop, unit]
      have e : ((arr b).get! pos).toNat = at' (b.drop pos) 0 := by rw [get_arr]; simp [at']
      rw [e]
    · have hne : b.drop pos = [] := by simp; omega
      rw [if_neg h, if_pos hne]

theorem quote_Q (l : List UInt8) : quote false l = 34 :: (Q l ++ [34]) := by
  unfold quote Q
  rw [quoteFrom_qf]
  rfl

theorem dec_width (a : UInt8) (t : List UInt8) : 1 ≤ (dec (a :: t)).2 ∧ (dec (a :: t)).2 ≤ t.length + 1 := by
  rcases dec_cases a t with ⟨_, h⟩ | ⟨_, h⟩ | ⟨b, t', rfl, h1, h2, h3⟩ | ⟨b, c, t', rfl, h1, h2, h3, h4, h5⟩ | ⟨b, c, d, t', rfl, h1, h2, h3, h4, h5, h6⟩
  · rw [h]; simp
  · rw [h]; simp
  · rw [dec2 a b t' h1 h2 h3]; simp
  · rw [dec3 a b c t' h1 h2 h3 h4 h5]; simp
  · rw [dec4 a b c d t' h1 h2 h3 h4 h5 h6]; simp

theorem qf_fuel : ∀ (n m : Nat) (l : List UInt8), l.length ≤ n → l.length ≤ m → qf n l = qf m l
  | 0, m, l, h, _ => by
    obtain rfl : l = [] := List.eq_nil_of_length_eq_zero (by omega)
    cases m <;> simp [qf]
  | n + 1, 0, l, _, h => by
    obtain rfl : l = [] := List.eq_nil_of_length_eq_zero (by omega)
    simp [qf]
  | n + 1, m + 1, l, h1, h2 => by
    cases l with
    | nil => simp [qf]
    | cons a t =>
      have hw := dec_width a t
      simp only [List.length_cons] at h1 h2
      rw [qf, qf, if_neg (by simp), if_neg (by simp), qf_fuel n m _ (by simp; omega) (by simp; omega)]

theorem Q_nil : Q [] = [] := rfl
theorem Q_cons (a : UInt8) (t : List UInt8) : Q (a :: t) = unit (a :: t) ++ Q ((a :: t).drop (dec (a :: t)).2) := by
  have hw := dec_width a t
  unfold Q
  rw [List.length_cons, qf, if_neg (by simp)]
  congr 1
  exact qf_fuel _ _ _ (by simp; omega) (by omega)

/-- Along the units. -/
theorem ind {P : List UInt8 → Prop} (h0 : P []) (h1 : ∀ a t, P ((a :: t).drop (dec (a :: t)).2) → P (a :: t)) : ∀ l, P l := by
  have key : ∀ n l, l.length ≤ n → P l := by
    intro n
    induction n with
    | zero => intro l hl; obtain rfl : l = [] := List.eq_nil_of_length_eq_zero (by omega); exact h0
    | succ n ih =>
      intro l hl
      cases l with
      | nil => exact h0
      | cons a t =>
        have hw := dec_width a t
        exact h1 a t (ih _ (by simp at hl ⊢; omega))
  exact fun l => key l.length l (Nat.le_refl _)

/-! ### Joined at a cut -/
theorem Apart.drop {a : UInt8} {t l2 : List UInt8} (h : Apart (a :: t) l2) (w : Nat) : Apart ((a :: t).drop w) l2 := by
  intro x y hx hy
  refine h x y ?_ hy
  rw [List.getLast?_drop] at hx
  split at hx
  · cases hx
  · exact hx

theorem Q_append (l1 l2 : List UInt8) (h : Apart l1 l2) : Q (l1 ++ l2) = Q l1 ++ Q l2 := by
  revert h
  refine ind (P := fun l1 => Apart l1 l2 → Q (l1 ++ l2) = Q l1 ++ Q l2) ?_ ?_ l1
  · intro _; rw [Q_nil]; rfl
  · intro a t ih h
    have hd := dec_append a t l2 h
    have hw := dec_width a t
    have ha : at' (a :: (t ++ l2)) 0 = at' (a :: t) 0 := by simp [at']
    have hu : unit (a :: (t ++ l2)) = unit (a :: t) := by unfold unit; rw [hd, ha]
    rw [List.cons_append, Q_cons, Q_cons, hd, hu, List.append_assoc]
    congr 1
    rw [← ih (h.drop _), ← List.cons_append, List.drop_append_of_le_length (by simpa using hw.2)]

end Go.Proofs.Qxb6615698aFmt.Quote
