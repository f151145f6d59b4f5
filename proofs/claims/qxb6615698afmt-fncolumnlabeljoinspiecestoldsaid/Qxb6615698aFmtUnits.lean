/-
  THE PLAIN LAW OF '%q', GONE ON: the lengths; no two names have one quoted form; plain ASCII stands as it is.
-/
import Derived.Test.Qxb6615698aFmtQuote
namespace Go.Proofs.Qxb6615698aFmt.Quote
open Go Go.Extern Go.Extern.FmtText

theorem byte_ext {a b : UInt8} (h : a.toNat = b.toNat) : a = b := UInt8.toNat_inj.1 h

/-! ### What a rune that was decoded is written as -/
theorem enc1 (a : UInt8) (h : a.toNat < 128) : (Utf8.encode ((a.toNat : Nat) : Int)).data.toList = [a] := by
  have hv : Utf8.valid ((a.toNat : Nat) : Int) = true := by simp [Utf8.valid]; omega
  simp only [Utf8.encode, hv, if_true, Int.toNat_natCast]
  rw [if_pos (by omega)]
  simp

theorem enc2 (a b : UInt8) (h1 : a.toNat / 32 = 6) (h2 : b.toNat / 64 = 2) (h : 128 ≤ a.toNat % 32 * 64 + b.toNat % 64) :
    (Utf8.encode ((a.toNat % 32 * 64 + b.toNat % 64 : Nat) : Int)).data.toList = [a, b] := by
  generalize hr : a.toNat % 32 * 64 + b.toNat % 64 = r
  rw [hr] at h
  have hv : Utf8.valid ((r : Nat) : Int) = true := by simp [Utf8.valid]; omega
  simp only [Utf8.encode, hv, if_true, Int.toNat_natCast]
  rw [if_neg (by omega), if_pos (by omega)]
  have e1 : UInt8.ofNat (192 + r / 64) = a := byte_ext (by rw [UInt8.toNat_ofNat']; omega)
  have e2 : UInt8.ofNat (128 + r % 64) = b := byte_ext (by rw [UInt8.toNat_ofNat']; omega)
  simp [e1, e2]

theorem enc3 (a b c : UInt8) (h1 : a.toNat / 16 = 14) (h2 : b.toNat / 64 = 2) (h3 : c.toNat / 64 = 2) (h : 2048 ≤ a.toNat % 16 * 4096 + b.toNat % 64 * 64 + c.toNat % 64)
    (hv : Utf8.valid ((a.toNat % 16 * 4096 + b.toNat % 64 * 64 + c.toNat % 64 : Nat) : Int) = true) :
    (Utf8.encode ((a.toNat % 16 * 4096 + b.toNat % 64 * 64 + c.toNat % 64 : Nat) : Int)).data.toList = [a, b, c] := by
  generalize hr : a.toNat % 16 * 4096 + b.toNat % 64 * 64 + c.toNat % 64 = r at *
  simp only [Utf8.encode, hv, if_true, Int.toNat_natCast]
  rw [if_neg (by omega), if_neg (by omega), if_pos (by omega)]
  have e1 : UInt8.ofNat (224 + r / 4096) = a := byte_ext (by rw [UInt8.toNat_ofNat']; omega)
  have e2 : UInt8.ofNat (128 + r / 64 % 64) = b := byte_ext (by rw [UInt8.toNat_ofNat']; omega)
  have e3 : UInt8.ofNat (128 + r % 64) = c := byte_ext (by rw [UInt8.toNat_ofNat']; omega)
  simp [e1, e2, e3]

theorem enc4 (a b c d : UInt8) (h1 : a.toNat / 8 = 30) (h2 : b.toNat / 64 = 2) (h3 : c.toNat / 64 = 2) (h4 : d.toNat / 64 = 2) (h : 65536 ≤ a.toNat % 8 * 262144 + b.toNat % 64 * 4096 + c.toNat % 64 * 64 + d.toNat % 64)
    (hv : Utf8.valid ((a.toNat % 8 * 262144 + b.toNat % 64 * 4096 + c.toNat % 64 * 64 + d.toNat % 64 : Nat) : Int) = true) :
    (Utf8.encode ((a.toNat % 8 * 262144 + b.toNat % 64 * 4096 + c.toNat % 64 * 64 + d.toNat % 64 : Nat) : Int)).data.toList = [a, b, c, d] := by
  generalize hr : a.toNat % 8 * 262144 + b.toNat % 64 * 4096 + c.toNat % 64 * 64 + d.toNat % 64 = r at *
  simp only [Utf8.encode, hv, if_true, Int.toNat_natCast]
  rw [if_neg (by omega), if_neg (by omega), if_neg (by omega)]
  have e1 : UInt8.ofNat (240 + r / 262144) = a := byte_ext (by rw [UInt8.toNat_ofNat']; omega)
  have e2 : UInt8.ofNat (128 + r / 4096 % 64) = b := byte_ext (by rw [UInt8.toNat_ofNat']; omega)
  have e3 : UInt8.ofNat (128 + r / 64 % 64) = c := byte_ext (by rw [UInt8.toNat_ofNat']; omega)
  have e4 : UInt8.ofNat (128 + r % 64) = d := byte_ext (by rw [UInt8.toNat_ofNat']; omega)
  simp [e1, e2, e3, e4]

/-! ### Hexadecimal digits, read back -/
def unhex (c : UInt8) : Nat := if c.toNat < 58 then c.toNat - 48 else c.toNat - 87
def hexVal (l : List UInt8) : Nat := l.foldl (fun acc c => acc * 16 + unhex c) 0

theorem unhex_digit (d : Nat) (h : d < 16) : unhex (digit false d) = d := by
  have : ∀ d : Fin 16, unhex (digit false d.val) = d.val := by decide
  exact this ⟨d, h⟩

theorem hex2 (r : Nat) (h : r < 256) : hexVal (hexDigits r 2) = r := by
  simp only [hexDigits, hexVal, List.foldl_cons, List.foldl_nil]
  rw [unhex_digit _ (Nat.mod_lt _ (by decide)), unhex_digit _ (Nat.mod_lt _ (by decide))]
  omega
theorem hex4 (r : Nat) (h : r < 65536) : hexVal (hexDigits r 4) = r := by
  simp only [hexDigits, hexVal, List.foldl_cons, List.foldl_nil]
  rw [unhex_digit _ (Nat.mod_lt _ (by decide)), unhex_digit _ (Nat.mod_lt _ (by decide)), unhex_digit _ (Nat.mod_lt _ (by decide)), unhex_digit _ (Nat.mod_lt _ (by decide))]
  omega
theorem hex8 (r : Nat) (h : r < 4294967296) : hexVal (hexDigits r 8) = r := by
  simp only [hexDigits, hexVal, List.foldl_cons, List.foldl_nil]
  rw [unhex_digit _ (Nat.mod_lt _ (by decide)), unhex_digit _ (Nat.mod_lt _ (by decide)), unhex_digit _ (Nat.mod_lt _ (by decide)), unhex_digit _ (Nat.mod_lt _ (by decide)),
    unhex_digit _ (Nat.mod_lt _ (by decide)), unhex_digit _ (Nat.mod_lt _ (by decide)), unhex_digit _ (Nat.mod_lt _ (by decide)), unhex_digit _ (Nat.mod_lt _ (by decide))]
  omega
theorem hexDigits_length (r : Nat) : ∀ n, (hexDigits r n).length = n
  | 0 => rfl
  | n + 1 => by rw [hexDigits, List.length_cons, hexDigits_length r n]

/-! ### A unit, read back -/
/-- The byte that a short escape stands for. -/
def simple (c : UInt8) : UInt8 := if c = 97 then 7 else if c = 98 then 8 else if c = 102 then 12 else if c = 110 then 10 else if c = 114 then 13 else if c = 116 then 9 else if c = 118 then 11 else c

/-- The first unit's own bytes, and what follows it. -/
def parse : List UInt8 → List UInt8 × List UInt8
  | a :: b :: t =>
    if a = 92 then
      (if b = 120 then ([UInt8.ofNat (hexVal (t.take 2))], t.drop 2)
       else if b = 117 then ((Utf8.encode (hexVal (t.take 4) : Nat)).data.toList, t.drop 4)
       else if b = 85 then ((Utf8.encode (hexVal (t.take 8) : Nat)).data.toList, t.drop 8)
       else ([simple b], t))
    else ((a :: b :: t).take (dec (a :: b :: t)).2, (a :: b :: t).drop (dec (a :: b :: t)).2)
  | l => (l.take (dec l).2, l.drop (dec l).2)

/-- A printed rune: its bytes stand as they are. -/
theorem parse_plain (bs t : List UInt8) (hne : bs.head? ≠ some 92) (hw : (dec (bs ++ t)).2 = bs.length) : parse (bs ++ t) = (bs, t) := by
  have key : ((bs ++ t).take (dec (bs ++ t)).2, (bs ++ t).drop (dec (bs ++ t)).2) = (bs, t) := by rw [hw]; simp
  match hb : bs ++ t, key with
  | [], key => exact key
  | [x], key => exact key
  | a :: b :: u, key =>
    unfold parse
    by_cases ha : a = 92
    · subst ha
      match bs, hne, hb, hw with
      | [], _, hb, hw =>
        simp only [List.nil_append] at hb
        rw [List.nil_append, hb] at hw
        have := dec_width 92 (b :: u)
        simp at hw; omega
      | c :: bs', hne, hb, _ =>
        simp at hb hne
        exact absurd hb.1 hne
    · dsimp only; rw [if_neg ha]; exact key

theorem two_ne {c : UInt8} (h1 : c ≠ 120) (h2 : c ≠ 117) (h3 : c ≠ 85) (t : List UInt8) : parse (92 :: c :: t) = ([simple c], t) := by
  simp [parse, h1, h2, h3]
theorem parse_x (r : Nat) (h : r < 256) (t : List UInt8) : parse ((92 :: 120 :: hexDigits r 2) ++ t) = ([UInt8.ofNat r], t) := by
  have hl := hexDigits_length r 2
  simp only [List.cons_append, parse]
  simp only [if_true]
  rw [List.take_append_of_le_length (by omega), List.drop_append_of_le_length (by omega), List.take_of_length_le (by omega), List.drop_of_length_le (by omega), hex2 r h]
  rfl
theorem parse_u (r : Nat) (h : r < 65536) (t : List UInt8) : parse ((92 :: 117 :: hexDigits r 4) ++ t) = ((Utf8.encode ((r : Nat) : Int)).data.toList, t) := by
  have hl := hexDigits_length r 4
  simp only [List.cons_append, parse]
  simp only [if_true]
  rw [if_neg (by decide), List.take_append_of_le_length (by omega), List.drop_append_of_le_length (by omega), List.take_of_length_le (by omega), List.drop_of_length_le (by omega), hex4 r h]
  rfl
theorem parse_U (r : Nat) (h : r < 4294967296) (t : List UInt8) : parse ((92 :: 85 :: hexDigits r 8) ++ t) = ((Utf8.encode ((r : Nat) : Int)).data.toList, t) := by
  have hl := hexDigits_length r 8
  simp only [List.cons_append, parse]
  simp only [if_true]
  rw [if_neg (by decide), if_neg (by decide), List.take_append_of_le_length (by omega), List.drop_append_of_le_length (by omega), List.take_of_length_le (by omega), List.drop_of_length_le (by omega), hex8 r h]
  rfl

/-- A rune's unit, read back: its own bytes. -/
theorem esc_parse (r : Nat) (bs : List UInt8) (hv : Utf8.valid ((r : Nat) : Int) = true) (he : (Utf8.encode ((r : Nat) : Int)).data.toList = bs)
    (hh : r ≠ 92 → bs.head? ≠ some 92) (hw : ∀ t, (dec (bs ++ t)).2 = bs.length) (h128 : r < 128 → bs = [UInt8.ofNat r]) (t : List UInt8) :
    parse (escRune 34 false r ++ t) = (bs, t) := by
  unfold escRune
  by_cases c1 : (r == 34 || r == 92) = true
  · rw [if_pos c1]
    have hr : r = 34 ∨ r = 92 := by simpa using c1
    rw [h128 (by omega)]
    rcases hr with rfl | rfl <;> exact two_ne (by decide) (by decide) (by decide) t
  rw [if_neg c1]
  have hn : r ≠ 34 ∧ r ≠ 92 := by simpa using c1
  by_cases c2 : isPrint r = true
  · rw [if_pos (by simpa using c2), he]
    exact parse_plain bs t (hh hn.2) (hw t)
  rw [if_neg (by simpa using c2)]
  by_cases d1 : (r == 7) = true
  · rw [if_pos d1]; obtain rfl : r = 7 := by simpa using d1
    rw [h128 (by omega)]; exact two_ne (by decide) (by decide) (by decide) t
  rw [if_neg d1]
  by_cases d2 : (r == 8) = true
  · rw [if_pos d2]; obtain rfl : r = 8 := by simpa using d2
    rw [h128 (by omega)]; exact two_ne (by decide) (by decide) (by decide) t
  rw [if_neg d2]
  by_cases d3 : (r == 12) = true
  · rw [if_pos d3]; obtain rfl : r = 12 := by simpa using d3
    rw [h128 (by omega)]; exact two_ne (by decide) (by decide) (by decide) t
  rw [if_neg d3]
  by_cases d4 : (r == 10) = true
  · rw [if_pos d4]; obtain rfl : r = 10 := by simpa using d4
    rw [h128 (by omega)]; exact two_ne (by decide) (by decide) (by decide) t
  rw [if_neg d4]
  by_cases d5 : (r == 13) = true
  · rw [if_pos d5]; obtain rfl : r = 13 := by simpa using d5
    rw [h128 (by omega)]; exact two_ne (by decide) (by decide) (by decide) t
  rw [if_neg d5]
  by_cases d6 : (r == 9) = true
  · rw [if_pos d6]; obtain rfl : r = 9 := by simpa using d6
    rw [h128 (by omega)]; exact two_ne (by decide) (by decide) (by decide) t
  rw [if_neg d6]
  by_cases d7 : (r == 11) = true
  · rw [if_pos d7]; obtain rfl : r = 11 := by simpa using d7
    rw [h128 (by omega)]; exact two_ne (by decide) (by decide) (by decide) t
  rw [if_neg d7]
  by_cases d8 : (decide (r < 32) || r == 0x7F) = true
  · rw [if_pos d8]
    have hr : r < 128 := by
      have : r < 32 ∨ r = 127 := by simpa using d8
      omega
    rw [h128 hr]
    exact parse_x r (by omega) t
  rw [if_neg d8, if_neg (by simp [hv])]
  have hmax : r ≤ 0x10FFFF := by
    simp [Utf8.valid] at hv
    omega
  by_cases d9 : r < 0x10000
  · rw [if_pos d9, parse_u r d9 t, he]
  · rw [if_neg d9, parse_U r (by omega) t, he]

/-- The lengths of a rune's unit. -/
theorem esc_length (r : Nat) (bs : List UInt8) (hv : Utf8.valid ((r : Nat) : Int) = true) (he : (Utf8.encode ((r : Nat) : Int)).data.toList = bs)
    (hb : bs.length = (if r < 128 then 1 else if r < 2048 then 2 else if r < 65536 then 3 else 4)) :
    bs.length ≤ (escRune 34 false r).length ∧ (escRune 34 false r).length ≤ 4 * bs.length := by
  have h2 := hexDigits_length r 2
  have h4 := hexDigits_length r 4
  have h8 := hexDigits_length r 8
  unfold escRune
  by_cases c1 : (r == 34 || r == 92) = true
  · rw [if_pos c1]
    have hr : r = 34 ∨ r = 92 := by simpa using c1
    rw [if_pos (by omega)] at hb
    simp; omega
  rw [if_neg c1]
  by_cases c2 : isPrint r = true
  · rw [if_pos (by simpa using c2), he]; omega
  rw [if_neg (by simpa using c2)]
  have small : r < 128 → ∀ a b : UInt8, bs.length ≤ ([a, b] : List UInt8).length ∧ ([a, b] : List UInt8).length ≤ 4 * bs.length := by
    intro hr a b
    rw [if_pos hr] at hb
    simp; omega
  by_cases d1 : (r == 7) = true
  · rw [if_pos d1]; exact small (by have : r = 7 := by simpa using d1
                                    omega) _ _
  rw [if_neg d1]
  by_cases d2 : (r == 8) = true
  · rw [if_pos d2]; exact small (by have : r = 8 := by simpa using d2
                                    omega) _ _
  rw [if_neg d2]
  by_cases d3 : (r == 12) = true
  · rw [if_pos d3]; exact small (by have : r = 12 := by simpa using d3
                                    omega) _ _
  rw [if_neg d3]
  by_cases d4 : (r == 10) = true
  · rw [if_pos d4]; exact small (by have : r = 10 := by simpa using d4
                                    omega) _ _
  rw [if_neg d4]
  by_cases d5 : (r == 13) = true
  · rw [if_pos d5]; exact small (by have : r = 13 := by simpa using d5
                                    omega) _ _
  rw [if_neg d5]
  by_cases d6 : (r == 9) = true
  · rw [if_pos d6]; exact small (by have : r = 9 := by simpa using d6
                                    omega) _ _
  rw [if_neg d6]
  by_cases d7 : (r == 11) = true
  · rw [if_pos d7]; exact small (by have : r = 11 := by simpa using d7
                                    omega) _ _
  rw [if_neg d7]
  by_cases d8 : (decide (r < 32) || r == 0x7F) = true
  · rw [if_pos d8]
    have hr : r < 128 := by
      have : r < 32 ∨ r = 127 := by simpa using d8
      omega
    rw [if_pos hr] at hb
    simp only [List.length_cons, h2]
    omega
  rw [if_neg d8, if_neg (by simp [hv])]
  have hge : 128 ≤ r := by
    have h32 : ¬ (r < 32 ∨ r = 127) := by simpa using d8
    have hp : ¬ (32 ≤ r ∧ r ≤ 126) := by
      intro hr
      apply c2
      unfold isPrint
      rw [if_pos (by omega)]
      simp; omega
    omega
  rw [if_neg (by omega)] at hb
  by_cases d9 : r < 0x10000
  · rw [if_pos d9, List.length_cons, List.length_cons, h4, hb]
    split <;> omega
  · rw [if_neg d9, List.length_cons, List.length_cons, h8, hb]
    rw [if_neg (by omega), if_neg (by omega)]; omega

/-- A unit read back, and its length. -/
theorem unit_facts (a : UInt8) (t : List UInt8) :
    (∀ u, parse (unit (a :: t) ++ u) = ((a :: t).take (dec (a :: t)).2, u)) ∧
    (dec (a :: t)).2 ≤ (unit (a :: t)).length ∧ (unit (a :: t)).length ≤ 4 * (dec (a :: t)).2 := by
  rcases dec_cases a t with ⟨h, hd⟩ | ⟨h, hd⟩ | ⟨b, t', rfl, h1, h2, h3⟩ | ⟨b, c, t', rfl, h1, h2, h3, h4, h5⟩ | ⟨b, c, d, t', rfl, h1, h2, h3, h4, h5, h6⟩
  · have hu : unit (a :: t) = escRune 34 false a.toNat := by
      unfold unit; rw [hd, if_neg]
      simp; omega
    have hv : Utf8.valid ((a.toNat : Nat) : Int) = true := by simp [Utf8.valid]; omega
    rw [hu, hd]
    refine ⟨fun u => ?_, ?_⟩
    · have := esc_parse a.toNat [a] hv (enc1 a h) (by intro hn; simp; intro h'; apply hn; rw [h']; rfl) (fun t => by rw [List.singleton_append, dec1 a t h]; rfl) (by intro _; simp) u
      simpa using this
    · exact esc_length a.toNat [a] hv (enc1 a h) (by rw [if_pos h]; rfl)
  · have hu : unit (a :: t) = 92 :: 120 :: hexDigits a.toNat 2 := by
      unfold unit; rw [hd, if_pos (by simp)]
      simp [at']
    rw [hu, hd]
    have hl := hexDigits_length a.toNat 2
    refine ⟨fun u => ?_, by simp only [List.length_cons, hl]; omega⟩
    rw [parse_x a.toNat (by have := a.toNat_lt; omega) u]
    simp
  · have hd := dec2 a b t' h1 h2 h3
    have hu : unit (a :: b :: t') = escRune 34 false (a.toNat % 32 * 64 + b.toNat % 64) := by
      unfold unit; rw [hd, if_neg (by simp)]
    have hv : Utf8.valid ((a.toNat % 32 * 64 + b.toNat % 64 : Nat) : Int) = true := by
      generalize hr : a.toNat % 32 * 64 + b.toNat % 64 = r
      simp [Utf8.valid]; omega
    rw [hu, hd]
    refine ⟨fun u => ?_, ?_⟩
    · have := esc_parse _ [a, b] hv (enc2 a b h1 h2 h3) (by intro _; simp; intro h'; rw [h'] at h1; revert h1; decide) (fun t => by rw [List.cons_append, List.singleton_append, dec2 a b t h1 h2 h3]; rfl) (by intro h; omega) u
      simpa using this
    · exact esc_length _ [a, b] hv (enc2 a b h1 h2 h3) (by rw [if_neg (by omega), if_pos (by omega)]; rfl)
  · have hd := dec3 a b c t' h1 h2 h3 h4 h5
    have hu : unit (a :: b :: c :: t') = escRune 34 false (a.toNat % 16 * 4096 + b.toNat % 64 * 64 + c.toNat % 64) := by
      unfold unit; rw [hd, if_neg (by simp)]
    rw [hu, hd]
    refine ⟨fun u => ?_, ?_⟩
    · have := esc_parse _ [a, b, c] h5 (enc3 a b c h1 h2 h3 h4 h5) (by intro _; simp; intro h'; rw [h'] at h1; revert h1; decide) (fun t => by rw [List.cons_append, List.cons_append, List.singleton_append, dec3 a b c t h1 h2 h3 h4 h5]; rfl) (by intro h; omega) u
      simpa using this
    · exact esc_length _ [a, b, c] h5 (enc3 a b c h1 h2 h3 h4 h5) (by rw [if_neg (by omega), if_neg (by omega), if_pos (by omega)]; rfl)
  · have hd := dec4 a b c d t' h1 h2 h3 h4 h5 h6
    have hu : unit (a :: b :: c :: d :: t') = escRune 34 false (a.toNat % 8 * 262144 + b.toNat % 64 * 4096 + c.toNat % 64 * 64 + d.toNat % 64) := by
      unfold unit; rw [hd, if_neg (by simp)]
    rw [hu, hd]
    refine ⟨fun u => ?_, ?_⟩
    · have := esc_parse _ [a, b, c, d] h6 (enc4 a b c d h1 h2 h3 h4 h5 h6) (by intro _; simp; intro h'; rw [h'] at h1; revert h1; decide) (fun t => by rw [List.cons_append, List.cons_append, List.cons_append, List.singleton_append, dec4 a b c d t h1 h2 h3 h4 h5 h6]; rfl) (by intro h; omega) u
      simpa using this
    · exact esc_length _ [a, b, c, d] h6 (enc4 a b c d h1 h2 h3 h4 h5 h6) (by rw [if_neg (by omega), if_neg (by omega), if_neg (by omega)]; rfl)

/-! ### The laws -/
/-- Never shorter than the name, never longer than four times. -/
theorem Q_length (l : List UInt8) : l.length ≤ (Q l).length ∧ (Q l).length ≤ 4 * l.length := by
  refine ind (P := fun l => l.length ≤ (Q l).length ∧ (Q l).length ≤ 4 * l.length) ⟨Nat.le_refl _, Nat.le_refl _⟩ ?_ l
  intro a t ih
  have hu := (unit_facts a t).2
  have hw := dec_width a t
  rw [Q_cons, List.length_append]
  simp only [List.length_drop, List.length_cons] at ih ⊢
  omega

/-- No two names have one quoted form. -/
theorem Q_inj (l1 : List UInt8) : ∀ l2, Q l1 = Q l2 → l1 = l2 := by
  refine ind (P := fun l1 => ∀ l2, Q l1 = Q l2 → l1 = l2) ?_ ?_ l1
  · intro l2 h
    have := (Q_length l2).1
    rw [← h, Q_nil] at this
    exact (List.eq_nil_of_length_eq_zero (by simpa using this)).symm
  · intro a t ih l2 h
    cases l2 with
    | nil =>
      have := (Q_length (a :: t)).1
      rw [h, Q_nil] at this
      simp at this
    | cons b u =>
      have e1 := (unit_facts a t).1 (Q ((a :: t).drop (dec (a :: t)).2))
      have e2 := (unit_facts b u).1 (Q ((b :: u).drop (dec (b :: u)).2))
      rw [← Q_cons] at e1 e2
      rw [h, e2] at e1
      simp only [Prod.mk.injEq] at e1
      have hd := ih _ e1.2.symm
      rw [← List.take_append_drop (dec (a :: t)).2 (a :: t), ← List.take_append_drop (dec (b :: u)).2 (b :: u), e1.1, hd]

/-- Printable ASCII but for the quote and the backslash. -/
def plainB (c : UInt8) : Bool := decide (32 ≤ c.toNat) && decide (c.toNat ≤ 126) && c.toNat != 34 && c.toNat != 92

theorem Q_plain (l : List UInt8) (h : l.all plainB = true) : Q l = l := by
  revert h
  refine ind (P := fun l => l.all plainB = true → Q l = l) (fun _ => rfl) ?_ l
  intro a t ih h
  simp only [List.all_cons, Bool.and_eq_true] at h
  have ha : 32 ≤ a.toNat ∧ a.toNat ≤ 126 ∧ a.toNat ≠ 34 ∧ a.toNat ≠ 92 := by
    have := h.1
    simp [plainB] at this
    omega
  have hd := dec1 a t (by omega)
  rw [Q_cons, hd]
  rw [hd] at ih
  simp only [List.drop_succ_cons, List.drop_zero] at ih ⊢
  rw [ih h.2]
  have hu : unit (a :: t) = [a] := by
    unfold unit
    rw [hd, if_neg (by simp; omega)]
    have hp : isPrint a.toNat = true := by
      unfold isPrint
      rw [if_pos (by omega)]
      simp; omega
    show escRune 34 false a.toNat = [a]
    unfold escRune
    rw [if_neg (by simp; omega), if_pos (by simpa using hp)]
    exact (enc1 a (by omega) : (Utf8.encode ((a.toNat : Nat) : Int)).data.toList = [a])
  rw [hu]
  rfl

end Go.Proofs.Qxb6615698aFmt.Quote
