/-
  THE PLAIN LAW, no Go in sight: what fmt's told text of '%#v' writes of a string can be read back: 'FmtText.quote false' is injective, also with a tail behind it.
-/
import GoSem.Extern.FmtText
import Derived.Lib.DecodeN
import Derived.Stop.FmtQuoteTie
namespace Go.Proofs.Qxb6612707aFmt
namespace Quo
open Go.Extern Go.Extern.FmtText

/-- The model's decode, on what is left of the text. -/
def dec (l : Bytes) : Nat × Nat := Lib.decodeN l.length (l.getD 0 0).toNat (l.getD 1 0).toNat (l.getD 2 0).toNat (l.getD 3 0).toNat

/-- One step's output. -/
def chunk (l : Bytes) : Bytes :=
  if (dec l).2 = 1 ∧ (dec l).1 = 65533 then 92 :: 120 :: hexDigits (l.getD 0 0).toNat 2 else escRune 34 false (dec l).1

/-- The loop, on what is left of the text. -/
def qf : Nat → Bytes → Bytes
  | 0, _ => []
  | fuel + 1, l => if 0 < l.length then chunk l ++ qf fuel (l.drop (dec l).2) else []

theorem get_arr (b : Bytes) (i : Nat) : (arr b).get! i = b.getD i 0 := by
  simp [arr, ByteArray.get!, List.getD, Array.getElem!_eq_getD, Array.getD_eq_getD_getElem?]
  rfl

theorem dec_arr (b : Bytes) (p : Nat) : Utf8.decode (arr b) p = dec (b.drop p) := by
  rw [Lib.decode_at]
  simp only [get_arr, dec, List.length_drop, List.getD, List.getElem?_drop, Nat.add_zero]
  have : (arr b).size = b.length := by simp [arr, ByteArray.size]
  rw [this]

theorem quoteFrom_qf (b : Bytes) : ∀ (f p : Nat), quoteFrom 34 false (arr b) f p = qf f (b.drop p)
  | 0, _ => rfl
  | f + 1, p => by
    have hs : (arr b).size = b.length := by simp [arr, ByteArray.size]
    rw [quoteFrom, qf, quoteFrom_qf b f, dec_arr, hs, List.drop_drop]
    by_cases h : p < b.length
    · have h' : 0 < (b.drop p).length := by simp; omega
      rw [if_pos h, if_pos h']
      congr 1
      unfold chunk
      have : (arr b).get! p = (b.drop p).getD 0 0 := by rw [get_arr]; simp [List.getD]
      rw [this]
      by_cases c : (dec (b.drop p)).2 = 1 ∧ (dec (b.drop p)).1 = 65533
      · simp [c]
      · rw [if_neg c, if_neg]
        simpa using c
    · have h' : ¬ 0 < (b.drop p).length := by simp; omega
      rw [if_neg h, if_neg h']

theorem quote_qf (b : Bytes) : quote false b = 34 :: (qf b.length b ++ [34]) := by
  rw [quote, quoteFrom_qf]; rfl

/-! ### what a step reads -/

/-- A code point that a text can hold. -/
def okRune (r : Nat) : Prop := r < 55296 ∨ (57344 ≤ r ∧ r ≤ 1114111)

def enc (r : Nat) : Bytes := (Utf8.encode (r : Int)).data.toList

theorem u8_of (b : UInt8) (n : Nat) (h : b.toNat = n) : b = UInt8.ofNat n := by
  subst h; simp

/-- What a step reads: a lone byte that is no text, or a code point, whose bytes lie there. -/
theorem dec_cases (l : Bytes) (h : 0 < l.length) :
    ((dec l).2 = 1 ∧ (dec l).1 = 65533 ∧ 128 ≤ (l.getD 0 0).toNat ∧ l = l.getD 0 0 :: l.drop 1) ∨
    (¬ ((dec l).2 = 1 ∧ (dec l).1 = 65533) ∧ okRune (dec l).1 ∧ l = enc (dec l).1 ++ l.drop (dec l).2) := by
  match l, h with
  | a :: l1, _ =>
    have ha := a.toNat_lt
    by_cases c0 : a.toNat < 128
    · refine Or.inr ?_
      have e : dec (a :: l1) = (a.toNat, 1) := by simp [dec, Lib.decodeN, c0]
      rw [e]
      refine ⟨by simp; omega, Or.inl (by simp; omega), ?_⟩
      rw [enc, enc1 _ c0]; simp
    · -- a lone byte
      have bad : dec (a :: l1) = (65533, 1) → ((dec (a :: l1)).2 = 1 ∧ (dec (a :: l1)).1 = 65533 ∧ 128 ≤ ((a :: l1).getD 0 0).toNat ∧ (a :: l1) = (a :: l1).getD 0 0 :: (a :: l1).drop 1) := by
        intro e; rw [e]; exact ⟨rfl, rfl, by simpa using c0, by simp⟩
      match l1 with
      | [] => exact Or.inl (bad (by simp [dec, Lib.decodeN, c0]))
      | b :: l2 =>
        have hb := b.toNat_lt
        by_cases c2 : a.toNat / 32 = 6 ∧ b.toNat / 64 = 2
        · by_cases d2 : a.toNat % 32 * 64 + b.toNat % 64 ≥ 128
          · refine Or.inr ?_
            have e : dec (a :: b :: l2) = (a.toNat % 32 * 64 + b.toNat % 64, 2) := by simp [dec, Lib.decodeN, c0, c2, d2]
            rw [e]
            refine ⟨by simp, Or.inl (by simp; omega), ?_⟩
            rw [enc, enc2 _ (by simp; omega) (by simp; omega)]
            simp only [List.cons_append, List.nil_append, List.drop_succ_cons, List.drop_zero, List.cons.injEq, and_true]
            exact ⟨u8_of _ _ (by omega), u8_of _ _ (by omega)⟩
          · exact Or.inl (bad (by simp [dec, Lib.decodeN, c0, c2, d2]))
        · match l2 with
          | [] => exact Or.inl (bad (by simp [dec, Lib.decodeN, c0, c2]))
          | c :: l3 =>
            have hc := c.toNat_lt
            by_cases c3 : a.toNat / 16 = 14 ∧ b.toNat / 64 = 2 ∧ c.toNat / 64 = 2
            · by_cases d3 : a.toNat % 16 * 4096 + b.toNat % 64 * 64 + c.toNat % 64 ≥ 2048 ∧ (a.toNat % 16 * 4096 + b.toNat % 64 * 64 + c.toNat % 64 < 55296 ∨ (57344 ≤ a.toNat % 16 * 4096 + b.toNat % 64 * 64 + c.toNat % 64 ∧ a.toNat % 16 * 4096 + b.toNat % 64 * 64 + c.toNat % 64 ≤ 1114111))
              · refine Or.inr ?_
                have e : dec (a :: b :: c :: l3) = (a.toNat % 16 * 4096 + b.toNat % 64 * 64 + c.toNat % 64, 3) := by
                  have c2' : ¬ (a.toNat / 32 = 6 ∧ (1 < (a :: b :: c :: l3).length ∧ b.toNat / 64 = 2)) := fun h => c2 ⟨h.1, h.2.2⟩
                  show Lib.decodeN _ _ _ _ _ = _
                  unfold Lib.decodeN
                  rw [if_neg (by simpa using c0), if_neg (by simpa using c2), if_pos (by simpa using c3), if_pos (by simpa using d3)]
                  simp
                rw [e]
                refine ⟨by simp, ?_, ?_⟩
                · have := d3.2
                  rcases this with t | t
                  · exact Or.inl t
                  · exact Or.inr t
                rw [enc, enc3 _ (by simp; omega) (by simp; omega) (by simp; omega)]
                simp only [List.cons_append, List.nil_append, List.drop_succ_cons, List.drop_zero, List.cons.injEq, and_true]
                exact ⟨u8_of _ _ (by omega), u8_of _ _ (by omega), u8_of _ _ (by omega)⟩
              · refine Or.inl (bad ?_)
                show Lib.decodeN _ _ _ _ _ = _
                unfold Lib.decodeN
                rw [if_neg (by simpa using c0), if_neg (by simpa using c2), if_pos (by simpa using c3), if_neg (by simpa using d3)]
            · match l3 with
              | [] =>
                refine Or.inl (bad ?_)
                show Lib.decodeN _ _ _ _ _ = _
                unfold Lib.decodeN
                rw [if_neg (by simpa using c0), if_neg (by simpa using c2), if_neg (by simpa using c3), if_neg (by simp)]
              | d :: l4 =>
                have hd := d.toNat_lt
                by_cases c4 : a.toNat / 8 = 30 ∧ b.toNat / 64 = 2 ∧ c.toNat / 64 = 2 ∧ d.toNat / 64 = 2
                · by_cases d4 : a.toNat % 8 * 262144 + b.toNat % 64 * 4096 + c.toNat % 64 * 64 + d.toNat % 64 ≥ 65536 ∧ (a.toNat % 8 * 262144 + b.toNat % 64 * 4096 + c.toNat % 64 * 64 + d.toNat % 64 < 55296 ∨ (57344 ≤ a.toNat % 8 * 262144 + b.toNat % 64 * 4096 + c.toNat % 64 * 64 + d.toNat % 64 ∧ a.toNat % 8 * 262144 + b.toNat % 64 * 4096 + c.toNat % 64 * 64 + d.toNat % 64 ≤ 1114111))
                  · refine Or.inr ?_
                    have e : dec (a :: b :: c :: d :: l4) = (a.toNat % 8 * 262144 + b.toNat % 64 * 4096 + c.toNat % 64 * 64 + d.toNat % 64, 4) := by
                      show Lib.decodeN _ _ _ _ _ = _
                      unfold Lib.decodeN
                      rw [if_neg (by simpa using c0), if_neg (by simpa using c2), if_neg (by simpa using c3), if_pos (by simpa using c4), if_pos (by simpa using d4)]
                      simp
                    rw [e]
                    refine ⟨by simp, ?_, ?_⟩
                    · rcases d4.2 with t | t
                      · exact Or.inl t
                      · exact Or.inr t
                    rw [enc, enc4 _ (by simp; omega) (by simp; omega)]
                    simp only [List.cons_append, List.nil_append, List.drop_succ_cons, List.drop_zero, List.cons.injEq, and_true]
                    exact ⟨u8_of _ _ (by omega), u8_of _ _ (by omega), u8_of _ _ (by omega), u8_of _ _ (by omega)⟩
                  · refine Or.inl (bad ?_)
                    show Lib.decodeN _ _ _ _ _ = _
                    unfold Lib.decodeN
                    rw [if_neg (by simpa using c0), if_neg (by simpa using c2), if_neg (by simpa using c3), if_pos (by simpa using c4), if_neg (by simpa using d4)]
                · refine Or.inl (bad ?_)
                  show Lib.decodeN _ _ _ _ _ = _
                  unfold Lib.decodeN
                  rw [if_neg (by simpa using c0), if_neg (by simpa using c2), if_neg (by simpa using c3), if_neg (by simpa using c4)]

/-! ### reading a step's output back: a number for what was read (a code point; 2097152 and a lone byte; 4194304: the end), and what is left -/

def hexv (c : UInt8) : Nat := if c.toNat < 58 then c.toNat - 48 else c.toNat - 87

def hexs (l : Bytes) : Nat → Nat → Nat
  | 0, acc => acc
  | n + 1, acc => hexs (l.drop 1) n (acc * 16 + hexv (l.getD 0 0))

def unq : Bytes → Nat × Bytes
  | [] => (0, [])
  | a :: l =>
    if a = 34 then (4194304, l)
    else if a = 92 then
      (if l.getD 0 0 = 34 then (34, l.drop 1) else if l.getD 0 0 = 92 then (92, l.drop 1)
       else if l.getD 0 0 = 97 then (7, l.drop 1) else if l.getD 0 0 = 98 then (8, l.drop 1) else if l.getD 0 0 = 102 then (12, l.drop 1)
       else if l.getD 0 0 = 110 then (10, l.drop 1) else if l.getD 0 0 = 114 then (13, l.drop 1) else if l.getD 0 0 = 116 then (9, l.drop 1)
       else if l.getD 0 0 = 118 then (11, l.drop 1)
       else if l.getD 0 0 = 120 then ((if hexs (l.drop 1) 2 0 < 128 then hexs (l.drop 1) 2 0 else 2097152 + hexs (l.drop 1) 2 0), l.drop 3)
       else if l.getD 0 0 = 117 then (hexs (l.drop 1) 4 0, l.drop 5)
       else (hexs (l.drop 1) 8 0, l.drop 9))
    else ((dec (a :: l)).1, (a :: l).drop (dec (a :: l)).2)

theorem hexv_digit (d : Nat) (h : d < 16) : hexv (digit false d) = d := by
  unfold digit hexv
  by_cases c : d < 10
  · simp [c]; split <;> omega
  · simp [c]; split <;> omega

theorem hexs_digits (r : Nat) (x : Bytes) : ∀ (n acc : Nat), hexs (hexDigits r n ++ x) n acc = acc * 16 ^ n + r % 16 ^ n
  | 0, acc => by simp [hexs, Nat.mod_one]
  | n + 1, acc => by
    rw [hexDigits, hexs]
    simp only [List.cons_append, List.drop_succ_cons, List.drop_zero, List.getD_cons_zero]
    rw [hexs_digits r x n, hexv_digit _ (Nat.mod_lt _ (by omega))]
    have e : r % 16 ^ (n + 1) = r / 16 ^ n % 16 * 16 ^ n + r % 16 ^ n := by
      rw [Nat.pow_succ, Nat.mod_mul]; rw [Nat.mul_comm (16 ^ n)]; omega
    rw [e, Nat.pow_succ, Nat.add_mul, Nat.mul_assoc, Nat.mul_comm 16 (16 ^ n)]
    omega

theorem hexDigits_length (r : Nat) : ∀ n, (hexDigits r n).length = n
  | 0 => rfl
  | n + 1 => by rw [hexDigits, List.length_cons, hexDigits_length r n]

theorem unq_bad (b : UInt8) (h : 128 ≤ b.toNat) (x : Bytes) : unq (92 :: 120 :: hexDigits b.toNat 2 ++ x) = (2097152 + b.toNat, x) := by
  have hb := b.toNat_lt
  have e := hexs_digits b.toNat x 2 0
  have e' : hexs (hexDigits b.toNat 2 ++ x) 2 0 = b.toNat := by rw [e]; omega
  have el : (hexDigits b.toNat 2 ++ x).drop 2 = x := by
    rw [List.drop_append_of_le_length (by rw [hexDigits_length]; omega)]
    have : (hexDigits b.toNat 2).drop 2 = [] := List.drop_eq_nil_of_le (by rw [hexDigits_length]; omega)
    rw [this]; rfl
  simp [unq, e', el, show ¬ b.toNat < 128 from by omega]

/-- A code point's own bytes, read. -/
theorem dec_enc (r : Nat) (h : okRune r) (x : Bytes) : dec (enc r ++ x) = (r, (enc r).length) := by
  unfold okRune at h
  by_cases c1 : r < 128
  · rw [enc, enc1 r c1]
    simp [dec, Lib.decodeN, show r % 256 = r from by omega, c1]
  by_cases c2 : r < 2048
  · rw [enc, enc2 r c1 c2]
    have h1 : (192 + r / 64) % 256 = 192 + r / 64 := by omega
    have h2 : (128 + r % 64) % 256 = 128 + r % 64 := by omega
    show Lib.decodeN _ _ _ _ _ = _
    unfold Lib.decodeN
    simp only [List.cons_append, List.nil_append, List.getD_cons_zero, List.getD_cons_succ, List.length_cons, UInt8.toNat_ofNat', h1, h2, Nat.reducePow]
    rw [if_neg (by omega), if_pos (by omega), if_pos (by omega)]
    simp; omega
  by_cases c3 : r < 65536
  · rw [enc, enc3 r c2 c3 (by omega)]
    have h1 : (224 + r / 4096) % 256 = 224 + r / 4096 := by omega
    have h2 : (128 + r / 64 % 64) % 256 = 128 + r / 64 % 64 := by omega
    have h3 : (128 + r % 64) % 256 = 128 + r % 64 := by omega
    show Lib.decodeN _ _ _ _ _ = _
    unfold Lib.decodeN
    simp only [List.cons_append, List.nil_append, List.getD_cons_zero, List.getD_cons_succ, List.length_cons, UInt8.toNat_ofNat', h1, h2, h3, Nat.reducePow]
    rw [if_neg (by omega), if_neg (by omega), if_pos (by omega), if_pos (by omega)]
    simp; omega
  · rw [enc, enc4 r c3 (by omega)]
    have h1 : (240 + r / 262144) % 256 = 240 + r / 262144 := by omega
    have h2 : (128 + r / 4096 % 64) % 256 = 128 + r / 4096 % 64 := by omega
    have h3 : (128 + r / 64 % 64) % 256 = 128 + r / 64 % 64 := by omega
    have h4 : (128 + r % 64) % 256 = 128 + r % 64 := by omega
    show Lib.decodeN _ _ _ _ _ = _
    unfold Lib.decodeN
    simp only [List.cons_append, List.nil_append, List.getD_cons_zero, List.getD_cons_succ, List.length_cons, UInt8.toNat_ofNat', h1, h2, h3, h4, Nat.reducePow]
    rw [if_neg (by omega), if_neg (by omega), if_neg (by omega), if_pos (by omega), if_pos (by omega)]
    simp; omega

/-- A code point's first byte is neither the quote nor the backslash, unless the code point is. -/
theorem enc_head (r : Nat) (h : okRune r) (h1 : r ≠ 34) (h2 : r ≠ 92) : ∃ a l, enc r = a :: l ∧ a ≠ 34 ∧ a ≠ 92 := by
  unfold okRune at h
  have ne : ∀ (n m : Nat), n < 256 → m < 256 → n ≠ m → UInt8.ofNat n ≠ UInt8.ofNat m := by
    intro n m hn hm hne e
    have := congrArg UInt8.toNat e
    simp at this; omega
  by_cases c1 : r < 128
  · rw [enc, enc1 r c1]; exact ⟨_, _, rfl, ne r 34 (by omega) (by omega) h1, ne r 92 (by omega) (by omega) h2⟩
  by_cases c2 : r < 2048
  · rw [enc, enc2 r c1 c2]; exact ⟨_, _, rfl, ne _ 34 (by omega) (by omega) (by omega), ne _ 92 (by omega) (by omega) (by omega)⟩
  by_cases c3 : r < 65536
  · rw [enc, enc3 r c2 c3 (by omega)]; exact ⟨_, _, rfl, ne _ 34 (by omega) (by omega) (by omega), ne _ 92 (by omega) (by omega) (by omega)⟩
  · rw [enc, enc4 r c3 (by omega)]; exact ⟨_, _, rfl, ne _ 34 (by omega) (by omega) (by omega), ne _ 92 (by omega) (by omega) (by omega)⟩

theorem drop_hex (r n : Nat) (x : Bytes) : (hexDigits r n ++ x).drop n = x := by
  rw [List.drop_append_of_le_length (by rw [hexDigits_length]; omega)]
  have : (hexDigits r n).drop n = [] := List.drop_eq_nil_of_le (by rw [hexDigits_length]; omega)
  rw [this]; rfl

theorem hexs_small (r n : Nat) (x : Bytes) (h : r < 16 ^ n) : hexs (hexDigits r n ++ x) n 0 = r := by
  rw [hexs_digits, Nat.mod_eq_of_lt h, Nat.zero_mul, Nat.zero_add]

theorem unq_x (r : Nat) (x : Bytes) (h : r < 128) : unq (92 :: 120 :: hexDigits r 2 ++ x) = (r, x) := by
  have e' := hexs_small r 2 x (Nat.lt_of_lt_of_le h (by decide))
  have e2 := drop_hex r 2 x
  simp [unq, e', e2, h]
theorem unq_u (r : Nat) (x : Bytes) (h : r < 65536) : unq (92 :: 117 :: hexDigits r 4 ++ x) = (r, x) := by
  have e' := hexs_small r 4 x (Nat.lt_of_lt_of_le h (by decide))
  have e2 := drop_hex r 4 x
  simp [unq, e', e2]
theorem unq_U (r : Nat) (x : Bytes) (h : r < 1114112) : unq (92 :: 85 :: hexDigits r 8 ++ x) = (r, x) := by
  have e' := hexs_small r 8 x (Nat.lt_of_lt_of_le h (by decide))
  have e2 := drop_hex r 8 x
  simp [unq, e', e2]

theorem ok_valid (r : Nat) (h : okRune r) : Utf8.valid (r : Int) = true := by
  unfold okRune at h
  simp [Utf8.valid]; omega

theorem unq_print (r : Nat) (h : okRune r) (q1 : r ≠ 34) (q2 : r ≠ 92) (x : Bytes) : unq ((Utf8.encode (r : Int)).data.toList ++ x) = (r, x) := by
  rw [← enc]
  obtain ⟨a, l, ea, n1, n2⟩ := enc_head r h q1 q2
  have hd := dec_enc r h x
  rw [ea] at hd ⊢
  simp only [List.cons_append] at hd ⊢
  rw [unq, if_neg n1, if_neg n2, hd]
  simp

theorem esc_34 (x : Bytes) : unq ([92, 34] ++ x) = (34, x) := by simp [unq]
theorem esc_92 (x : Bytes) : unq ([92, 92] ++ x) = (92, x) := by simp [unq]
theorem esc_7 (x : Bytes) : unq ([92, 97] ++ x) = (7, x) := by simp [unq]
theorem esc_8 (x : Bytes) : unq ([92, 98] ++ x) = (8, x) := by simp [unq]
theorem esc_12 (x : Bytes) : unq ([92, 102] ++ x) = (12, x) := by simp [unq]
theorem esc_10 (x : Bytes) : unq ([92, 110] ++ x) = (10, x) := by simp [unq]
theorem esc_13 (x : Bytes) : unq ([92, 114] ++ x) = (13, x) := by simp [unq]
theorem esc_9 (x : Bytes) : unq ([92, 116] ++ x) = (9, x) := by simp [unq]
theorem esc_11 (x : Bytes) : unq ([92, 118] ++ x) = (11, x) := by simp [unq]

theorem esc_print (r : Nat) (q1 : r ≠ 34) (q2 : r ≠ 92) (p : isPrint r = true) : escRune 34 false r = (Utf8.encode (r : Int)).data.toList := by
  unfold escRune
  simp [q1, q2, p]

theorem unq_esc (r : Nat) (h : okRune r) (x : Bytes) : unq (escRune 34 false r ++ x) = (r, x) := by
  have hr : r < 1114112 := by unfold okRune at h; omega
  have hv : Utf8.valid (r : Int) = true := ok_valid r h
  by_cases q : (r == 34 || r == 92) = true
  · unfold escRune
    rw [if_pos q]
    simp at q
    rcases q with e | e
    · rw [e]; exact esc_34 x
    · rw [e]; exact esc_92 x
  have q1 : r ≠ 34 := by intro e; simp [e] at q
  have q2 : r ≠ 92 := by intro e; simp [e] at q
  by_cases p : isPrint r = true
  · rw [esc_print r q1 q2 p]
    exact unq_print r h q1 q2 x
  unfold escRune
  rw [if_neg q]
  clear q
  simp only [Bool.false_eq_true, if_false]
  rw [if_neg p]
  by_cases k7 : r = 7
  · rw [if_pos (by simp [k7]), k7]; exact esc_7 x
  rw [if_neg (by simpa using k7)]
  by_cases k8 : r = 8
  · rw [if_pos (by simp [k8]), k8]; exact esc_8 x
  rw [if_neg (by simpa using k8)]
  by_cases k12 : r = 12
  · rw [if_pos (by simp [k12]), k12]; exact esc_12 x
  rw [if_neg (by simpa using k12)]
  by_cases k10 : r = 10
  · rw [if_pos (by simp [k10]), k10]; exact esc_10 x
  rw [if_neg (by simpa using k10)]
  by_cases k13 : r = 13
  · rw [if_pos (by simp [k13]), k13]; exact esc_13 x
  rw [if_neg (by simpa using k13)]
  by_cases k9 : r = 9
  · rw [if_pos (by simp [k9]), k9]; exact esc_9 x
  rw [if_neg (by simpa using k9)]
  by_cases k11 : r = 11
  · rw [if_pos (by simp [k11]), k11]; exact esc_11 x
  rw [if_neg (by simpa using k11)]
  by_cases s : (decide (r < 32) || r == 0x7F) = true
  · rw [if_pos s]
    simp at s
    exact unq_x r x (by omega)
  rw [if_neg s, if_neg (by simp [hv])]
  by_cases f : r < 65536
  · rw [if_pos f]
    exact unq_u r x f
  · rw [if_neg f]
    exact unq_U r x (by omega)

/-! ### the loop's output, read back -/

theorem dec_pos (l : Bytes) : 1 ≤ (dec l).2 := by
  unfold dec Lib.decodeN
  repeat' split
  all_goals simp

theorem qf_inj : ∀ (f1 f2 : Nat) (l1 l2 x y : Bytes), l1.length ≤ f1 → l2.length ≤ f2 → qf f1 l1 ++ 34 :: x = qf f2 l2 ++ 34 :: y → l1 = l2 ∧ x = y := by
  have qnil : ∀ f, qf f [] = [] := by intro f; cases f <;> simp [qf]
  have uend : ∀ x : Bytes, unq (34 :: x) = (4194304, x) := by intro x; simp [unq]
  -- what the reader gives at a step
  have step : ∀ (f : Nat) (l x : Bytes), 0 < l.length → l.length ≤ f → ∃ t : Nat, t < 4194304 ∧ unq (qf f l ++ 34 :: x) = (t, qf (f - 1) (l.drop (dec l).2) ++ 34 :: x) ∧
      ((2097152 ≤ t ∧ l = UInt8.ofNat (t - 2097152) :: l.drop (dec l).2) ∨ (t < 2097152 ∧ l = enc t ++ l.drop (dec l).2)) := by
    intro f l x hl hf
    match f, hf with
    | 0, hf => omega
    | f + 1, _ =>
      rw [qf, if_pos hl, List.append_assoc]
      rcases dec_cases l hl with ⟨h1, h2, h3, h4⟩ | ⟨h1, h2, h3⟩
      · refine ⟨2097152 + (l.getD 0 0).toNat, by have := (l.getD 0 0).toNat_lt; omega, ?_, Or.inl ⟨by omega, ?_⟩⟩
        · rw [chunk, if_pos ⟨h1, h2⟩, unq_bad _ h3]; rfl
        · rw [h1, Nat.add_sub_cancel_left]
          simpa using h4
      · refine ⟨(dec l).1, by unfold okRune at h2; omega, ?_, Or.inr ⟨by unfold okRune at h2; omega, h3⟩⟩
        rw [chunk, if_neg h1, unq_esc _ h2]; rfl
  intro f1
  induction f1 with
  | zero =>
    intro f2 l1 l2 x y h1 h2 e
    have e1 : l1 = [] := List.length_eq_zero_iff.1 (by omega)
    subst e1
    by_cases hl : 0 < l2.length
    · obtain ⟨t, ht, hu, _⟩ := step f2 l2 y hl h2
      have := congrArg unq e
      rw [hu, qnil, List.nil_append, uend] at this
      simp at this; omega
    · have e2 : l2 = [] := List.length_eq_zero_iff.1 (by omega)
      subst e2
      rw [qnil, qnil] at e
      simp at e
      exact ⟨rfl, e⟩
  | succ f1 ih =>
    intro f2 l1 l2 x y h1 h2 e
    have eu := congrArg unq e
    by_cases hl1 : 0 < l1.length
    · obtain ⟨t1, ht1, hu1, hw1⟩ := step (f1 + 1) l1 x hl1 h1
      by_cases hl2 : 0 < l2.length
      · obtain ⟨t2, ht2, hu2, hw2⟩ := step f2 l2 y hl2 h2
        rw [hu1, hu2, Prod.mk.injEq] at eu
        obtain ⟨et, er⟩ := eu
        subst et
        have p1 := dec_pos l1
        have p2 := dec_pos l2
        obtain ⟨el, exy⟩ := ih (f2 - 1) _ _ x y (by simp; omega) (by simp; omega) er
        refine ⟨?_, exy⟩
        rcases hw1 with ⟨a1, b1⟩ | ⟨a1, b1⟩
        · rcases hw2 with ⟨a2, b2⟩ | ⟨a2, b2⟩
          · rw [b1, b2, el]
          · omega
        · rcases hw2 with ⟨a2, b2⟩ | ⟨a2, b2⟩
          · omega
          · rw [b1, b2, el]
      · have e2 : l2 = [] := List.length_eq_zero_iff.1 (by omega)
        subst e2
        rw [hu1, qnil, List.nil_append, uend] at eu
        simp at eu; omega
    · have e1 : l1 = [] := List.length_eq_zero_iff.1 (by omega)
      subst e1
      by_cases hl : 0 < l2.length
      · obtain ⟨t, ht, hu, _⟩ := step f2 l2 y hl h2
        rw [hu, qnil, List.nil_append, uend] at eu
        simp at eu; omega
      · have e2 : l2 = [] := List.length_eq_zero_iff.1 (by omega)
        subst e2
        rw [qnil, qnil] at e
        simp at e
        exact ⟨rfl, e⟩

/-- THE LAW: a quoted string and whatever stands behind it can be read back. -/
theorem quote_inj (s1 s2 x y : Bytes) (h : quote false s1 ++ x = quote false s2 ++ y) : s1 = s2 ∧ x = y := by
  rw [quote_qf, quote_qf] at h
  simp only [List.cons_append, List.cons.injEq, true_and, List.append_assoc, List.nil_append] at h
  exact qf_inj _ _ _ _ _ _ (Nat.le_refl _) (Nat.le_refl _) h

end Quo
end Go.Proofs.Qxb6612707aFmt
