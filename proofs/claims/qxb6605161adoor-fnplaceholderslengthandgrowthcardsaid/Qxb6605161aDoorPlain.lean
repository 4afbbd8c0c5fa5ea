import Derived.Lib.ItoaNum
namespace Go.Proofs.Qxb6605161aDoor
open Go

/-- one field: a question mark, or the prefix and the number -/
def fieldB (pre : List UInt8) (k : Nat) : List UInt8 := if pre = [] then [63] else pre ++ Lib.decDigits k

/-- n placeholders, parted by commas -/
def ph (pre : List UInt8) : Nat → List UInt8
  | 0 => []
  | n + 1 => if n = 0 then fieldB pre 1 else ph pre n ++ [44, 32] ++ fieldB pre (n + 1)

theorem ph_one (pre : List UInt8) : ph pre 1 = fieldB pre 1 := by simp [ph]
theorem ph_more (pre : List UInt8) (n : Nat) (h : 1 ≤ n) : ph pre (n + 1) = ph pre n ++ [44, 32] ++ fieldB pre (n + 1) := by
  rw [ph, if_neg (by omega)]

/-! ### how many digits -/
theorem nd1 (k : Nat) (h : k < 10) : Lib.nDigits k = 1 := Lib.nDigits_small h
theorem nd2 (k : Nat) (h : 10 ≤ k) (h' : k < 100) : Lib.nDigits k = 2 := Lib.nDigits_unique 1 k (by simpa using h) (by simpa using h')
theorem nd3 (k : Nat) (h : 100 ≤ k) (h' : k < 1000) : Lib.nDigits k = 3 := Lib.nDigits_unique 2 k (by simpa using h) (by simpa using h')
theorem nd4 (k : Nat) (h : 1000 ≤ k) (h' : k < 10000) : Lib.nDigits k = 4 := Lib.nDigits_unique 3 k (by simpa using h) (by simpa using h')
theorem nd5 (k : Nat) (h : 10000 ≤ k) (h' : k < 100000) : Lib.nDigits k = 5 := Lib.nDigits_unique 4 k (by simpa using h) (by simpa using h')

/-- the digits of 1..n together -/
def digs (n : Nat) : Nat := n + (n - 9) + (n - 99) + (n - 999) + (n - 9999)

theorem digs_succ (n : Nat) (h : n + 1 < 100000) : digs (n + 1) = digs n + Lib.nDigits (n + 1) := by
  unfold digs
  by_cases h1 : n + 1 < 10
  · rw [nd1 _ h1]; omega
  · by_cases h2 : n + 1 < 100
    · rw [nd2 _ (by omega) h2]; omega
    · by_cases h3 : n + 1 < 1000
      · rw [nd3 _ (by omega) h3]; omega
      · by_cases h4 : n + 1 < 10000
        · rw [nd4 _ (by omega) h4]; omega
        · rw [nd5 _ (by omega) h]; omega

theorem nd_le (k : Nat) (h : k < 100000) : Lib.nDigits k ≤ 5 := by
  by_cases h1 : k < 10
  · rw [nd1 _ h1]; omega
  · by_cases h2 : k < 100
    · rw [nd2 _ (by omega) h2]; omega
    · by_cases h3 : k < 1000
      · rw [nd3 _ (by omega) h3]; omega
      · by_cases h4 : k < 10000
        · rw [nd4 _ (by omega) h4]; omega
        · rw [nd5 _ (by omega) h]; omega

theorem ph_len_empty (n : Nat) : (ph [] (n + 1)).length = 3 * n + 1 := by
  induction n with
  | zero => simp [ph, fieldB]
  | succ n ih =>
    rw [ph_more [] (n + 1) (by omega), List.length_append, List.length_append, ih]
    simp [fieldB]; omega

theorem ph_len (pre : List UInt8) (hp : pre ≠ []) (n : Nat) (h : n + 1 < 100000) : (ph pre (n + 1)).length = 2 * n + (n + 1) * pre.length + digs (n + 1) := by
  induction n with
  | zero =>
    rw [ph_one, fieldB, if_neg hp, List.length_append, Lib.decDigits_length, nd1 1 (by omega)]
    unfold digs
    omega
  | succ n ih =>
    rw [ph_more pre (n + 1) (by omega), List.length_append, List.length_append, ih (by omega), digs_succ (n + 1) (by omega)]
    have e : (n + 1 + 1) * pre.length = (n + 1) * pre.length + pre.length := by rw [Nat.succ_mul]
    simp only [fieldB, if_neg hp, List.length_append, Lib.decDigits_length, List.length_cons, List.length_nil, e]
    omega

theorem ph_le (pre : List UInt8) (n : Nat) (h : n < 100000) : (ph pre n).length ≤ n * (pre.length + 7) := by
  induction n with
  | zero => simp [ph]
  | succ n ih =>
    have hf : (fieldB pre (n + 1)).length ≤ pre.length + 5 := by
      unfold fieldB
      split
      · simp
      · rw [List.length_append, Lib.decDigits_length]; have := nd_le (n + 1) h; omega
    by_cases h0 : n = 0
    · subst h0; rw [ph_one]; rw [Nat.zero_add] at hf ⊢; omega
    · rw [ph_more pre n (by omega), List.length_append, List.length_append, Nat.succ_mul]
      have := ih (by omega)
      simp; omega

/-! ### reading a numeral -/
def valL (l : List UInt8) (v : Nat) : Nat := l.foldl (fun v b => v * 10 + (b.toNat - 48)) v

theorem valL_append (a b : List UInt8) (v : Nat) : valL (a ++ b) v = valL b (valL a v) := by simp [valL]
theorem valL_ge (l : List UInt8) : ∀ v, v ≤ valL l v := by
  induction l with
  | nil => intro v; exact Nat.le_refl _
  | cons b l ih => intro v; have := ih (v * 10 + (b.toNat - 48)); simp only [valL, List.foldl_cons] at this ⊢; omega
theorem valL_take (l : List UInt8) (j : Nat) : valL (l.take j) 0 ≤ valL l 0 := by
  conv => rhs; rw [← List.take_append_drop j l, valL_append]
  exact valL_ge _ _
theorem valL_succ (l : List UInt8) (j : Nat) (h : j < l.length) : valL (l.take (j + 1)) 0 = valL (l.take j) 0 * 10 + (l[j].toNat - 48) := by
  rw [List.take_succ_eq_append_getElem h, valL_append]; rfl

theorem u8_of (u : Nat) (h : u < 10) : (UInt8.ofNat (48 + u)).toNat = 48 + u := by
  simp; omega

theorem valL_dec (k : Nat) : valL (Lib.decDigits k) 0 = k := by
  induction k using Nat.strongRecOn with
  | _ k ih =>
    by_cases h : k < 10
    · rw [Lib.decDigits_one h]
      simp only [valL, List.foldl_cons, List.foldl_nil, u8_of k h]; omega
    · rw [Lib.decDigits, dif_neg h, valL_append, ih (k / 10) (by omega)]
      simp only [valL, List.foldl_cons, List.foldl_nil, u8_of (k % 10) (by omega)]; omega

theorem dec_digit (k : Nat) : ∀ b ∈ Lib.decDigits k, 48 ≤ b.toNat ∧ b.toNat ≤ 57 := by
  induction k using Nat.strongRecOn with
  | _ k ih =>
    by_cases h : k < 10
    · rw [Lib.decDigits_one h]
      intro b hb
      rw [List.mem_singleton.1 hb, u8_of k h]; omega
    · rw [Lib.decDigits, dif_neg h]
      intro b hb
      rcases List.mem_append.1 hb with hb | hb
      · exact ih (k / 10) (by omega) b hb
      · rw [List.mem_singleton.1 hb, u8_of (k % 10) (by omega)]; omega

theorem dec_pos (k : Nat) : 0 < (Lib.decDigits k).length := by rw [Lib.decDigits_length]; exact Lib.nDigits_pos k

theorem dec_head (k : Nat) : 1 ≤ k → ((Lib.decDigits k)[0]'(dec_pos k)).toNat ≠ 48 := by
  induction k using Nat.strongRecOn with
  | _ k ih =>
    intro h1
    have hs : ∀ l : List UInt8, (hl : 0 < l.length) → l = Lib.decDigits k → l[0].toNat ≠ 48 → ((Lib.decDigits k)[0]'(dec_pos k)).toNat ≠ 48 := by
      intro l hl e; subst e; exact id
    by_cases h : k < 10
    · exact hs [UInt8.ofNat (48 + k)] (by simp) (Lib.decDigits_one h).symm (by simp only [List.getElem_cons_zero]; rw [u8_of k h]; omega)
    · refine hs (Lib.decDigits (k / 10) ++ [UInt8.ofNat (48 + k % 10)]) (by simp) (by conv => rhs; rw [Lib.decDigits, dif_neg h]) ?_
      rw [List.getElem_append_left (dec_pos (k / 10))]
      exact ih (k / 10) (by omega) (by omega)
end Go.Proofs.Qxb6605161aDoor
