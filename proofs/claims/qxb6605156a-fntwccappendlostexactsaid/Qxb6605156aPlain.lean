namespace Go.Proofs.Qxb6605156a

/-- how many of the lowest f bits are set -/
def popN : Nat → Nat → Nat
  | 0, _ => 0
  | f + 1, x => x % 2 + popN f (x / 2)

theorem popN_zero (f : Nat) : popN f 0 = 0 := by
  induction f with
  | zero => rfl
  | succ f ih => simp [popN, ih]

theorem popN_le (f x : Nat) : popN f x ≤ f := by
  induction f generalizing x with
  | zero => simp [popN]
  | succ f ih => have := ih (x / 2); simp only [popN]; omega

theorem and_mod_two (a b : Nat) : (a &&& b) % 2 = (a % 2) * (b % 2) := by
  have h := Nat.and_mod_two_pow (a := a) (b := b) (n := 1)
  simp only [Nat.pow_one] at h
  rw [h]
  rcases Nat.mod_two_eq_zero_or_one a with h1 | h1 <;> rcases Nat.mod_two_eq_zero_or_one b with h2 | h2 <;> rw [h1, h2] <;> rfl

/-- clearing the lowest set bit takes one off -/
theorem popN_clear (f : Nat) : ∀ x : Nat, 0 < x → x < 2 ^ f → popN f (x &&& (x - 1)) + 1 = popN f x := by
  induction f with
  | zero => intro x h0 hx; simp at hx; omega
  | succ f ih =>
    intro x h0 hx
    have hm := and_mod_two x (x - 1)
    have hd := Nat.and_div_two (a := x) (b := x - 1)
    have h2 : 2 ^ (f + 1) = 2 * 2 ^ f := by rw [Nat.pow_succ]; omega
    have hz : (x % 2) * ((x - 1) % 2) = 0 := by
      rcases Nat.mod_two_eq_zero_or_one x with h1 | h1
      · rw [h1]; simp
      · rw [show (x - 1) % 2 = 0 by omega]; simp
    simp only [popN]
    rw [hm, hd, hz]
    rcases Nat.mod_two_eq_zero_or_one x with h1 | h1
    · have := ih (x / 2) (by omega) (by omega)
      rw [show (x - 1) / 2 = x / 2 - 1 by omega]
      omega
    · rw [show (x - 1) / 2 = x / 2 by omega, Nat.and_self]
      omega

theorem popN_succ (n x : Nat) : popN (n + 1) x = popN n x + (x.testBit n).toNat := by
  induction n generalizing x with
  | zero => simp [popN, Nat.testBit_zero]; rcases Nat.mod_two_eq_zero_or_one x with h1 | h1 <;> simp [h1]
  | succ n ih =>
    rw [popN, ih (x / 2), Nat.testBit_succ, popN]; omega

/-- the places of the set bits below n, in order -/
def bitPos (x n : Nat) : List Nat := (List.range n).filter (fun i => x.testBit i)

theorem bitPos_zero (x : Nat) : bitPos x 0 = [] := rfl
theorem bitPos_yes (x n : Nat) (h : x.testBit n = true) : bitPos x (n + 1) = bitPos x n ++ [n] := by
  simp [bitPos, List.range_succ, h]
theorem bitPos_no (x n : Nat) (h : x.testBit n = false) : bitPos x (n + 1) = bitPos x n := by
  simp [bitPos, List.range_succ, h]

theorem bitPos_length (x n : Nat) : (bitPos x n).length = popN n x := by
  induction n with
  | zero => rfl
  | succ n ih =>
    rw [popN_succ]
    cases h : x.testBit n
    · rw [bitPos_no x n h, ih]; rfl
    · rw [bitPos_yes x n h, List.length_append, ih]; rfl

theorem bitPos_mem (x n i : Nat) : i ∈ bitPos x n ↔ i < n ∧ x.testBit i = true := by
  simp [bitPos]

theorem bitPos_sorted (x n : Nat) : (bitPos x n).Pairwise (· < ·) := List.Pairwise.filter _ List.pairwise_lt_range

theorem bitPos_lt (x n j : Nat) (h : j < (bitPos x n).length) : (bitPos x n)[j] < n := ((bitPos_mem x n _).1 (List.getElem_mem h)).1

theorem bitPos_rise (x n i j : Nat) (hij : i < j) (h : j < (bitPos x n).length) : (bitPos x n)[i] < (bitPos x n)[j] :=
  List.pairwise_iff_getElem.1 (bitPos_sorted x n) i j (by omega) h hij

/-- the number whose set bits are the list's -/
def orL (L : List Nat) : Nat := L.foldl (fun r b => r ||| 2 ^ b) 0

theorem testBit_foldl (L : List Nat) : ∀ r i : Nat, (L.foldl (fun r b => r ||| 2 ^ b) r).testBit i = (r.testBit i || decide (i ∈ L)) := by
  induction L with
  | nil => simp
  | cons b L ih =>
    intro r i
    rw [List.foldl_cons, ih]
    simp only [Nat.testBit_or, Nat.testBit_two_pow, List.mem_cons]
    by_cases h : i = b
    · subst h; simp
    · simp [h, Ne.symm h]

theorem orL_bitPos (x n : Nat) (h : x < 2 ^ n) : orL (bitPos x n) = x := by
  apply Nat.eq_of_testBit_eq
  intro i
  unfold orL
  rw [testBit_foldl]
  simp only [Nat.zero_testBit, Bool.false_or, bitPos_mem]
  by_cases hi : i < n
  · simp [hi]
  · have := Nat.testBit_lt_two_pow (Nat.lt_of_lt_of_le h (Nat.pow_le_pow_right (by omega) (show n ≤ i by omega)))
    simp [this]

theorem orL_take_succ (L : List Nat) (j : Nat) (h : j < L.length) : orL (L.take (j + 1)) = orL (L.take j) ||| 2 ^ L[j] := by
  unfold orL
  rw [List.take_succ_eq_append_getElem h, List.foldl_append]
  rfl

theorem orL_lt (L : List Nat) (h : ∀ b ∈ L, b < 16) : orL L < 65536 := by
  have : ∀ (L : List Nat) (r : Nat), (∀ b ∈ L, b < 16) → r < 2 ^ 16 → L.foldl (fun r b => r ||| 2 ^ b) r < 2 ^ 16 := by
    intro L
    induction L with
    | nil => intro r _ hr; simpa using hr
    | cons b L ih =>
      intro r hb hr
      rw [List.foldl_cons]
      refine ih _ (fun c hc => hb c (by simp [hc])) (Nat.or_lt_two_pow hr ?_)
      exact Nat.pow_lt_pow_right (by omega) (hb b (by simp))
  exact this L 0 h (by decide)

/-- the numbers that a NACK names, the first n of its sixteen bits looked at -/
def lostTo (pid : Int) (blp n : Nat) : List Int := pid :: (bitPos blp n).map (fun b : Nat => (pid + (b : Int) + 1) % 65536)

theorem lostTo_yes (pid : Int) (x n : Nat) (h : x.testBit n = true) : lostTo pid x (n + 1) = lostTo pid x n ++ [(pid + n + 1) % 65536] := by
  simp [lostTo, bitPos_yes x n h]
theorem lostTo_no (pid : Int) (x n : Nat) (h : x.testBit n = false) : lostTo pid x (n + 1) = lostTo pid x n := by
  simp [lostTo, bitPos_no x n h]
theorem lostTo_length (pid : Int) (x n : Nat) : (lostTo pid x n).length = 1 + popN n x := by
  simp [lostTo, bitPos_length]; omega
end Go.Proofs.Qxb6605156a
