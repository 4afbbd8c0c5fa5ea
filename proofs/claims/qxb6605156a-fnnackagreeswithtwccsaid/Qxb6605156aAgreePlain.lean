import Derived.Test.Qxb6605156aTwPlain
namespace Go.Proofs.Qxb6605156a

/-- the places of the clear bits below n, in order -/
def clrPos (x n : Nat) : List Nat := (List.range n).filter (fun i => !x.testBit i)

theorem clrPos_yes (x n : Nat) (h : x.testBit n = false) : clrPos x (n + 1) = clrPos x n ++ [n] := by
  simp [clrPos, List.range_succ, h]
theorem clrPos_no (x n : Nat) (h : x.testBit n = true) : clrPos x (n + 1) = clrPos x n := by
  simp [clrPos, List.range_succ, h]
theorem clrPos_len (x n : Nat) : (clrPos x n).length ≤ n := by
  have := List.length_filter_le (fun i => !x.testBit i) (List.range n)
  simpa [clrPos] using this
theorem clrPos_mem (x n i : Nat) : i ∈ clrPos x n ↔ i < n ∧ x.testBit i = false := by
  simp [clrPos]

theorem clrPos_cut (x j m : Nat) : clrPos x (j + m) = clrPos x j ++ (List.range' j m).filter (fun i => !x.testBit i) := by
  unfold clrPos
  rw [← List.filter_append]
  congr 1
  rw [List.range_eq_range', List.range_eq_range', ← List.range'_append]
  simp

theorem clrPos_at (x j : Nat) (hj : j ≤ 16) (h : (clrPos x j).length < (clrPos x 16).length) : j ≤ (clrPos x 16)[(clrPos x j).length] := by
  have e := clrPos_cut x j (16 - j)
  rw [show j + (16 - j) = 16 by omega] at e
  have h2 : (clrPos x j).length < (clrPos x j ++ (List.range' j (16 - j)).filter (fun i => !x.testBit i)).length := by rw [← e]; exact h
  have e2 : (clrPos x 16)[(clrPos x j).length] = (clrPos x j ++ (List.range' j (16 - j)).filter (fun i => !x.testBit i))[(clrPos x j).length]'h2 := by
    simp only [← e]
  rw [e2, List.getElem_append_right (Nat.le_refl _)]
  have hm := List.getElem_mem (l := (List.range' j (16 - j)).filter (fun i => !x.testBit i)) (n := (clrPos x j).length - (clrPos x j).length) (by rw [List.length_append] at h2; omega)
  rw [List.mem_filter, List.mem_range'] at hm
  obtain ⟨⟨i, _, hi⟩, _⟩ := hm
  omega

/-- the numbers that are received -/
def recvTo (pid : Int) (x n : Nat) : List Int := (clrPos x n).map (fun b : Nat => (pid + (b : Int) + 1) % 65536)

theorem recvTo_yes (pid : Int) (x n : Nat) (h : x.testBit n = false) : recvTo pid x (n + 1) = recvTo pid x n ++ [(pid + (n : Int) + 1) % 65536] := by
  simp [recvTo, clrPos_yes x n h]
theorem recvTo_no (pid : Int) (x n : Nat) (h : x.testBit n = true) : recvTo pid x (n + 1) = recvTo pid x n := by
  simp [recvTo, clrPos_no x n h]
theorem recvTo_len (pid : Int) (x n : Nat) : (recvTo pid x n).length ≤ n := by
  simpa [recvTo] using clrPos_len x n

theorem recvTo_at (pid : Int) (x i : Nat) (h : i < (clrPos x 16).length) : (recvTo pid x 16).getD i 0 = (pid + ((clrPos x 16)[i] : Int) + 1) % 65536 := by
  simp [recvTo, List.getD, h]

theorem agree_to (pid : Int) (x : Nat) (h0 : 0 ≤ pid) (h1 : pid < 65536) : ∀ j, j ≤ 16 → twTo pid (recvTo pid x 16) (j + 1) = ((clrPos x j).length, lostTo pid x j) := by
  intro j
  induction j with
  | zero =>
    intro _
    have hm : twTo pid (recvTo pid x 16) (0 + 1) = _ := twTo_miss pid (recvTo pid x 16) 0 (by
      intro h
      have h' : 0 < (clrPos x 16).length := by simpa [recvTo, twTo] using h
      have hb := ((clrPos_mem x 16 _).1 (List.getElem_mem h')).1
      show (recvTo pid x 16).getD 0 0 ≠ _
      rw [recvTo_at pid x 0 h']
      omega)
    rw [hm]
    simp [twTo, clrPos, lostTo, bitPos]
    omega
  | succ j ih =>
    intro hj
    have ih := ih (by omega)
    have e1 : (twTo pid (recvTo pid x 16) (j + 1)).1 = (clrPos x j).length := by rw [ih]
    have e2 : (twTo pid (recvTo pid x 16) (j + 1)).2 = lostTo pid x j := by rw [ih]
    have hcast : ((j + 1 : Nat) : Int) = (j : Int) + 1 := by omega
    cases hb : x.testBit j
    · have e := clrPos_cut x (j + 1) (16 - (j + 1))
      rw [show j + 1 + (16 - (j + 1)) = 16 by omega, clrPos_yes x j hb] at e
      have hlt : (clrPos x j).length < (clrPos x 16).length := by rw [e]; simp
      have hat : (clrPos x 16)[(clrPos x j).length] = j := by
        have : (clrPos x 16)[(clrPos x j).length]? = some j := by rw [e]; simp
        rw [List.getElem?_eq_getElem hlt] at this
        exact Option.some.inj this
      rw [twTo_hit pid (recvTo pid x 16) (j + 1) (by rw [e1]; simpa [recvTo] using hlt) (by rw [e1, recvTo_at pid x _ hlt, hat, hcast]; omega)]
      rw [e1, e2, clrPos_yes x j hb, lostTo_no pid x j hb]
      simp
    · rw [twTo_miss pid (recvTo pid x 16) (j + 1) (by
        intro h
        rw [e1] at h ⊢
        have h' : (clrPos x j).length < (clrPos x 16).length := by simpa [recvTo] using h
        have hge := clrPos_at x j (by omega) h'
        have hmm := (clrPos_mem x 16 _).1 (List.getElem_mem h')
        have hne : (clrPos x 16)[(clrPos x j).length] ≠ j := by
          intro he
          rw [he] at hmm
          rw [hmm.2] at hb
          cases hb
        rw [recvTo_at pid x _ h', hcast]
        have h16 := hmm.1
        omega)]
      rw [e1, e2, clrPos_no x j hb, lostTo_yes pid x j hb, hcast]
      simp [Int.add_assoc]

theorem agree (pid : Int) (x : Nat) (h0 : 0 ≤ pid) (h1 : pid < 65536) : (twTo pid (recvTo pid x 16) 17).2 = lostTo pid x 16 := by
  rw [agree_to pid x h0 h1 16 (by omega)]
end Go.Proofs.Qxb6605156a
