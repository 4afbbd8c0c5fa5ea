namespace Go.Proofs.Qxb6605264a

/-- the slots that are held: 0 or more, in order -/
def held (zs : List Int) : List Int := zs.filter (fun z => decide (0 ≤ z))

theorem held_append (a b : List Int) : held (a ++ b) = held a ++ held b := by simp [held]
theorem held_yes (zs : List Int) (k : Nat) (h : k < zs.length) (h0 : 0 ≤ zs[k]) : held (zs.take (k + 1)) = held (zs.take k) ++ [zs[k]] := by
  rw [List.take_succ_eq_append_getElem h, held_append]
  simp [held, h0]
theorem held_no (zs : List Int) (k : Nat) (h : k < zs.length) (h0 : ¬ 0 ≤ zs[k]) : held (zs.take (k + 1)) = held (zs.take k) := by
  rw [List.take_succ_eq_append_getElem h, held_append]
  simp [held, h0]
theorem held_cut (zs : List Int) (m : Nat) : held (zs.take m) ++ held (zs.drop m) = held zs := by
  rw [← held_append, List.take_append_drop]
theorem held_len (zs : List Int) : (held zs).length ≤ zs.length := List.length_filter_le _ _
theorem held_len_take (zs : List Int) (k : Nat) : (held (zs.take k)).length ≤ k := by
  have := held_len (zs.take k)
  have := List.length_take_le k zs
  omega
theorem held_nonneg (zs : List Int) (i : Nat) (h : i < (held zs).length) : 0 ≤ (held zs)[i] := by
  have hm : ∀ z ∈ held zs, 0 ≤ z := fun z hz => of_decide_eq_true (List.mem_filter.1 hz).2
  exact hm _ (List.getElem_mem h)
theorem held_held (zs : List Int) : held (held zs) = held zs := by simp [held]

/-- the next held slot is the next of the answer -/
theorem held_at (zs : List Int) (k : Nat) (h : k < zs.length) (h0 : 0 ≤ zs[k]) :
    (held (zs.take k)).length < (held zs).length ∧ (held zs).getD (held (zs.take k)).length 0 = zs[k] := by
  have e := held_cut zs (k + 1)
  rw [held_yes zs k h h0] at e
  rw [← e]
  simp [List.getD]
theorem held_take_len (zs : List Int) (k : Nat) : (held (zs.take k)).length ≤ (held zs).length := by
  have e := congrArg List.length (held_cut zs k)
  rw [List.length_append] at e
  omega
theorem held_getD_nonneg (zs : List Int) (i : Nat) (h : i < (held zs).length) : 0 ≤ (held zs).getD i 0 := by
  rw [List.getD, List.getElem?_eq_getElem h]; exact held_nonneg zs i h
end Go.Proofs.Qxb6605264a
