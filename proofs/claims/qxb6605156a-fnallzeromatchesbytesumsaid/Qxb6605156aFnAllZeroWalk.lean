import Derived.Test.Qxb6605156aZero
import Derived.Test.Qxb6605156aClone
namespace Go.Proofs.Qxb6605156a
open Go.RowKit

def sumZ : List Int → Int
  | [] => 0
  | z :: zs => z + sumZ zs

theorem sumZ_append (a b : List Int) : sumZ (a ++ b) = sumZ a + sumZ b := by
  induction a with
  | nil => simp [sumZ]
  | cons x a ih => simp [sumZ, ih]; omega

theorem sumZ_bd (zs : List Int) (h : ∀ z ∈ zs, 0 ≤ z ∧ z ≤ 255) : 0 ≤ sumZ zs ∧ sumZ zs ≤ 255 * zs.length := by
  induction zs with
  | nil => simp [sumZ]
  | cons x a ih =>
    have := h x (by simp)
    have := ih (fun z hz => h z (by simp [hz]))
    simp [sumZ]; omega

theorem sumZ_zero (zs : List Int) (h : ∀ z ∈ zs, 0 ≤ z ∧ z ≤ 255) : allZ zs = true ↔ sumZ zs = 0 := by
  induction zs with
  | nil => simp [sumZ, allZ]
  | cons x a ih =>
    have h1 := h x (by simp)
    have h2 := sumZ_bd a (fun z hz => h z (by simp [hz]))
    have h3 := ih (fun z hz => h z (by simp [hz]))
    simp only [allZ, List.all_cons, Bool.and_eq_true, beq_iff_eq, sumZ] at h3 ⊢
    rw [h3]; omega

theorem sumZ_succ (zs : List Int) (k : Nat) (h : k < zs.length) : sumZ (zs.take (k + 1)) = sumZ (zs.take k) + zs[k] := by
  rw [List.take_succ_eq_append_getElem h, sumZ_append]; simp [sumZ]

theorem allZ_cut (zs : List Int) (m : Nat) : allZ zs = (allZ (zs.take m) && allZ (zs.drop m)) := by
  unfold allZ
  rw [← List.all_append, List.take_append_drop]

/-- the three ways of the last line -/
theorem three (zs : List Int) (m : Nat) (h : ∀ z ∈ zs, 0 ≤ z ∧ z ≤ 255) :
    (allZ zs = true ∧ sumZ zs = 0 ∧ allZ (zs.take m) = true ∧ allZ (zs.drop m) = true) ∨
    (allZ zs = false ∧ (sumZ zs == 0) = false ∧ allZ (zs.take m) = false) ∨
    (allZ zs = false ∧ (sumZ zs == 0) = false ∧ allZ (zs.take m) = true ∧ allZ (zs.drop m) = false) := by
  have h1 := sumZ_zero zs h
  have h2 := allZ_cut zs m
  cases ha : allZ zs <;> cases hb : allZ (zs.take m) <;> cases hc : allZ (zs.drop m) <;> simp_all

set_option maxHeartbeats 400000 in
theorem allZero_law_pos (a0 : Option Addr) (len cap : Nat) (zs : List Int) (w : World) (hb : ∀ z ∈ zs, 0 ≤ z ∧ z ≤ 255) (hpos : 0 < len)
    (h : (a0 = none ∧ len = 0 ∧ zs = []) ∨ ∃ x, a0 = some x ∧ zs.length = len ∧ ∀ i, i < zs.length → w.cell? (x.add i) = some (.int .u8 (zs.getD i 0))) :
    Calls Try.prog 7 #[.slice a0 len cap] w fun e w' => e = .returned (.bool true) ∧ Below w.heap.size w w' := by
  have hl : zs.length = len := by rcases h with ⟨_, rfl, rfl⟩ | ⟨_, _, h, _⟩ <;> simp_all
  by_cases hm : len ≤ 1048576
  · go_enter Try.func7, Try.ntmps7
    go_wp2_with (first
      | (go_at_call 15; refine (cloneBytes_any _ _ _ zs _ hm h).mono ?_)
      | (go_at_call 18; go_in))
    rintro e w1 ⟨a, rfl, hown, hbel⟩
    have hr := row_of_own hown
    clear hown h
    go_wp2
    go_loop [3, 4] (fun s i => ∃ k : Nat, k ≤ len ∧ i = .int .i64 k ∧ s = .int .u64 (sumZ (zs.take k))) (fun _ i => len - (intOf i).toNat)
    case atStart => exact ⟨0, Nat.zero_le _, rfl, rfl⟩
    case round =>
      obtain ⟨k, hk, rfl, rfl⟩ := hrel
      have hs1 := sumZ_bd (zs.take k) (fun z hz => hb z (List.mem_of_mem_take hz))
      have hlt' : (zs.take k).length ≤ k := List.length_take_le _ _
      by_cases hlt : k < len
      · have hk' : k < zs.length := by omega
        have HS : Hid (sumZ (zs.take (k + 1)) = sumZ (zs.take k) + zs[k]) := sumZ_succ zs k hk'
        have hz := hb zs[k] (List.getElem_mem hk')
        rcases hr with rfl | ⟨b, off, rfl, hc⟩
        · simp at hk'
        have hcell := hc k hk'
        clear hc
        go_wp2
        go_round
        case rel => exact ⟨k + 1, by omega, by go_num, by rw [HS.out]⟩
        case measure => simp [intOf]; omega
      · have hfull : zs.take k = zs := List.take_of_length_le (by omega)
        rw [hfull] at hs1 ⊢
        clear hfull hlt'
        have h3 := three zs (len / 2) hb
        have Hr1 : Hid (Row .u8 w1 a (zs.take (len / 2))) := hr.take _
        have Hr2 : Hid (Row .u8 w1 (a.map (fun x => x.add (len / 2))) (zs.drop (len / 2))) := hr.drop _
        have hne : ¬ len = len / 2 := by omega
        rcases h3 with ⟨e1, e2, e3, e4⟩ | ⟨e1, e2, e3⟩ | ⟨e1, e2, e3, e4⟩
        · have E1 : Hid _ := e1
          have E3 : Hid _ := e3
          have E4 : Hid _ := e4
          clear e1 e3 e4
          go_wp2_with fail
          refine (zzAllZero_is _ _ _ zs _ true hl hm hr E1.out).mono ?_
          rintro e w2 ⟨rfl, rfl⟩
          go_wp2_with fail
          refine (zzAllZero_is _ _ _ (zs.take (len / 2)) _ true (by simp; omega) (by omega) Hr1.out E3.out).mono ?_
          rintro e w2 ⟨rfl, rfl⟩
          go_wp2_with fail
          refine (zzAllZero_is _ _ _ (zs.drop (len / 2)) _ true (by simp; omega) (by omega) Hr2.out E4.out).mono ?_
          rintro e w2 ⟨rfl, rfl⟩
          go_wp2
          go_ret
          exact ⟨rfl, hbel⟩
        · have E1 : Hid _ := e1
          have E3 : Hid _ := e3
          clear e1 e3
          go_wp2_with fail
          refine (zzAllZero_is _ _ _ zs _ false hl hm hr E1.out).mono ?_
          rintro e w2 ⟨rfl, rfl⟩
          go_wp2_with fail
          refine (zzAllZero_is _ _ _ (zs.take (len / 2)) _ false (by simp; omega) (by omega) Hr1.out E3.out).mono ?_
          rintro e w2 ⟨rfl, rfl⟩
          go_wp2
          go_ret
          exact ⟨rfl, hbel⟩
        · have E1 : Hid _ := e1
          have E3 : Hid _ := e3
          have E4 : Hid _ := e4
          clear e1 e3 e4
          go_wp2_with fail
          refine (zzAllZero_is _ _ _ zs _ false hl hm hr E1.out).mono ?_
          rintro e w2 ⟨rfl, rfl⟩
          go_wp2_with fail
          refine (zzAllZero_is _ _ _ (zs.take (len / 2)) _ true (by simp; omega) (by omega) Hr1.out E3.out).mono ?_
          rintro e w2 ⟨rfl, rfl⟩
          go_wp2_with fail
          refine (zzAllZero_is _ _ _ (zs.drop (len / 2)) _ false (by simp; omega) (by omega) Hr2.out E4.out).mono ?_
          rintro e w2 ⟨rfl, rfl⟩
          go_wp2
          go_ret
          exact ⟨rfl, hbel⟩
  · go_enter Try.func7, Try.ntmps7
    go_wp2_with (go_at_call 18; go_in)
    go_ret
    exact ⟨rfl, Below.refl _ _⟩

set_option maxHeartbeats 400000 in
theorem allZero_law_zero (a0 : Option Addr) (cap : Nat) (w : World) (h : (a0 = none ∧ 0 = 0 ∧ ([] : List Int) = []) ∨ ∃ x, a0 = some x ∧ ([] : List Int).length = 0 ∧ ∀ i, i < ([] : List Int).length → w.cell? (x.add i) = some (.int .u8 (([] : List Int).getD i 0))) :
    Calls Try.prog 7 #[.slice a0 0 cap] w fun e w' => e = .returned (.bool true) ∧ Below w.heap.size w w' := by
  go_enter Try.func7, Try.ntmps7
  go_wp2_with (first
    | (go_at_call 15; refine (cloneBytes_any _ _ _ [] _ (by omega) h).mono ?_; rintro e w1 ⟨a, rfl, -, hbel⟩)
    | (go_at_call 18; go_in))
  clear h
  go_loop [3, 4] (fun s i => i = .int .i64 0 ∧ s = .int .u64 0) (fun _ i => 0)
  case atStart => exact ⟨rfl, rfl⟩
  case round =>
    obtain ⟨rfl, rfl⟩ := hrel
    go_wp2_with (go_at_call 19; refine (zzAllZero_is _ 0 _ [] _ true rfl (by decide) (.inl rfl) rfl).mono ?_; rintro e w2 ⟨rfl, rfl⟩)
    go_ret
    exact ⟨rfl, hbel⟩

theorem allZero_law (a0 : Option Addr) (len cap : Nat) (zs : List Int) (w : World) (hb : ∀ z ∈ zs, 0 ≤ z ∧ z ≤ 255)
    (h : (a0 = none ∧ len = 0 ∧ zs = []) ∨ ∃ x, a0 = some x ∧ zs.length = len ∧ ∀ i, i < zs.length → w.cell? (x.add i) = some (.int .u8 (zs.getD i 0))) :
    Calls Try.prog 7 #[.slice a0 len cap] w fun e w' => e = .returned (.bool true) ∧ Below w.heap.size w w' := by
  by_cases hpos : 0 < len
  · exact allZero_law_pos a0 len cap zs w hb hpos h
  · obtain rfl : len = 0 := by omega
    have hz : zs = [] := by
      rcases h with ⟨_, _, h⟩ | ⟨_, _, h, _⟩
      · exact h
      · exact List.eq_nil_of_length_eq_zero h
    subst hz
    exact allZero_law_zero a0 cap w h
end Go.Proofs.Qxb6605156a
