import Derived.Test.Qxb6605161aDoorWalks
namespace Go.Proofs.Qxb6605161aDoor
open Go.RowKit

set_option maxHeartbeats 400000 in
theorem field_empty (s : ByteArray) (pos : Nat) (k : Int) (w : World) (hs : s.size ≤ 1073741824) (hpos : pos + 1 ≤ s.size) (h : Hid (s[pos].toNat = 63)) :
    Calls Tryd.prog 8 #[.string s, .int .i64 pos, .string ⟨#[]⟩, .int .i64 k] w fun e w' => e = .returned (.int .i64 ((pos + 1 : Nat) : Int)) ∧ ∃ q, w' = w.drewN q := by
  go_enter Tryd.func8, Tryd.ntmps8
  go_wp2_with fail
  refine (hasAt_yes s ⟨#[63]⟩ pos _ hs hpos ?_).mono ?_
  · intro i hi
    have h0 : i = 0 := by simp [ByteArray.size] at hi; omega
    subst h0
    apply UInt8.toNat_inj.1
    exact h.out
  rintro e w' ⟨rfl, q, rfl⟩
  go_wp2
  go_ret
  exact ⟨ret_int (by simp), q, rfl⟩

set_option maxHeartbeats 1000000 in
theorem field_pos (s pre : ByteArray) (pos k m : Nat) (w : World) (hs : s.size ≤ 1073741824) (hm : m ≤ 5) (hm1 : 1 ≤ m) (hml : Hid ((Lib.decDigits k).length = m)) (hk1 : 1 ≤ k) (hk : k ≤ 65536) (hp1 : 1 ≤ pre.size) (hle1 : pos + pre.size + m ≤ s.size) (hle2 : s.size ≤ pos + pre.size + m)
    (h1 : Hid (∀ i (hi : i < pre.size), s[pos + i] = pre[i])) (h2 : Hid (∀ j (hj : j < (Lib.decDigits k).length), s[pos + pre.size + j]'(by have := hml.out; omega) = (Lib.decDigits k)[j])) :
    Calls Tryd.prog 8 #[.string s, .int .i64 pos, .string pre, .int .i64 k] w fun e w' => e = .returned (.int .i64 (s.size : Nat)) ∧ ∃ q, w' = w.drewN q := by
  have HV : Hid _ := valL_dec k
  have HC : Hid (∀ j (hj : j < (Lib.decDigits k).length), 48 ≤ (Lib.decDigits k)[j].toNat ∧ (Lib.decDigits k)[j].toNat ≤ 57) := fun j hj => dec_digit k _ (List.getElem_mem hj)
  have HH : Hid (((Lib.decDigits k)[0]'(dec_pos k)).toNat ≠ 48) := dec_head k hk1
  have hne : pre.toList.isEmpty = false := by
    have e : pre.toList = pre.data.toList := Lib.toList_data pre
    rw [e]
    cases hd : pre.data.toList with
    | nil => have h0 : pre.data.size = 0 := by rw [← Array.length_toList, hd]; rfl
             have : pre.size = pre.data.size := rfl
             omega
    | cons a l => rfl
  go_enter Tryd.func8, Tryd.ntmps8
  go_wp2_with fail
  refine (hasAt_yes s pre pos _ hs (by omega) h1).mono ?_
  rintro e w' ⟨rfl, q, rfl⟩
  go_wp2
  go_loop [1, 10] (fun pv vv => ∃ j : Nat, j ≤ m ∧ pv = .int .i64 ((pos + pre.size + j : Nat) : Int) ∧ vv = .int .i64 (valL ((Lib.decDigits k).take j) 0 : Nat)) (fun pv _ => s.size - (intOf pv).toNat)
  case atStart => exact ⟨0, Nat.zero_le _, by go_num, rfl⟩
  case round =>
    obtain ⟨j, hj, rfl, rfl⟩ := hrel
    have hvk : valL ((Lib.decDigits k).take j) 0 ≤ k := by have := valL_take (Lib.decDigits k) j; rw [HV.out] at this; exact this
    by_cases hlt : j < m
    · have hjl : j < (Lib.decDigits k).length := by rw [hml.out]; exact hlt
      have HS : Hid _ := valL_succ (Lib.decDigits k) j hjl
      obtain ⟨hc1, hc2⟩ := HC.out j hjl
      have hx := congrArg UInt8.toNat (h2.out j hjl)
      generalize (Lib.decDigits k)[j].toNat = c at hc1 hc2 hx HS
      have i1 := ix s ((pos : Int) + (pre.size : Int) + (j : Int)) (pos + pre.size + j) (by omega) (by omega) c hx
      clear hx
      go_wp2
      go_round
      case rel => exact ⟨j + 1, by omega, by go_num, by rw [HS.out]; go_num⟩
      case measure => simp [intOf]; omega
    · obtain rfl : j = m := by omega
      have hfull : (Lib.decDigits k).take j = Lib.decDigits k := List.take_of_length_le (by rw [hml.out]; omega)
      rw [hfull, HV.out]
      have hx := congrArg UInt8.toNat (h2.out 0 (dec_pos k))
      have hh := HH.out
      generalize ((Lib.decDigits k)[0]'(dec_pos k)).toNat = c at hx hh
      have i1 := ix s ((pos : Int) + (pre.size : Int)) (pos + pre.size) (by omega) (by omega) c hx
      have ht : ((c : Int) == 48) = false := by rw [beq_eq_false_iff_ne]; omega
      have ht2 : (((pos : Int) + (pre.size : Int) + (j : Int)) == (pos : Int) + (pre.size : Int)) = false := by rw [beq_eq_false_iff_ne]; omega
      have hdn : decide ((pos : Int) + (pre.size : Int) + (j : Int) < (s.size : Int)) = false := by simp; omega
      clear hx hfull hvk
      go_wp2
      go_ret
      exact ⟨ret_int (by omega), q, rfl⟩
end Go.Proofs.Qxb6605161aDoor
