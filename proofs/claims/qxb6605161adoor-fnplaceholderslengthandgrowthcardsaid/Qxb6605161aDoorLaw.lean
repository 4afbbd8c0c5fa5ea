import Derived.Test.Qxb6605161aDoorAny
namespace Go.Proofs.Qxb6605161aDoor
open Go.RowKit

theorem mk_size (l : List UInt8) : (ByteArray.mk l.toArray).size = l.length := rfl
theorem mk_data (l : List UInt8) : (ByteArray.mk l.toArray).data.toList = l := rfl


set_option maxRecDepth 100000 in
set_option maxHeartbeats 1000000 in
theorem law_neg (n : Int) (pre : ByteArray) (w : World) (hlo : -9223372036854775808 ≤ n) (hn : n ≤ -1) (hL : pre.size ≤ 4096) (HT : Hid (Lib.TabBelow Tryd.prog w.heap.size w powName .u64 Lib.pow10Tab)) :
    Calls Tryd.prog 3 #[.int .i64 n, .string pre] w fun e w' => e = .returned (.bool true) ∧ Below w.heap.size w w' := by
  go_enter Tryd.func3, Tryd.ntmps3
  go_wp2_with (go_at_call 4; go_in)
  refine (zzPlace_any n pre _ (by omega) hL HT.out.here).mono ?_
  rintro e w1 ⟨rfl, hb1⟩
  have HT1 : Hid (Lib.TabIs Tryd.prog w1 powName .u64 Lib.pow10Tab) := HT.out _ hb1
  obtain ⟨A, hA⟩ : ∃ A : ByteArray, A = ⟨(ph pre.data.toList n.toNat).toArray⟩ := ⟨_, rfl⟩
  have HA1 : Hid (A.size = (ph pre.data.toList n.toNat).length) := by rw [hA]; rfl
  have HA2 : Hid (A.data.toList = ph pre.data.toList n.toNat) := by rw [hA]; exact mk_data _
  rw [← hA]
  clear hA
  go_wp2_with fail
  refine (zzPlace_any (n + 1) pre _ (by omega) hL HT1.out).mono ?_
  rintro e w2 ⟨rfl, hb2⟩
  have hbel : Below w.heap.size w w2 := hb1.trans (hb2.mono hb1.size)
  obtain ⟨B, hB⟩ : ∃ B : ByteArray, B = ⟨(ph pre.data.toList (n + 1).toNat).toArray⟩ := ⟨_, rfl⟩
  have HB1 : Hid (B.size = (ph pre.data.toList (n + 1).toNat).length) := by rw [hB]; rfl
  have HB2 : Hid (B.data.toList = ph pre.data.toList (n + 1).toNat) := by rw [hB]; exact mk_data _
  rw [← hB]
  have hAs : A.size ≤ 268894208 := by rw [HA1.out]; exact ph_bound pre _ (by omega) hL
  have hBs : B.size ≤ 268894208 := by rw [HB1.out]; exact ph_bound pre _ (by omega) hL
  clear hB hb1 hb2 HT HT1
  go_wp2_with fail
  refine (want_any n _ pre _ rfl (by omega) hL).mono ?_
  rintro e w3 ⟨rfl, hw3⟩
  rw [← HA1.out, hw3]
  clear hw3 w3
  go_wp2_with fail
  refine (want_any (n + 1) _ pre _ rfl (by omega) hL).mono ?_
  rintro e w4 ⟨rfl, hw4⟩
  rw [← HB1.out, hw4]
  clear hw4 w4
  have hAe : A = ⟨#[]⟩ := ba_nil A (by rw [HA1.out, show n.toNat = 0 by omega]; rfl)
  have hBe : B = ⟨#[]⟩ := ba_nil B (by rw [HB1.out, show (n + 1).toNat = 0 by omega]; rfl)
  subst hAe
  subst hBe
  clear HA1 HA2 HB1 HB2 hAs hBs
  go_wp2
  go_ret
  exact ⟨rfl, hbel⟩

set_option maxRecDepth 100000 in
set_option maxHeartbeats 1000000 in
theorem law_zero (n : Int) (pre : ByteArray) (w : World) (hn0 : 0 ≤ n) (hn : n ≤ 0) (hL : pre.size ≤ 4096) (HT : Hid (Lib.TabBelow Tryd.prog w.heap.size w powName .u64 Lib.pow10Tab))
    (hp0 : 0 ≤ (n + 1) * ((pre.size : Int) + 7)) (hp1 : (n + 1) * ((pre.size : Int) + 7) ≤ 4194304) :
    Calls Tryd.prog 3 #[.int .i64 n, .string pre] w fun e w' => e = .returned (.bool true) ∧ Below w.heap.size w w' := by
  go_enter Tryd.func3, Tryd.ntmps3
  go_wp2_with (go_at_call 4; go_in)
  refine (zzPlace_any n pre _ (by omega) hL HT.out.here).mono ?_
  rintro e w1 ⟨rfl, hb1⟩
  have HT1 : Hid (Lib.TabIs Tryd.prog w1 powName .u64 Lib.pow10Tab) := HT.out _ hb1
  obtain ⟨A, hA⟩ : ∃ A : ByteArray, A = ⟨(ph pre.data.toList n.toNat).toArray⟩ := ⟨_, rfl⟩
  have HA1 : Hid (A.size = (ph pre.data.toList n.toNat).length) := by rw [hA]; rfl
  have HA2 : Hid (A.data.toList = ph pre.data.toList n.toNat) := by rw [hA]; exact mk_data _
  rw [← hA]
  clear hA
  go_wp2_with fail
  refine (zzPlace_any (n + 1) pre _ (by omega) hL HT1.out).mono ?_
  rintro e w2 ⟨rfl, hb2⟩
  have hbel : Below w.heap.size w w2 := hb1.trans (hb2.mono hb1.size)
  obtain ⟨B, hB⟩ : ∃ B : ByteArray, B = ⟨(ph pre.data.toList (n + 1).toNat).toArray⟩ := ⟨_, rfl⟩
  have HB1 : Hid (B.size = (ph pre.data.toList (n + 1).toNat).length) := by rw [hB]; rfl
  have HB2 : Hid (B.data.toList = ph pre.data.toList (n + 1).toNat) := by rw [hB]; exact mk_data _
  rw [← hB]
  have hAs : A.size ≤ 268894208 := by rw [HA1.out]; exact ph_bound pre _ (by omega) hL
  have hBs : B.size ≤ 268894208 := by rw [HB1.out]; exact ph_bound pre _ (by omega) hL
  clear hB hb1 hb2 HT HT1
  go_wp2_with fail
  refine (want_any n _ pre _ rfl (by omega) hL).mono ?_
  rintro e w3 ⟨rfl, hw3⟩
  rw [← HA1.out, hw3]
  clear hw3 w3
  go_wp2_with fail
  refine (want_any (n + 1) _ pre _ rfl (by omega) hL).mono ?_
  rintro e w4 ⟨rfl, hw4⟩
  rw [← HB1.out, hw4]
  clear hw4 w4
  have hAe : A = ⟨#[]⟩ := ba_nil A (by rw [HA1.out, show n.toNat = 0 by omega]; rfl)
  subst hAe
  have HB3 : Hid (B.data.toList = [] ++ fieldB pre.data.toList 1) := by show _ = _; rw [HB2.out, show (n + 1).toNat = 1 by omega, ph_one]; rfl
  clear HA1 HA2 HB1 HB2 hAs
  go_wp2_with fail
  refine (field_any B pre _ _ 0 1 (by omega) (by omega) [] rfl HB3.out (by omega) (by omega) _ (by omega)).mono ?_
  rintro e w5 ⟨rfl, q5, rfl⟩
  go_wp2
  go_ret
  exact ⟨rfl, below_drewN hbel _⟩

set_option maxRecDepth 100000 in
set_option maxHeartbeats 1000000 in
theorem law_pos (n : Int) (m : Nat) (pre : ByteArray) (w : World) (hm : Hid (n = (m : Int))) (hn0 : 1 ≤ n) (hn : n < 65536) (hL : pre.size ≤ 4096) (HT : Hid (Lib.TabBelow Tryd.prog w.heap.size w powName .u64 Lib.pow10Tab))
    (hp0 : 0 ≤ (n + 1) * ((pre.size : Int) + 7)) (hp1 : (n + 1) * ((pre.size : Int) + 7) ≤ 4194304) :
    Calls Tryd.prog 3 #[.int .i64 n, .string pre] w fun e w' => e = .returned (.bool true) ∧ Below w.heap.size w w' := by
  go_enter Tryd.func3, Tryd.ntmps3
  go_wp2_with (go_at_call 4; go_in)
  refine (zzPlace_any n pre _ (by omega) hL HT.out.here).mono ?_
  rintro e w1 ⟨rfl, hb1⟩
  have HT1 : Hid (Lib.TabIs Tryd.prog w1 powName .u64 Lib.pow10Tab) := HT.out _ hb1
  obtain ⟨A, hA⟩ : ∃ A : ByteArray, A = ⟨(ph pre.data.toList n.toNat).toArray⟩ := ⟨_, rfl⟩
  have HA1 : Hid (A.size = (ph pre.data.toList n.toNat).length) := by rw [hA]; rfl
  have HA2 : Hid (A.data.toList = ph pre.data.toList n.toNat) := by rw [hA]; exact mk_data _
  rw [← hA]
  clear hA
  go_wp2_with fail
  refine (zzPlace_any (n + 1) pre _ (by omega) hL HT1.out).mono ?_
  rintro e w2 ⟨rfl, hb2⟩
  have hbel : Below w.heap.size w w2 := hb1.trans (hb2.mono hb1.size)
  obtain ⟨B, hB⟩ : ∃ B : ByteArray, B = ⟨(ph pre.data.toList (n + 1).toNat).toArray⟩ := ⟨_, rfl⟩
  have HB1 : Hid (B.size = (ph pre.data.toList (n + 1).toNat).length) := by rw [hB]; rfl
  have HB2 : Hid (B.data.toList = ph pre.data.toList (n + 1).toNat) := by rw [hB]; exact mk_data _
  rw [← hB]
  have hAs : A.size ≤ 268894208 := by rw [HA1.out]; exact ph_bound pre _ (by omega) hL
  have hBs : B.size ≤ 268894208 := by rw [HB1.out]; exact ph_bound pre _ (by omega) hL
  clear hB hb1 hb2 HT HT1
  go_wp2_with fail
  refine (want_any n _ pre _ rfl (by omega) hL).mono ?_
  rintro e w3 ⟨rfl, hw3⟩
  rw [← HA1.out, hw3]
  clear hw3 w3
  go_wp2_with fail
  refine (want_any (n + 1) _ pre _ rfl (by omega) hL).mono ?_
  rintro e w4 ⟨rfl, hw4⟩
  rw [← HB1.out, hw4]
  clear hw4 w4
  have HB3 : Hid (B.data.toList = A.data.toList ++ [44, 32] ++ fieldB pre.data.toList (m + 1)) := by
    show _ = _
    have := hm.out
    rw [HB2.out, HA2.out, show (n + 1).toNat = m + 1 by omega, show n.toNat = m by omega, ph_more _ _ (by omega)]
  clear HA1 HA2 HB1 HB2
  go_wp2_with fail
  refine (hasAt_at B A _ 0 (by omega) [] ([44, 32] ++ fieldB pre.data.toList (m + 1)) rfl (by rw [HB3.out, List.nil_append, List.append_assoc]) _ (by omega)).mono ?_
  rintro e w5 ⟨rfl, q5, rfl⟩
  go_wp2_with fail
  refine (hasAt_at B (ByteArray.mk #[44, 32]) _ A.size (by omega) A.data.toList (fieldB pre.data.toList (m + 1)) (ba_len A) (by rw [HB3.out, List.append_assoc]) _ (by omega)).mono ?_
  rintro e w6 ⟨rfl, q6, rfl⟩
  go_wp2_with fail
  refine (field_any B pre _ _ (A.size + 2) (m + 1) (by omega) (by have := hm.out; omega) (A.data.toList ++ [44, 32]) (by rw [List.length_append, ba_len]; rfl) HB3.out (by omega) (by have := hm.out; omega) _ (by omega)).mono ?_
  rintro e w7 ⟨rfl, q7, rfl⟩
  go_wp2
  go_ret
  exact ⟨rfl, below_drewN hbel _⟩

set_option maxRecDepth 100000 in
set_option maxHeartbeats 1000000 in
theorem law_long (n : Int) (pre : ByteArray) (w : World) (hL : 4096 < pre.size) (hm : pre.size ≤ maxLen) :
    Calls Tryd.prog 3 #[.int .i64 n, .string pre] w fun e w' => e = .returned (.bool true) ∧ Below w.heap.size w w' := by
  unfold maxLen at hm
  go_enter Tryd.func3, Tryd.ntmps3
  go_wp2_with (go_at_call 4; go_in)
  all_goals
    go_ret
    exact ⟨rfl, Below.refl _ _⟩

set_option maxRecDepth 100000 in
set_option maxHeartbeats 1000000 in
theorem law_great (n : Int) (pre : ByteArray) (w : World) (hL : pre.size ≤ 4096) (hn : 65536 ≤ n) :
    Calls Tryd.prog 3 #[.int .i64 n, .string pre] w fun e w' => e = .returned (.bool true) ∧ Below w.heap.size w w' := by
  go_enter Tryd.func3, Tryd.ntmps3
  go_wp2_with (go_at_call 4; go_in)
  go_ret
  exact ⟨rfl, Below.refl _ _⟩

set_option maxRecDepth 100000 in
set_option maxHeartbeats 1000000 in
theorem law_wide (n : Int) (pre : ByteArray) (w : World) (hL : pre.size ≤ 4096) (hn0 : 0 ≤ n) (hn : n < 65536) (hp0 : (n + 1) * ((pre.size : Int) + 7) ≤ 268894208) (hp1 : 4194304 < (n + 1) * ((pre.size : Int) + 7)) :
    Calls Tryd.prog 3 #[.int .i64 n, .string pre] w fun e w' => e = .returned (.bool true) ∧ Below w.heap.size w w' := by
  go_enter Tryd.func3, Tryd.ntmps3
  go_wp2_with (go_at_call 4; go_in)
  go_ret
  exact ⟨rfl, Below.refl _ _⟩

theorem law_all (n : Int) (pre : ByteArray) (w : World) (hlo : -9223372036854775808 ≤ n) (hm : pre.size ≤ maxLen) (htab : Lib.TabIs Tryd.prog w powName .u64 Lib.pow10Tab) :
    Calls Tryd.prog 3 #[.int .i64 n, .string pre] w fun e w' => e = .returned (.bool true) ∧ Below w.heap.size w w' := by
  have HT := Lib.tabBelow_of_tabIs htab
  by_cases hL : pre.size ≤ 4096
  · by_cases hn : n < 65536
    · by_cases hneg : n ≤ -1
      · exact law_neg n pre w hlo hneg hL HT
      · have hb0 : 0 ≤ (n + 1) * ((pre.size : Int) + 7) := Int.mul_nonneg (by omega) (by omega)
        have hb1 : (n + 1) * ((pre.size : Int) + 7) ≤ 268894208 := by
          have h1 : (n + 1) * ((pre.size : Int) + 7) ≤ 65536 * ((pre.size : Int) + 7) := Int.mul_le_mul_of_nonneg_right (by omega) (by omega)
          omega
        by_cases hw : (n + 1) * ((pre.size : Int) + 7) ≤ 4194304
        · by_cases h0 : n ≤ 0
          · exact law_zero n pre w (by omega) h0 hL HT hb0 hw
          · obtain ⟨m, hm'⟩ := Int.eq_ofNat_of_zero_le (show 0 ≤ n by omega)
            exact law_pos n m pre w hm' (by omega) hn hL HT hb0 hw
        · exact law_wide n pre w hL (by omega) hn hb1 (by omega)
    · exact law_great n pre w hL (by omega)
  · exact law_long n pre w (by omega) hm
end Go.Proofs.Qxb6605161aDoor
