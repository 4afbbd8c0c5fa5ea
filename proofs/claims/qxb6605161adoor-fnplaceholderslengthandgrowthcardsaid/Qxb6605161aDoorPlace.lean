import Derived.Test.Qxb6605161aDoorWalks
namespace Go.Proofs.Qxb6605161aDoor
open Go.RowKit Go.Sort

theorem fresh_builder (w : World) : Lib.IsBuilder 30 5 w.heap.size w.heap.size (Lib.byteCells []) (w.alloc (.cells #[.pointer none, .slice none 0 0] 30)) :=
  .inl ⟨Nat.le_refl _, .slice none 0 0, heap_alloc_new w _, World.ownsRow_nil _ _ _ _, by simp [Value.ownBlock]⟩

theorem bytes_more (l : List UInt8) (s : ByteArray) : Lib.byteCells l ++ Lib.strCells s = Lib.byteCells (l ++ s.data.toList) := by
  rw [Lib.strCells_eq]; simp [Lib.byteCells]

theorem ph_bound (pre : ByteArray) (k : Nat) (hk : k ≤ 65536) (hp : pre.size ≤ 4096) : (ph pre.data.toList k).length ≤ 268894208 := by
  have h1 := ph_le pre.data.toList k (by omega)
  have h0 : pre.data.toList.length = pre.size := Array.length_toList
  have h3 := Nat.mul_le_mul hk (show pre.data.toList.length + 7 ≤ 4103 by omega)
  exact Nat.le_trans h1 (Nat.le_trans h3 (by decide))

theorem writeB (B : Nat) (l : List UInt8) (s : ByteArray) (w : World) (h : Lib.IsBuilder 30 5 B B (Lib.byteCells l) w) (hl : l.length ≤ 300000000) (hs : s.size ≤ 10000) (hBw : B ≤ w.heap.size) :
    Calls Tryd.prog 10 #[.pointer (some ⟨B, 0, none⟩), .string s] w fun e w' => e = .returned (.tuple #[.int .i64 s.size, .nilIface]) ∧ Hid (Lib.IsBuilder 30 5 B B (Lib.byteCells (l ++ s.data.toList)) w') ∧ Below B w w' := by
  refine (writeString_any B B _ s w h (by rw [Lib.byteCells_length]; omega) hBw).mono ?_
  rintro e w' ⟨rfl, h1, h2⟩
  rw [bytes_more] at h1
  exact ⟨rfl, .inr h1, h2⟩

theorem itoa_at (i : Int) (n : Nat) (hi : i = (n : Int)) (h1 : n ≤ 9223372036854775807) (w : World) (htab : Lib.TabIs Tryd.prog w powName .u64 Lib.pow10Tab) :
    Calls Tryd.prog 11 #[.int .i64 i] w fun e w' => e = .returned (.string ⟨(Lib.decDigits n).toArray⟩) ∧ ∃ k os, w' = grow (w.drewN k) os := by
  subst hi
  exact itoa_any n h1 w htab

theorem ret_str {a b : List UInt8} (h : a = b) : Ending.returned (.string ⟨a.toArray⟩) = .returned (.string ⟨b.toArray⟩) := by rw [h]
theorem fieldB_empty (pre : ByteArray) (k : Nat) (h : pre.toList.isEmpty = true) : fieldB pre.data.toList k = [63] := by
  rw [Lib.toList_data] at h
  unfold fieldB
  rw [if_pos (by simpa using h)]
theorem fieldB_some (pre : ByteArray) (k : Nat) (h : pre.toList.isEmpty = false) : fieldB pre.data.toList k = (pre ++ ⟨(Lib.decDigits k).toArray⟩ : ByteArray).data.toList := by
  rw [Lib.toList_data] at h
  unfold fieldB
  rw [if_neg (by intro e; rw [e] at h; simp at h)]
  simp
theorem cat_size (pre : ByteArray) (ds : List UInt8) : (pre ++ ⟨ds.toArray⟩ : ByteArray).size = pre.size + ds.length := by
  rw [ByteArray.size_append]; rfl

set_option maxHeartbeats 1000000 in
theorem place_any (n : Int) (pre : ByteArray) (w : World) (hn : n ≤ 65536) (hp : pre.size ≤ 4096) (htab : Lib.TabIs Tryd.prog w powName .u64 Lib.pow10Tab) :
    Calls Tryd.prog 9 #[.int .i64 n, .string pre] w fun e w' => e = .returned (.string ⟨(ph pre.data.toList n.toNat).toArray⟩) ∧ Below w.heap.size w w' := by
  have HT : Hid (Lib.TabBelow Tryd.prog w.heap.size w powName .u64 Lib.pow10Tab) := Lib.tabBelow_of_tabIs htab
  have hb0 := fresh_builder w
  clear htab
  go_enter Tryd.func9, Tryd.ntmps9
  go_wp2
  go_loopw [6, 8] (fun _ i wr => ∃ k : Nat, k ≤ n.toNat ∧ i = .int .i64 k ∧ Hid (Lib.IsBuilder 30 5 w.heap.size w.heap.size (Lib.byteCells (ph pre.data.toList k)) wr) ∧ Below w.heap.size w wr) (fun _ i _ => n.toNat - (intOf i).toNat)
  case atStart => exact ⟨0, Nat.zero_le _, rfl, hb0, (Below.refl _ _).alloc (Nat.le_refl _) _⟩
  case round =>
    clear hb0
    obtain ⟨k, hk, rfl, HI, hbel⟩ := hrel
    have hlb := ph_bound pre k (by omega) hp
    have hbs := hbel.size
    by_cases hlt : (k : Int) < n
    · by_cases hk0 : k = 0
      · have hk1 : decide (0 < (k : Int)) = false := by simp; omega
        have HE : Hid (ph pre.data.toList k ++ fieldB pre.data.toList (k + 1) = ph pre.data.toList (k + 1)) := by
          show _ = _
          rw [hk0]; simp [ph]
        generalize hl : ph pre.data.toList k = l at HI hlb HE
        clear hl
        by_cases he : pre.toList.isEmpty = true
        · rw [fieldB_empty pre (k + 1) he] at HE
          go_wp2_with fail
          refine (writeB w.heap.size l ⟨#[63]⟩ _ HI.out (by omega) (by decide) hbs).mono ?_
          rintro e w2 ⟨rfl, HI2, hbel2⟩
          have R1 : Hid (Lib.IsBuilder 30 5 w.heap.size w.heap.size (Lib.byteCells (ph pre.data.toList (k + 1))) w2) := by rw [← HE.out]; exact HI2
          have R2 := hbel.trans hbel2
          clear HI HI2 HE hbel hbel2 hbs
          go_wp2
          go_roundw
          case rel => exact ⟨k + 1, by omega, by go_num, R1, R2⟩
          case measure => simp [intOf]; omega
        · have he' : pre.toList.isEmpty = false := by simpa using he
          rw [fieldB_some pre (k + 1) he'] at HE
          have hdl : (Lib.decDigits (k + 1)).length ≤ 5 := by rw [Lib.decDigits_length]; exact nd_le _ (by omega)
          clear he
          go_wp2_with fail
          refine (itoa_at _ (k + 1) (by omega) (by omega) _ (HT.out _ hbel)).mono ?_
          rintro e w2 ⟨rfl, kk, os, hw2⟩
          have HI1 : Hid (Lib.IsBuilder 30 5 w.heap.size w.heap.size (Lib.byteCells l) w2) := by rw [hw2]; exact builder_grown HI.out (grow_grown _ kk os)
          have hbel1 : Below w.heap.size w w2 := by rw [hw2]; exact grow_below hbel hbs kk os
          have hbs1 := hbel1.size
          clear HI hbel hw2 hbs
          generalize Lib.decDigits (k + 1) = ds at hdl HE ⊢
          have hcs := cat_size pre ds
          have HS : Hid _ := hcs
          clear hcs
          go_wp2_with fail
          refine (writeB w.heap.size l (pre ++ ByteArray.mk ds.toArray) _ HI1.out (by omega) (by rw [HS.out]; omega) hbs1).mono ?_
          rintro e w3 ⟨rfl, HI2, hbel2⟩
          have R1 : Hid (Lib.IsBuilder 30 5 w.heap.size w.heap.size (Lib.byteCells (ph pre.data.toList (k + 1))) w3) := by rw [← HE.out]; exact HI2
          have R2 := hbel1.trans hbel2
          clear HI1 HI2 HE hbel1 hbel2 hbs1
          go_wp2
          go_roundw
          case rel => exact ⟨k + 1, by omega, by go_num, R1, R2⟩
          case measure => simp [intOf]; omega
      · have hk1 : 0 < (k : Int) := by omega
        have HE : Hid (ph pre.data.toList k ++ [44, 32] ++ fieldB pre.data.toList (k + 1) = ph pre.data.toList (k + 1)) := (ph_more pre.data.toList k (by omega)).symm
        go_wp2_with fail
        refine (writeB w.heap.size _ ⟨#[44, 32]⟩ _ HI.out (by omega) (by decide) hbs).mono ?_
        rintro e w1 ⟨rfl, HI0, hbel0⟩
        have hbelQ := hbel.trans hbel0
        have hlb2 : (ph pre.data.toList k ++ [44, 32]).length ≤ 268894210 := by simp; omega
        clear HI hbel hbel0 hbs
        have hbel := hbelQ
        clear hbelQ
        have hbs := hbel.size
        have HI : Hid (Lib.IsBuilder 30 5 w.heap.size w.heap.size (Lib.byteCells (ph pre.data.toList k ++ [44, 32])) w1) := HI0
        clear HI0
        generalize hl : ph pre.data.toList k ++ [44, 32] = l at HI hlb2 HE
        clear hl hlb
        by_cases he : pre.toList.isEmpty = true
        · rw [fieldB_empty pre (k + 1) he] at HE
          go_wp2_with fail
          refine (writeB w.heap.size l ⟨#[63]⟩ _ HI.out (by omega) (by decide) hbs).mono ?_
          rintro e w2 ⟨rfl, HI2, hbel2⟩
          have R1 : Hid (Lib.IsBuilder 30 5 w.heap.size w.heap.size (Lib.byteCells (ph pre.data.toList (k + 1))) w2) := by rw [← HE.out]; exact HI2
          have R2 := hbel.trans hbel2
          clear HI HI2 HE hbel hbel2 hbs
          go_wp2
          go_roundw
          case rel => exact ⟨k + 1, by omega, by go_num, R1, R2⟩
          case measure => simp [intOf]; omega
        · have he' : pre.toList.isEmpty = false := by simpa using he
          rw [fieldB_some pre (k + 1) he'] at HE
          have hdl : (Lib.decDigits (k + 1)).length ≤ 5 := by rw [Lib.decDigits_length]; exact nd_le _ (by omega)
          clear he
          go_wp2_with fail
          refine (itoa_at _ (k + 1) (by omega) (by omega) _ (HT.out _ hbel)).mono ?_
          rintro e w2 ⟨rfl, kk, os, hw2⟩
          have HI1 : Hid (Lib.IsBuilder 30 5 w.heap.size w.heap.size (Lib.byteCells l) w2) := by rw [hw2]; exact builder_grown HI.out (grow_grown _ kk os)
          have hbel1 : Below w.heap.size w w2 := by rw [hw2]; exact grow_below hbel hbs kk os
          have hbs1 := hbel1.size
          clear HI hbel hw2 hbs
          generalize Lib.decDigits (k + 1) = ds at hdl HE ⊢
          have hcs := cat_size pre ds
          have HS : Hid _ := hcs
          clear hcs
          go_wp2_with fail
          refine (writeB w.heap.size l (pre ++ ByteArray.mk ds.toArray) _ HI1.out (by omega) (by rw [HS.out]; omega) hbs1).mono ?_
          rintro e w3 ⟨rfl, HI2, hbel2⟩
          have R1 : Hid (Lib.IsBuilder 30 5 w.heap.size w.heap.size (Lib.byteCells (ph pre.data.toList (k + 1))) w3) := by rw [← HE.out]; exact HI2
          have R2 := hbel1.trans hbel2
          clear HI1 HI2 HE hbel1 hbel2 hbs1
          go_wp2
          go_roundw
          case rel => exact ⟨k + 1, by omega, by go_num, R1, R2⟩
          case measure => simp [intOf]; omega
    · go_wp2_with fail
      refine (string_any w.heap.size w.heap.size (ph pre.data.toList k) _ HI.out hbs).mono ?_
      rintro e w2 ⟨rfl, hbel2⟩
      have R2 := hbel.trans hbel2
      have HK : Hid (k = n.toNat) := by show _ = _; omega
      clear HI hbel hbel2 hbs
      go_wp2
      go_ret
      exact ⟨ret_str (by rw [HK.out]), R2⟩

set_option maxHeartbeats 400000 in
theorem zzPlace_any (n : Int) (pre : ByteArray) (w : World) (hn : n ≤ 65536) (hp : pre.size ≤ 4096) (htab : Lib.TabIs Tryd.prog w powName .u64 Lib.pow10Tab) :
    Calls Tryd.prog 5 #[.int .i64 n, .string pre] w fun e w' => e = .returned (.string ⟨(ph pre.data.toList n.toNat).toArray⟩) ∧ Below w.heap.size w w' := by
  have HT : Hid _ := htab
  clear htab
  go_enter Tryd.func5, Tryd.ntmps5
  go_wp2_with fail
  refine (place_any n pre w hn hp HT.out).mono ?_
  rintro e w' ⟨rfl, hb⟩
  go_wp2
  go_ret
  exact ⟨rfl, hb⟩
end Go.Proofs.Qxb6605161aDoor
