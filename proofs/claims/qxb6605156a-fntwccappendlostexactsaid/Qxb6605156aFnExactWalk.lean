import Derived.Test.Qxb6605156aOwn
import Derived.Test.Qxb6605156aTw
import Derived.Test.Qxb6605156aEqual
import Derived.Test.Qxb6605156aPackets
import Derived.Test.Qxb6605156aTilePlain
namespace Go.Proofs.Qxb6605156a
open Go.RowKit

set_option maxRecDepth 100000 in
set_option maxHeartbeats 1000000 in
theorem exact_bad (base rt fc : Int) (cnt : Nat) (a4 a5 a6 a7 a8 : Option Addr) (n4 n5 n6 n7 n8 c4 c5 c6 c7 c8 : Nat) (w : World)
    (hm4 : n4 ≤ maxLen) (hm5 : n5 ≤ maxLen) (hm6 : n6 ≤ maxLen) (hm7 : n7 ≤ maxLen) (hm8 : n8 ≤ maxLen)
    (HB : Hid (¬ (n4 ≤ 65536 ∧ n5 = n4 ∧ n6 = n4 ∧ n7 ≤ 65536 ∧ n8 ≤ 65536))) :
    Calls Try.prog 5 #[.int .u16 base, .int .u16 cnt, .int .i32 rt, .int .u8 fc, .slice a4 n4 c4, .slice a5 n5 c5, .slice a6 n6 c6, .slice a7 n7 c7, .slice a8 n8 c8] w fun e w' => e = .returned (.bool true) ∧ Below w.heap.size w w' := by
  unfold maxLen at hm4 hm5 hm6 hm7 hm8
  go_enter Try.func5, Try.ntmps5
  go_wp2_with (go_at_call 14; go_in)
  all_goals (try (go_ret; exact ⟨rfl, Below.refl _ _⟩))
  have h5 : (n5 : Int) = (n4 : Int) := by assumption
  have h6 : ((n6 : Int) != (n4 : Int)) = false := by assumption
  have h6' : (n6 : Int) = (n4 : Int) := by simpa using h6
  have h4 : (n4 : Int) ≤ 65536 := by assumption
  have h7 : (n7 : Int) ≤ 65536 := by assumption
  have h8 : (n8 : Int) ≤ 65536 := by assumption
  exact absurd ⟨by omega, by omega, by omega, by omega, by omega⟩ HB.out

theorem row3_later {w w' : World} {a : Option Addr} {seqs : List Int} (h : Row3 w a seqs) (hb : Below w.heap.size w w') : Row3 w' a seqs := by
  rcases h with h | ⟨b, off, hx, hc⟩
  · exact .inl h
  · exact .inr ⟨b, off, hx, fun i hi => cell_later hb (hc i hi)⟩

theorem take_map_succ (zs : List Int) (t : Nat) (h : t < zs.length) : (zs.take (t + 1)).map (Value.int .u16) = (zs.take t).map (Value.int .u16) ++ [.int .u16 (zs.getD t 0)] := by
  rw [List.take_succ_eq_append_getElem h, List.map_append, List.getD, List.getElem?_eq_getElem h]
  rfl

/-- what is gathered when the packets before t are settled -/
def ExpAt (n : Nat) (zs : List Int) (base : Int) (seqs : List Int) (w5 wr : World) (v : Value) (t : Nat) : Prop :=
  wr.ownsRow w5.heap.size 22 1 v (n + (twTo base seqs t).2.length) ((zs ++ (twTo base seqs t).2).map (Value.int .u16)) ∧ Below w5.heap.size w5 wr

theorem expAt_zero {n : Nat} {zs : List Int} (base : Int) (seqs : List Int) {w5 wr : World} {v : Value} (hown : wr.ownsRow w5.heap.size 22 1 v n ((zs.take n).map (Value.int .u16))) (hl : zs.length = n) (hb : Below w5.heap.size w5 wr) :
    ExpAt n zs base seqs w5 wr v 0 := by
  rw [List.take_of_length_le (by omega)] at hown
  exact ⟨by simpa [twTo] using hown, hb⟩

theorem ExpAt.hit {n : Nat} {zs : List Int} {base : Int} {seqs : List Int} {w5 wr : World} {v : Value} {t : Nat} (h : ExpAt n zs base seqs w5 wr v t) (HM : twTo base seqs (t + 1) = ((twTo base seqs t).1 + 1, (twTo base seqs t).2)) :
    ExpAt n zs base seqs w5 wr v (t + 1) := by
  unfold ExpAt at h ⊢
  rw [HM]; exact h

theorem ExpAt.miss {n : Nat} {zs : List Int} {base : Int} {seqs : List Int} {w5 wr w1 : World} {v v' : Value} {t : Nat} {o : Obj} (h : ExpAt n zs base seqs w5 wr v t)
    (HM : twTo base seqs (t + 1) = ((twTo base seqs t).1, (twTo base seqs t).2 ++ [(base + (t : Int)) % 65536]))
    (hown : w1.ownsRow w5.heap.size 22 1 v' (n + (twTo base seqs t).2.length + 1) (zs.map (Value.int .u16) ++ ((twTo base seqs t).2.map (Value.int .u16) ++ [.int .u16 (IntKind.u16.wrap (base + (t : Int)))]))) (hg : (wr.alloc o).grownBy w1 v.ownBlock) :
    ExpAt n zs base seqs w5 w1 v' (t + 1) := by
  refine ⟨?_, (h.2.alloc h.2.size _).grown hg (by have := h.2.size; simp; omega) (fun g hg => (h.1.lt g hg).1)⟩
  rw [HM]
  rw [IntKind.wrap_u16] at hown
  simpa [Nat.add_assoc] using hown

/-- the round that appends a lost number -/
theorem twTo_not (base : Int) (seqs : List Int) (t j : Nat) (hs : ∀ j, j < seqs.length → 0 ≤ seqs.getD j 0 ∧ seqs.getD j 0 < 65536) (ht : t < 65536) (hj : (twTo base seqs t).1 = j) (hd : j < seqs.length → dst16 base seqs j ≠ (t : Int)) :
    twTo base seqs (t + 1) = ((twTo base seqs t).1, (twTo base seqs t).2 ++ [(base + (t : Int)) % 65536]) := by
  refine twTo_miss base seqs t (fun h e => ?_)
  have hlt : j < seqs.length := hj ▸ h
  rw [hj] at e
  exact hd hlt ((dst16_iff base seqs j t (hs j hlt) ht).1 e)

theorem twTo_yes (base : Int) (seqs : List Int) (t j : Nat) (hs : ∀ j, j < seqs.length → 0 ≤ seqs.getD j 0 ∧ seqs.getD j 0 < 65536) (ht : t < 65536) (hj : (twTo base seqs t).1 = j) (hlt : j < seqs.length) (hd : dst16 base seqs j = (t : Int)) :
    twTo base seqs (t + 1) = ((twTo base seqs t).1 + 1, (twTo base seqs t).2) := by
  subst hj
  exact twTo_hit base seqs t hlt ((dst16_iff base seqs _ t (hs _ hlt) ht).2 hd)

set_option maxRecDepth 100000 in
set_option maxHeartbeats 4000000 in
theorem exact_good (base rt fc : Int) (cnt : Nat) (a4 a5 a6 a7 a8 : Option Addr) (n n7 n8 c4 c5 c6 c7 c8 : Nat) (seqs ds zs7 zs : List Int) (B : Nat → Bool) (w : World)
    (hcnt : cnt < 65536) (hn : n ≤ 65536) (hn7 : n7 ≤ 65536) (hn8 : n8 ≤ 65536) (hsb : Hid (∀ j, j < seqs.length → 0 ≤ seqs.getD j 0 ∧ seqs.getD j 0 < 65536))
    (t4 : Told .u16 w a4 n seqs) (r5 : Row .i16 w a5 ds) (hl5 : ds.length = n) (r6 : RowB w a6 n B) (t7 : Told .u8 w a7 n7 zs7) (t8 : Told .u16 w a8 n8 zs) :
    Calls Try.prog 5 #[.int .u16 base, .int .u16 cnt, .int .i32 rt, .int .u8 fc, .slice a4 n c4, .slice a5 n c5, .slice a6 n c6, .slice a7 n7 c7, .slice a8 n8 c8] w fun e w' => e = .returned (.bool true) ∧ Below w.heap.size w w' := by
  obtain ⟨i0, hi, hz0, hz1, hz2⟩ := info_parts Try.info22
  have HL4 : Hid (seqs.length = n) := t4.len
  have r4 := t4.row
  have HL8 : Hid (zs.length = n8) := t8.len
  have HL5 : Hid _ := hl5
  clear hl5
  go_enter Try.func5, Try.ntmps5
  go_wp2_with (go_at_call 14; go_in)
  refine (cloneBytes_any _ _ _ zs7 _ (by omega) t7).mono ?_
  rintro e w1 ⟨a71, rfl, -, hbel1⟩
  clear t7
  have t8a := t8.later hbel1
  go_wp2_with fail
  refine (cloneU16_any _ _ _ zs _ (by omega) t8a).mono ?_
  rintro e w2 ⟨a81, rfl, hown2, hbel2⟩
  have t8b := told_of_own hown2
  clear hown2 t8a t8
  go_wp2_with fail
  refine (cloneU16_any _ _ _ zs _ (by omega) t8b).mono ?_
  rintro e w3 ⟨a82, rfl, hown3, hbel3⟩
  have t8c := t8b.later hbel3
  have r8 := row_of_own hown3
  have hbel : Below w.heap.size w w3 := hbel1.trans ((hbel2.mono hbel1.size).trans (hbel3.mono (Nat.le_trans hbel1.size hbel2.size)))
  clear hown3 t8b hbel1 hbel2 hbel3
  go_wp2_with fail
  have q6 : RowB w3 a6 n B := by
    rcases r6 with h | ⟨b, o, h, hc⟩
    · exact .inl h
    · exact .inr ⟨b, o, h, fun i hi => cell_later hbel (hc i hi)⟩
  refine (packets_any a4 a5 a6 n c4 c5 c6 seqs ds B w3 hn HL4.out HL5.out (r4.later hbel) (r5.later hbel) q6).mono ?_
  rintro e w4 ⟨rfl, p4, hbel4⟩
  have t8d := t8c.later hbel4
  have r8d := r8.later hbel4
  have r4d := r4.later (hbel.trans (hbel4.mono hbel.size))
  have hbelD := hbel.trans (hbel4.mono hbel.size)
  clear q6 r4 r5 r6 t8c r8 hbel hbel4 t4
  go_wp2_with fail
  refine (tw_any w4.heap.size 0 base cnt (some ⟨w3.heap.size, 0, none⟩) n n seqs a81 n8 zs _ hcnt (by omega) (by omega) (by simp) (by simp) (by simp) (by simp) HL4.out (row3_later p4 ((Below.refl _ _).alloc (Nat.le_refl _) _)) (t8d.later ((Below.refl _ _).alloc (Nat.le_refl _) _))).mono ?_
  rintro e w5 ⟨a9, cap9, rfl, t9, -, hbel5⟩
  have hbel6 : Below w4.heap.size w4 w5 := ((Below.refl _ _).alloc (Nat.le_refl _) _).trans (hbel5.mono (by simp))
  have r8e := r8d.later hbel6
  have r4e := r4d.later hbel6
  have hbelE : Below w.heap.size w w5 := hbelD.trans (hbel6.mono hbelD.size)
  have r9 := t9.row
  have hll : (twTo base seqs cnt).2.length ≤ cnt := by have := twTo_bd base seqs cnt; omega
  clear t9 hbel5 hbel6 hbelD r8d r4d p4 t8d
  go_wp2_with (at_make; go_must (refine wpList_make_own _ rfl _ _ 23 rfl w5.heap.size 22 i0 _ 1 Try.underlying23 hi hz0 hz1 _ _ _ (n8 + cnt) rfl rfl (by omega) ?_ ?_ (Nat.le_refl _) ?_))
  · rw [hz2]; omega
  · unfold maxLen; omega
  intro w6 hown6 hgrow6
  have hb6 : Below w5.heap.size w5 w6 := (Below.refl _ _).grown hgrow6 (Nat.le_refl _) (fun k hk => by cases hk)
  clear hgrow6
  obtain ⟨v6, hv6⟩ : ∃ v, v = Value.slice (some ⟨w5.heap.size, 0, none⟩) 0 (n8 + cnt) := ⟨_, rfl⟩
  rw [← hv6] at hown6 ⊢
  clear hv6
  go_wp2
  go_loopw [23, 24] (fun v i wr => ∃ t : Nat, t ≤ n8 ∧ i = .int .i64 t ∧ wr.ownsRow w5.heap.size 22 1 v t ((zs.take t).map (Value.int .u16)) ∧ Below w5.heap.size w5 wr) (fun _ i _ => n8 - (intOf i).toNat)
  case atStart => exact ⟨0, Nat.zero_le _, rfl, hown6, hb6⟩
  case round =>
    clear hown6 hb6
    obtain ⟨t, ht, rfl, hown, hb⟩ := hrel
    by_cases hlt : t < n8
    · rcases r8e with r8e | ⟨b8, o8, rfl, hc8⟩
      · have h1 := HL8.out
        rw [r8e] at h1
        simp at h1
        omega
      have hcx := hc8 t (by have := HL8.out; omega)
      have hcx := cell_later hb hcx
      have HT : Hid _ := take_map_succ zs t (by have := HL8.out; omega)
      generalize zs.getD t 0 = x at hcx HT
      clear hc8
      go_wp2_with (at_builtin; go_must (refine wpList_append_own _ rfl (.tmp 101) (.tmp 106) 23 rfl w5.heap.size 22 i0 (.int .u16 0) 1 2 Try.underlying23 hi hz0 hz1 hz2 rfl (by decide) _ _ _ rfl (hown.alloc _) _ _ _ [.int .u16 x] rfl rfl (cell_one_at _ _ _ _ (by simp)) (ints_oneCell .u16 [_]) (by unfold maxLen; omega) (by omega) (by have := hb.size; simp; omega) ?_))
      intro v' w1' hown' hgrow _
      have R1 : w1'.ownsRow w5.heap.size 22 1 v' (t + 1) ((zs.take (t + 1)).map (Value.int .u16)) := by
        rw [HT.out]
        simpa using hown'
      have R2 : Below w5.heap.size w5 w1' := (hb.alloc hb.size _).grown hgrow (by have := hb.size; simp; omega) (fun g hg => (hown.lt g hg).1)
      clear hown' hgrow hown hb hcx
      go_wp2
      go_roundw
      case rel => exact ⟨t + 1, by omega, by go_num, R1, R2⟩
      case measure => simp [intOf]; omega
    · obtain rfl : t = n8 := by omega
      have hE : Hid _ := expAt_zero base seqs hown HL8.out hb
      clear hown hb r8e
      go_wp2
      go_loopw [23, 25, 26, 27, 28] (fun v st j _ _ wq => ∃ s : Nat, s ≤ cnt ∧ st = .int .i64 s ∧ j = .int .i64 ((twTo base seqs s).1 : Nat) ∧ Hid (ExpAt t zs base seqs w5 wq v s)) (fun _ _ j _ _ _ => n - (intOf j).toNat)
      case atStart => exact ⟨0, Nat.zero_le _, rfl, rfl, hE⟩
      case round =>
        clear hE
        obtain ⟨s, hs, rfl, rfl, hE⟩ := hrel
        by_cases hj : (twTo base seqs s).1 < n
        · have hjl : (twTo base seqs s).1 < seqs.length := by have := HL4.out; omega
          obtain ⟨hd0, hd1⟩ := dst16_bd base seqs (twTo base seqs s).1
          obtain ⟨j, hje⟩ : ∃ j, j = (twTo base seqs s).1 := ⟨_, rfl⟩
          rw [← hje] at hj hjl hd0 hd1 ⊢
          obtain ⟨d, hde⟩ := Int.eq_ofNat_of_zero_le hd0
          rw [hde] at hd1
          have HJ : Hid _ := hje
          have HD : Hid _ := hde
          rcases r4e with r4e | ⟨b4, o4, rfl, hc4⟩
          · rw [r4e] at hjl; simp at hjl
          have hcx := cell_later hE.out.2 (hc4 j hjl)
          have hdx : IntKind.u16.wrap (seqs.getD j 0 - base) = (d : Int) := by rw [IntKind.wrap_u16]; exact hde
          generalize seqs.getD j 0 = x at hcx hdx
          clear hc4 hje hde hd0
          by_cases hin : s ≤ d ∧ d < cnt
          · obtain ⟨hin1, hin2⟩ := hin
            have hq1 : decide (d < s) = false := by simp; omega
            have hq2 : decide (cnt ≤ d) = false := by simp; omega
            go_wp2
            go_loopw [23, 28] (fun v off wq => ∃ u : Nat, s ≤ u ∧ u ≤ d ∧ off = .int .i64 u ∧ Hid ((twTo base seqs u).1 = j) ∧ Hid (ExpAt t zs base seqs w5 wq v u)) (fun _ off _ => d - (intOf off).toNat)
            case atStart => exact ⟨s, Nat.le_refl _, hin1, rfl, HJ.out.symm, hE⟩
            case round =>
              clear hE hcx
              obtain ⟨u, hu1, hu2, rfl, hju, hE⟩ := hrel
              have hlx : (twTo base seqs u).2.length ≤ u := by have := twTo_bd base seqs u; omega
              by_cases hlu : u < d
              · have HM : Hid _ := twTo_not base seqs u j hsb.out (by omega) hju.out (fun _ => by rw [HD.out]; omega)
                go_wp2_with (at_builtin; go_must (refine wpList_append_own _ rfl (.tmp 135) (.tmp 140) 23 rfl w5.heap.size 22 i0 (.int .u16 0) 1 2 Try.underlying23 hi hz0 hz1 hz2 rfl (by decide) _ _ _ rfl (hE.out.1.alloc _) _ _ _ [.int .u16 (IntKind.u16.wrap (base + (u : Int)))] rfl rfl (cell_one_at _ _ _ _ (by simp)) (ints_oneCell .u16 [_]) (by unfold maxLen; omega) (by omega) (by have := hE.out.2.size; simp; omega) ?_))
                intro v' w1' hown' hgrow _
                have R : Hid _ := hE.out.miss HM.out hown' hgrow
                clear hown' hgrow hE
                go_wp2
                go_roundw
                case rel => exact ⟨u + 1, by omega, by omega, by go_num, by show _ = _; rw [HM.out]; exact hju.out, R⟩
                case measure => simp [intOf]; omega
              · obtain rfl : u = d := by omega
                have HM : Hid _ := twTo_yes base seqs u j hsb.out (by omega) hju.out hjl HD.out
                have R : Hid _ := hE.out.hit HM.out
                clear hE
                go_wp2
                go_roundw
                case rel => exact ⟨u + 1, by omega, by go_num, by rw [HM.out, hju.out]; go_num, R⟩
                case measure => simp [intOf]; omega
          · have HNO : Hid (∀ u, s ≤ u → u < cnt → (twTo base seqs s).1 < seqs.length → dst16 base seqs (twTo base seqs s).1 ≠ (u : Int)) := by
              intro u h1 h2 _ he
              rw [← HJ.out, HD.out] at he
              omega
            by_cases hds : d < s
            · skip
              go_wp2
              go_loopw [23, 29] (fun v off wq => ∃ u : Nat, s ≤ u ∧ u ≤ cnt ∧ off = .int .i64 u ∧ Hid ((twTo base seqs u).1 = (twTo base seqs s).1) ∧ Hid (ExpAt t zs base seqs w5 wq v u)) (fun _ off _ => cnt - (intOf off).toNat)
              case atStart => exact ⟨s, Nat.le_refl _, hs, rfl, rfl, hE⟩
              case round =>
                clear hE
                obtain ⟨u, hu1, hu2, rfl, hju, hE⟩ := hrel
                have hlx : (twTo base seqs u).2.length ≤ u := by have := twTo_bd base seqs u; omega
                by_cases hlu : u < cnt
                · have HM : Hid _ := twTo_not base seqs u _ hsb.out (by omega) hju.out (HNO.out u hu1 hlu)
                  go_wp2_with (at_builtin; go_must (refine wpList_append_own _ rfl (.tmp 150) (.tmp 155) 23 rfl w5.heap.size 22 i0 (.int .u16 0) 1 2 Try.underlying23 hi hz0 hz1 hz2 rfl (by decide) _ _ _ rfl (hE.out.1.alloc _) _ _ _ [.int .u16 (IntKind.u16.wrap (base + (u : Int)))] rfl rfl (cell_one_at _ _ _ _ (by simp)) (ints_oneCell .u16 [_]) (by unfold maxLen; omega) (by omega) (by have := hE.out.2.size; simp; omega) ?_))
                  intro v' w1' hown' hgrow _
                  have R : Hid _ := hE.out.miss HM.out hown' hgrow
                  clear hown' hgrow hE
                  go_wp2
                  go_roundw
                  case rel => exact ⟨u + 1, by omega, by omega, by go_num, by show _ = _; rw [HM.out]; exact hju.out, R⟩
                  case measure => simp [intOf]; omega
                · obtain rfl : u = cnt := by omega
                  obtain ⟨ax, capx, hvx⟩ := own_form hE.out.1
                  have hE2 : Hid _ := hvx
                  subst hvx
                  clear hE2
                  have rx : Row .u16 _ ax (zs ++ (twTo base seqs u).2) := row_of_own hE.out.1
                  have ry := r9.later hE.out.2
                  go_wp2_with fail
                  refine (equal_same a9 ax _ _ _ (zs ++ (twTo base seqs u).2) _ (by have := HL8.out; simp; omega) (by omega) ry rx).mono ?_
                  rintro e w7 ⟨rfl, q, rfl⟩
                  clear rx ry
                  go_wp2
                  go_ret
                  exact ⟨rfl, below_drewN (hbelE.trans (hE.out.2.mono hbelE.size)) _⟩
            · have hdc : cnt ≤ d := by omega
              go_wp2
              go_loopw [23, 29] (fun v off wq => ∃ u : Nat, s ≤ u ∧ u ≤ cnt ∧ off = .int .i64 u ∧ Hid ((twTo base seqs u).1 = (twTo base seqs s).1) ∧ Hid (ExpAt t zs base seqs w5 wq v u)) (fun _ off _ => cnt - (intOf off).toNat)
              case atStart => exact ⟨s, Nat.le_refl _, hs, rfl, rfl, hE⟩
              case round =>
                clear hE
                obtain ⟨u, hu1, hu2, rfl, hju, hE⟩ := hrel
                have hlx : (twTo base seqs u).2.length ≤ u := by have := twTo_bd base seqs u; omega
                by_cases hlu : u < cnt
                · have HM : Hid _ := twTo_not base seqs u _ hsb.out (by omega) hju.out (HNO.out u hu1 hlu)
                  go_wp2_with (at_builtin; go_must (refine wpList_append_own _ rfl (.tmp 150) (.tmp 155) 23 rfl w5.heap.size 22 i0 (.int .u16 0) 1 2 Try.underlying23 hi hz0 hz1 hz2 rfl (by decide) _ _ _ rfl (hE.out.1.alloc _) _ _ _ [.int .u16 (IntKind.u16.wrap (base + (u : Int)))] rfl rfl (cell_one_at _ _ _ _ (by simp)) (ints_oneCell .u16 [_]) (by unfold maxLen; omega) (by omega) (by have := hE.out.2.size; simp; omega) ?_))
                  intro v' w1' hown' hgrow _
                  have R : Hid _ := hE.out.miss HM.out hown' hgrow
                  clear hown' hgrow hE
                  go_wp2
                  go_roundw
                  case rel => exact ⟨u + 1, by omega, by omega, by go_num, by show _ = _; rw [HM.out]; exact hju.out, R⟩
                  case measure => simp [intOf]; omega
                · obtain rfl : u = cnt := by omega
                  obtain ⟨ax, capx, hvx⟩ := own_form hE.out.1
                  have hE2 : Hid _ := hvx
                  subst hvx
                  clear hE2
                  have rx : Row .u16 _ ax (zs ++ (twTo base seqs u).2) := row_of_own hE.out.1
                  have ry := r9.later hE.out.2
                  go_wp2_with fail
                  refine (equal_same a9 ax _ _ _ (zs ++ (twTo base seqs u).2) _ (by have := HL8.out; simp; omega) (by omega) ry rx).mono ?_
                  rintro e w7 ⟨rfl, q, rfl⟩
                  clear rx ry
                  go_wp2
                  go_ret
                  exact ⟨rfl, below_drewN (hbelE.trans (hE.out.2.mono hbelE.size)) _⟩
        · have HNO : Hid (∀ u, s ≤ u → u < cnt → (twTo base seqs s).1 < seqs.length → dst16 base seqs (twTo base seqs s).1 ≠ (u : Int)) := by
            intro u h1 h2 h3 he
            have := HL4.out
            omega
          go_wp2
          go_loopw [23, 29] (fun v off wq => ∃ u : Nat, s ≤ u ∧ u ≤ cnt ∧ off = .int .i64 u ∧ Hid ((twTo base seqs u).1 = (twTo base seqs s).1) ∧ Hid (ExpAt t zs base seqs w5 wq v u)) (fun _ off _ => cnt - (intOf off).toNat)
          case atStart => exact ⟨s, Nat.le_refl _, hs, rfl, rfl, hE⟩
          case round =>
            clear hE
            obtain ⟨u, hu1, hu2, rfl, hju, hE⟩ := hrel
            have hlx : (twTo base seqs u).2.length ≤ u := by have := twTo_bd base seqs u; omega
            by_cases hlu : u < cnt
            · have HM : Hid _ := twTo_not base seqs u _ hsb.out (by omega) hju.out (HNO.out u hu1 hlu)
              go_wp2_with (at_builtin; go_must (refine wpList_append_own _ rfl (.tmp 150) (.tmp 155) 23 rfl w5.heap.size 22 i0 (.int .u16 0) 1 2 Try.underlying23 hi hz0 hz1 hz2 rfl (by decide) _ _ _ rfl (hE.out.1.alloc _) _ _ _ [.int .u16 (IntKind.u16.wrap (base + (u : Int)))] rfl rfl (cell_one_at _ _ _ _ (by simp)) (ints_oneCell .u16 [_]) (by unfold maxLen; omega) (by omega) (by have := hE.out.2.size; simp; omega) ?_))
              intro v' w1' hown' hgrow _
              have R : Hid _ := hE.out.miss HM.out hown' hgrow
              clear hown' hgrow hE
              go_wp2
              go_roundw
              case rel => exact ⟨u + 1, by omega, by omega, by go_num, by show _ = _; rw [HM.out]; exact hju.out, R⟩
              case measure => simp [intOf]; omega
            · obtain rfl : u = cnt := by omega
              obtain ⟨ax, capx, hvx⟩ := own_form hE.out.1
              have hE2 : Hid _ := hvx
              subst hvx
              clear hE2
              have rx : Row .u16 _ ax (zs ++ (twTo base seqs u).2) := row_of_own hE.out.1
              have ry := r9.later hE.out.2
              go_wp2_with fail
              refine (equal_same a9 ax _ _ _ (zs ++ (twTo base seqs u).2) _ (by have := HL8.out; simp; omega) (by omega) ry rx).mono ?_
              rintro e w7 ⟨rfl, q, rfl⟩
              clear rx ry
              go_wp2
              go_ret
              exact ⟨rfl, below_drewN (hbelE.trans (hE.out.2.mono hbelE.size)) _⟩
end Go.Proofs.Qxb6605156a
