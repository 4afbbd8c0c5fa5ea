import Derived.Test.Qxb6605156aOwn
import Derived.Test.Qxb6605156aTw
import Derived.Test.Qxb6605156aEqual
import Derived.Test.Qxb6605156aPackets
import Derived.Test.Qxb6605156aTilePlain
namespace Go.Proofs.Qxb6605156a
open Go.RowKit

set_option maxRecDepth 100000 in
set_option maxHeartbeats 1000000 in
theorem tile_bad (base rt fc : Int) (cnt : Nat) (a4 a5 a6 a7 a8 : Option Addr) (n4 n5 n6 n7 n8 c4 c5 c6 c7 c8 : Nat) (w : World)
    (hm4 : n4 ≤ maxLen) (hm5 : n5 ≤ maxLen) (hm6 : n6 ≤ maxLen) (hm7 : n7 ≤ maxLen) (hm8 : n8 ≤ maxLen)
    (HB : Hid (¬ (n4 ≤ 65536 ∧ n5 = n4 ∧ n6 = n4 ∧ n7 ≤ 65536 ∧ n8 ≤ 65536))) :
    Calls Try.prog 6 #[.int .u16 base, .int .u16 cnt, .int .i32 rt, .int .u8 fc, .slice a4 n4 c4, .slice a5 n5 c5, .slice a6 n6 c6, .slice a7 n7 c7, .slice a8 n8 c8] w fun e w' => e = .returned (.bool true) ∧ Below w.heap.size w w' := by
  unfold maxLen at hm4 hm5 hm6 hm7 hm8
  go_enter Try.func6, Try.ntmps6
  go_wp2_with (go_at_call 17; go_in)
  all_goals (try (go_ret; exact ⟨rfl, Below.refl _ _⟩))
  have h5 : (n5 : Int) = (n4 : Int) := by assumption
  have h6 : ((n6 : Int) != (n4 : Int)) = false := by assumption
  have h6' : (n6 : Int) = (n4 : Int) := by simpa using h6
  have h4 : (n4 : Int) ≤ 65536 := by assumption
  have h7 : (n7 : Int) ≤ 65536 := by assumption
  have h8 : (n8 : Int) ≤ 65536 := by assumption
  exact absurd ⟨by omega, by omega, by omega, by omega, by omega⟩ HB.out

theorem row3_later {w w' : World} {a : Option Addr} {seqs : List Int} (h : Row3 w a seqs) (hb : Below w.heap.size w w') : Row3 w' a seqs := by
  rcases h with h | ⟨b, off, hx, hc⟩
  · exact .inl h
  · exact .inr ⟨b, off, hx, fun i hi => cell_later hb (hc i hi)⟩

/-- the tail of a row from n on, at the address that the cut has -/
theorem row_tail {k : IntKind} {w : World} {a : Option Addr} {zs ls : List Int} {n cap m : Nat} (h : Row k w a (zs ++ ls)) (hz : zs.length = n) (hm : n + ls.length = m) (hc : m ≤ cap) :
    Row k w (if cap = n then a else a.map (fun x => x.add n)) ls := by
  split
  · left
    exact List.eq_nil_of_length_eq_zero (by omega)
  · have := h.drop n
    rwa [← hz, List.drop_left, hz] at this

set_option maxRecDepth 100000 in
set_option maxHeartbeats 2000000 in
theorem tile_good (base rt fc : Int) (cnt : Nat) (a4 a5 a6 a7 a8 : Option Addr) (n n7 n8 c4 c5 c6 c7 c8 : Nat) (seqs ds zs7 zs : List Int) (B : Nat → Bool) (w : World)
    (hcnt : cnt < 65536) (hn : n ≤ 65536) (hn7 : n7 ≤ 65536) (hn8 : n8 ≤ 65536) (hsb : Hid (∀ j, j < seqs.length → 0 ≤ seqs.getD j 0 ∧ seqs.getD j 0 < 65536))
    (t4 : Told .u16 w a4 n seqs) (r5 : Row .i16 w a5 ds) (hl5 : ds.length = n) (r6 : RowB w a6 n B) (t7 : Told .u8 w a7 n7 zs7) (t8 : Told .u16 w a8 n8 zs) :
    Calls Try.prog 6 #[.int .u16 base, .int .u16 cnt, .int .i32 rt, .int .u8 fc, .slice a4 n c4, .slice a5 n c5, .slice a6 n c6, .slice a7 n7 c7, .slice a8 n8 c8] w fun e w' => e = .returned (.bool true) ∧ Below w.heap.size w w' := by
  have hl4 := t4.len
  have r4 := t4.row
  go_enter Try.func6, Try.ntmps6
  go_wp2_with (go_at_call 17; go_in)
  go_loop [20, 21, 22] (fun pv i _ => ∃ (k : Nat) (p : Int), k ≤ n ∧ i = .int .i64 k ∧ pv = .int .i64 p ∧ -1 ≤ p ∧ p < 65536 ∧ Rise base seqs cnt k p) (fun _ i _ => n - (intOf i).toNat)
  case atStart => exact ⟨0, -1, Nat.zero_le _, rfl, rfl, by omega, by omega, Rise.zero _ _ _⟩
  case round =>
    obtain ⟨k, p, hk, rfl, rfl, hp0, hp1, hrise⟩ := hrel
    by_cases hlt : k < n
    · rcases r4 with r4 | ⟨b4, o4, rfl, hc4⟩
      · rw [r4] at hl4; simp at hl4; omega
      have hcx := hc4 k (by omega)
      obtain ⟨hd0, hd1⟩ := dst16_bd base seqs k
      have hdx : IntKind.u16.wrap (seqs.getD k 0 - base) = dst16 base seqs k := by rw [IntKind.wrap_u16]; rfl
      generalize seqs.getD k 0 = x at hcx hdx
      clear hc4
      by_cases hp : p < dst16 base seqs k
      · by_cases hq : dst16 base seqs k < (cnt : Int)
        · have hrise' := hrise.succ hp hq
          have HR : Hid _ := hrise'
          clear hrise hrise'
          go_wp2
          go_round
          case rel => exact ⟨_, _, _, ⟨k + 1, by omega, by go_num, _, rfl, by omega, by omega, HR.out⟩, rfl, rfl, rfl⟩
          case measure => simp [intOf]; omega
        · clear hrise
          go_wp2
          go_ret
          exact ⟨rfl, Below.refl _ _⟩
      · clear hrise
        go_wp2
        go_ret
        exact ⟨rfl, Below.refl _ _⟩
    · obtain rfl : k = n := by omega
      have HL4 : Hid _ := hl4
      have hall : (twTo base seqs cnt).1 = k := by
        have := rise_all (cnt := cnt) (p := p) (by rw [hl4]; exact hrise) hsb.out hcnt
        rw [this, hl4]
      have HA : Hid _ := hall
      clear hall hrise hl4
      go_wp2_with fail
      refine (cloneBytes_any _ _ _ zs7 _ (by omega) t7).mono ?_
      rintro e w1 ⟨a71, rfl, -, hbel1⟩
      clear t7
      have t8a := t8.later hbel1
      go_wp2_with fail
      refine (cloneU16_any _ _ _ zs _ (by omega) t8a).mono ?_
      rintro e w2 ⟨a81, rfl, hown2, hbel2⟩
      have t8b := told_of_own hown2
      clear hown2 t8a t8
      go_wp2_with fail
      refine (cloneU16_any _ _ _ zs _ (by omega) t8b).mono ?_
      rintro e w3 ⟨a82, rfl, hown3, hbel3⟩
      have t8c := t8b.later hbel3
      have r8 := row_of_own hown3
      have hbel : Below w.heap.size w w3 := hbel1.trans ((hbel2.mono hbel1.size).trans (hbel3.mono (Nat.le_trans hbel1.size hbel2.size)))
      clear hown3 t8b hbel1 hbel2 hbel3
      go_wp2_with fail
      have q6 : RowB w3 a6 k B := by
        rcases r6 with h | ⟨b, o, h, hc⟩
        · exact .inl h
        · exact .inr ⟨b, o, h, fun i hi => cell_later hbel (hc i hi)⟩
      refine (packets_any a4 a5 a6 k c4 c5 c6 seqs ds B w3 hn HL4.out hl5 (r4.later hbel) (r5.later hbel) q6).mono ?_
      rintro e w4 ⟨rfl, p4, hbel4⟩
      have t8d := t8c.later hbel4
      have r8d := r8.later hbel4
      have r4d := r4.later (hbel.trans (hbel4.mono hbel.size))
      have hbelD := hbel.trans (hbel4.mono hbel.size)
      clear q6 r4 r5 r6 t8c r8 hbel hbel4 t4
      go_wp2_with fail
      refine (tw_any w4.heap.size 0 base cnt (some ⟨w3.heap.size, 0, none⟩) k k seqs a81 n8 zs _ hcnt (by omega) (by omega) (by simp) (by simp) (by simp) (by simp) HL4.out (row3_later p4 ((Below.refl _ _).alloc (Nat.le_refl _) _)) (t8d.later ((Below.refl _ _).alloc (Nat.le_refl _) _))).mono ?_
      rintro e w5 ⟨a9, cap9, rfl, t9, hcap, hbel5⟩
      have hbel6 : Below w4.heap.size w4 w5 := ((Below.refl _ _).alloc (Nat.le_refl _) _).trans (hbel5.mono (by simp))
      have r8e := r8d.later hbel6
      have r4e := r4d.later hbel6
      have hbelE : Below w.heap.size w w5 := hbelD.trans (hbel6.mono hbelD.size)
      have hl8 : zs.length = n8 := t8d.len
      have r9 := t9.row
      have hbd := twTo_bd base seqs cnt
      rw [HA.out] at hbd
      have HAT : Hid (∀ t, t < cnt → ((twTo base seqs t).1 < seqs.length → seqs.getD (twTo base seqs t).1 0 ≠ (base + (t : Int)) % 65536) →
          (twTo base seqs t).2.length < (twTo base seqs cnt).2.length ∧ (twTo base seqs cnt).2.getD (twTo base seqs t).2.length 0 = (base + (t : Int)) % 65536) := fun t ht h => twTo_at base seqs t cnt ht h
      have HLL : Hid ((twTo base seqs cnt).2.length = (twTo base seqs cnt).2.length) := rfl
      generalize hlo : (twTo base seqs cnt).2 = lost at *
      have HLO : Hid _ := hlo
      have hb1 : k + lost.length ≤ cnt := by omega
      have hb2 : cnt ≤ k + lost.length := by omega
      have HL8 : Hid _ := hl8
      have HR9 : Hid _ := row_tail r9 hl8 rfl hcap
      clear hlo hbd t9 hbel5 hbel6 hbelD r8d r4d p4 t8d HLL hl8
      have hne : ((n8 : Int) + (lost.length : Int) != (n8 : Int) + (cnt : Int) - (k : Int)) = false := by
        rw [bne_eq_false_iff_eq]; omega
      go_wp2
      go_loopw [27] (fun i wr => ∃ t q : Nat, t ≤ n8 ∧ i = .int .i64 t ∧ wr = w5.drewN q) (fun i _ => n8 - (intOf i).toNat)
      case atStart => exact ⟨0, 0, Nat.zero_le _, rfl, rfl⟩
      case round =>
        obtain ⟨t, q, ht, rfl, rfl⟩ := hrel
        by_cases hlt : t < n8
        · rcases r9 with r9 | ⟨b9, o9, rfl, hc9⟩
          · have h1 := HL8.out
            rw [(List.append_eq_nil_iff.1 r9).1] at h1
            simp at h1
            omega
          rcases r8e with r8e | ⟨b8, o8, rfl, hc8⟩
          · have h1 := HL8.out
            rw [r8e] at h1
            simp at h1
            omega
          have d1 : w5.cell? ⟨b9, o9 + t, none⟩ = some (.int .u16 (zs.getD t 0)) := by
            rw [hc9 t (by have := HL8.out; simp; omega)]
            simp [List.getD, List.getElem?_append_left (show t < zs.length by have := HL8.out; omega)]
          have d2 := hc8 t (by have := HL8.out; omega)
          generalize zs.getD t 0 = x at d1 d2
          clear hc9 hc8 HR9
          go_wp2
          go_quiet (fail)
          go_wp2
          go_roundw
          case rel => exact ⟨t + 1, _, by omega, by go_num, rfl⟩
          case measure => simp [intOf]; omega
        · obtain rfl : t = n8 := by omega
          clear r9 r8e
          obtain ⟨al, hal⟩ : ∃ al, (if cap9 = t then a9 else a9.map (fun x => x.add t)) = al := ⟨_, rfl⟩
          have HRL : Hid (Row .u16 w5 al lost) := by rw [← hal]; exact HR9.out
          clear HR9
          go_wp2
          clear hal
          go_loop [29, 30, 31, 32] (fun i j off _ => ∃ m : Nat, m ≤ cnt ∧ off = .int .i64 m ∧ j = .int .i64 ((twTo base seqs m).1 : Nat) ∧ i = .int .i64 ((twTo base seqs m).2.length : Nat)) (fun _ _ off _ => cnt - (intOf off).toNat)
          case atStart => exact ⟨0, Nat.zero_le _, rfl, rfl, rfl⟩
          case round =>
            obtain ⟨m, hm, rfl, rfl, rfl⟩ := hrel
            obtain ⟨hb3, hb4⟩ := twTo_bd base seqs m
            by_cases hlt' : m < cnt
            · by_cases hjk : (twTo base seqs m).1 < k
              · rcases r4e with r4e | ⟨b4, o4, rfl, hc4⟩
                · have h1 := HL4.out
                  rw [r4e] at h1
                  simp at h1
                  omega
                have d1 := hc4 (twTo base seqs m).1 (by have := HL4.out; omega)
                obtain ⟨x, hx⟩ : ∃ x, x = seqs.getD (twTo base seqs m).1 0 := ⟨_, rfl⟩
                rw [← hx] at d1
                clear hc4
                by_cases hhit : x = (base + (m : Int)) % 65536
                · have ht : (x == IntKind.u16.wrap (base + (m : Int))) = true := by rw [IntKind.wrap_u16, hhit]; simp
                  have HM : Hid _ := twTo_hit base seqs m (by have := HL4.out; omega) (by rw [← hx]; exact hhit)
                  clear hhit hx
                  go_wp2
                  go_round
                  case rel => exact ⟨m + 1, by omega, by go_num, by rw [HM.out]; go_num, by rw [HM.out]⟩
                  case measure => simp [intOf]; omega
                · have ht : (x == IntKind.u16.wrap (base + (m : Int))) = false := by rw [IntKind.wrap_u16]; simpa using hhit
                  have HM : Hid _ := twTo_miss base seqs m (fun _ => by rw [← hx]; exact hhit)
                  obtain ⟨hi1, hi2⟩ := HAT.out m hlt' (fun _ => by rw [← hx]; exact hhit)
                  have hrl := HRL.out
                  rcases hrl with hrl | ⟨bl, ol, rfl, hcl⟩
                  · rw [hrl] at hi1; simp at hi1
                  have d2 := hcl (twTo base seqs m).2.length hi1
                  rw [hi2] at d2
                  have ht2 : ((base + (m : Int)) % 65536 == IntKind.u16.wrap (base + (m : Int))) = true := by rw [IntKind.wrap_u16]; simp
                  generalize (base + (m : Int)) % 65536 = y at d2 ht2
                  clear hhit hx hcl hi2 HRL
                  go_wp2
                  go_round
                  case rel => exact ⟨m + 1, by omega, by go_num, by rw [HM.out], by rw [HM.out]; simp⟩
                  case measure => simp [intOf]; omega
              · have HM : Hid _ := twTo_miss base seqs m (fun h => by have := HL4.out; omega)
                have hdn : decide (((twTo base seqs m).1 : Int) < (k : Int)) = false := by simp; omega
                obtain ⟨hi1, hi2⟩ := HAT.out m hlt' (fun h => by have := HL4.out; omega)
                have hrl := HRL.out
                rcases hrl with hrl | ⟨bl, ol, rfl, hcl⟩
                · rw [hrl] at hi1; simp at hi1
                have d2 := hcl (twTo base seqs m).2.length hi1
                rw [hi2] at d2
                have ht2 : ((base + (m : Int)) % 65536 == IntKind.u16.wrap (base + (m : Int))) = true := by rw [IntKind.wrap_u16]; simp
                generalize (base + (m : Int)) % 65536 = y at d2 ht2
                clear hcl hi2 HRL
                go_wp2
                go_round
                case rel => exact ⟨m + 1, by omega, by go_num, by rw [HM.out], by rw [HM.out]; simp⟩
                case measure => simp [intOf]; omega
            · obtain rfl : m = cnt := by omega
              rw [HA.out, HLO.out]
              clear hb3 hb4 r4e
              go_wp2
              go_ret
              exact ⟨rfl, below_drewN hbelE _⟩
end Go.Proofs.Qxb6605156a
