import Derived.Test.Qxb6605264aWalks
namespace Go.Proofs.Qxb6605264a
open Go.RowKit

theorem app_left (a b : List Int) (i : Nat) (h : i < a.length) : (a ++ b).getD i 0 = a.getD i 0 := by
  simp [List.getD, List.getElem?_append_left h]
theorem app_right (a b : List Int) (i : Nat) : (a ++ b).getD (a.length + i) 0 = b.getD i 0 := by
  rw [List.getD, List.getElem?_append_right (by omega), Nat.add_sub_cancel_left, List.getD]

set_option maxRecDepth 100000 in
set_option maxHeartbeats 1000000 in
theorem split_good (a0 : Option Addr) (len cap : Nat) (zs : List Int) (live cut : Nat) (w : World) (hn : len ≤ 262144) (hlive : live ≤ 65536) (hcut : cut ≤ len) (h : Told .i32 w a0 len zs) :
    Calls Try.prog 4 #[.slice a0 len cap, .int .i64 live, .int .i64 cut] w fun e w' => e = .returned (.bool true) ∧ Below w.heap.size w w' := by
  have HL : Hid (zs.length = len) := h.len
  go_enter Try.func4, Try.ntmps4
  go_wp2_with (go_at_call 11; go_in)
  refine (clone_any _ _ _ zs _ (by omega) h).mono ?_
  rintro e w1 ⟨a1, rfl, r1, hbel1⟩
  clear h
  go_wp2_with fail
  refine (zzLive_any a1 len len zs live _ HL.out (by omega) hlive r1).mono ?_
  rintro e w2 ⟨aw, cw, rfl, rw2, hbel2⟩
  have r12 := r1.later hbel2
  have hbelA := hbel1.trans (hbel2.mono hbel1.size)
  clear r1 hbel1 hbel2
  go_wp2_with fail
  refine (zzLive_any a1 cut len (zs.take cut) live _ (by have := HL.out; simp; omega) (by omega) hlive (r12.take cut)).mono ?_
  rintro e w3 ⟨al, cl, rfl, rl3, hbel3⟩
  have r13 := r12.later hbel3
  have rw3 := rw2.later hbel3
  have hbelB := hbelA.trans (hbel3.mono hbelA.size)
  clear r12 rw2 hbel3 hbelA
  obtain ⟨at', hat⟩ : ∃ at', (if len = cut then a1 else a1.map (fun x => x.add cut)) = at' := ⟨_, rfl⟩
  have HRT : Hid (Row .i32 w3 at' (zs.drop cut)) := by
    rw [← hat]
    exact row_tail (m := len) (cap := len) (zs := zs.take cut) (ls := zs.drop cut) (by rw [List.take_append_drop]; exact r13) (by have := HL.out; simp; omega) (by have := HL.out; simp; omega) (Nat.le_refl _)
  go_wp2_with fail
  refine (zzLive_any at' (len - cut) (len - cut) (zs.drop cut) live _ (by have := HL.out; simp; omega) (by omega) hlive HRT.out).mono ?_
  rintro e w4 ⟨ar, cr, rfl, rr4, hbel4⟩
  have r14 := r13.later hbel4
  have rw4 := rw3.later hbel4
  have rl4 := rl3.later hbel4
  have hbelC := hbelB.trans (hbel4.mono hbelB.size)
  have HC : Hid _ := held_cut zs cut
  have hw0 := held_len zs
  have hs1 : (held (zs.take cut)).length + (held (zs.drop cut)).length ≤ (held zs).length := by rw [← held_cut zs cut, List.length_append]; omega
  have hs2 : (held zs).length ≤ (held (zs.take cut)).length + (held (zs.drop cut)).length := by rw [← held_cut zs cut, List.length_append]; omega
  have hwl : (held zs).length ≤ len := by have := HL.out; omega
  have HN : Hid (∀ i, i < (held zs).length → 0 ≤ (held zs).getD i 0) := fun i hi => held_getD_nonneg zs i hi
  have HF : Hid (∀ k, k = len → zs.take k = zs) := fun k hk => List.take_of_length_le (by have := HL.out; omega)
  clear hat HRT r13 rw3 rl3 hbel4 hbelB hw0
  generalize held (zs.take cut) = LL at *
  generalize held (zs.drop cut) = RR at *
  go_wp2
  go_loop [10, 11] (fun d i => ∃ k m : Nat, k ≤ len ∧ i = .int .i64 k ∧ d = .int .i64 m ∧ m ≤ k ∧ Hid (m + (held (zs.take k)).length = k)) (fun _ i => len - (intOf i).toNat)
  case atStart => exact ⟨0, 0, Nat.zero_le _, rfl, rfl, Nat.le_refl _, rfl⟩
  case round =>
    obtain ⟨k, m, hk, rfl, rfl, hmk, HM⟩ := hrel
    by_cases hlt : k < len
    · rcases r14 with r14 | ⟨b, off, rfl, hc⟩
      · have := HL.out; rw [r14] at this; simp at this; omega
      have hkl : k < zs.length := by have := HL.out; omega
      have d1 := hc k hkl
      have e1 : zs.getD k 0 = zs[k] := by simp [List.getD, hkl]
      rw [e1] at d1
      clear e1 hc
      by_cases h0 : 0 ≤ zs[k]
      · have HH : Hid _ := held_yes zs k hkl h0
        generalize zs[k] = z at d1 h0 HH
        go_wp2
        go_round
        case rel => exact ⟨k + 1, m, by omega, by go_num, rfl, by omega, by show _ = _; rw [HH.out]; have := HM.out; simp; omega⟩
        case measure => simp [intOf]; omega
      · have HH : Hid _ := held_no zs k hkl h0
        generalize zs[k] = z at d1 h0
        go_wp2
        go_round
        case rel => exact ⟨k + 1, m + 1, by omega, by go_num, by go_num, by omega, by show _ = _; rw [HH.out]; have := HM.out; omega⟩
        case measure => simp [intOf]; omega
    · have hm1 : m + (held zs).length ≤ len := by have := HM.out; rw [HF.out k (by omega)] at this; omega
      have hm2 : len ≤ m + (held zs).length := by have := HM.out; rw [HF.out k (by omega)] at this; omega
      have t1 : (((held zs).length : Int) + (m : Int) != (len : Int)) = false := by rw [bne_eq_false_iff_eq]; omega
      have t2 : ((LL.length : Int) + (RR.length : Int) != ((held zs).length : Int)) = false := by rw [bne_eq_false_iff_eq]; omega
      clear r14 HM HF
      generalize held zs = W at *
      go_wp2
      go_loopw [12] (fun i wr => ∃ t q : Nat, t ≤ LL.length ∧ i = .int .i64 t ∧ wr = w4.drewN q) (fun i _ => LL.length - (intOf i).toNat)
      case atStart => exact ⟨0, 0, Nat.zero_le _, rfl, rfl⟩
      case round =>
        obtain ⟨t, q, ht, rfl, rfl⟩ := hrel
        by_cases hlt' : t < LL.length
        · rcases rw4 with rw4 | ⟨bw, ow, rfl, hcw⟩
          · rw [rw4, List.length_nil] at hs1; omega
          rcases rl4 with rl4 | ⟨bl, ol, rfl, hcl⟩
          · rw [rl4] at hlt'; simp at hlt'
          have d1 := hcw t (by omega)
          have d2 := hcl t hlt'
          rw [← HC.out, app_left LL RR t hlt'] at d1
          generalize LL.getD t 0 = x at d1 d2
          clear hcw hcl
          go_wp2
          go_quiet (fail)
          go_wp2
          go_roundw
          case rel => exact ⟨t + 1, _, by omega, by go_num, rfl⟩
          case measure => simp [intOf]; omega
        · clear rl4
          go_wp2
          go_loopw [13] (fun i wr => ∃ u q : Nat, u ≤ RR.length ∧ i = .int .i64 u ∧ wr = w4.drewN q) (fun i _ => RR.length - (intOf i).toNat)
          case atStart => exact ⟨0, q, Nat.zero_le _, rfl, rfl⟩
          case round =>
            clear q
            obtain ⟨u, q, hu, rfl, rfl⟩ := hrel
            by_cases hlu : u < RR.length
            · rcases rw4 with rw4 | ⟨bw, ow, rfl, hcw⟩
              · rw [rw4, List.length_nil] at hs1; omega
              rcases rr4 with rr4 | ⟨br, or, rfl, hcr⟩
              · rw [rr4] at hlu; simp at hlu
              have d1 := hcw (LL.length + u) (by omega)
              have d2 := hcr u hlu
              rw [← HC.out, app_right LL RR u] at d1
              generalize RR.getD u 0 = x at d1 d2
              clear hcw hcr
              go_wp2
              go_quiet (fail)
              go_wp2
              go_roundw
              case rel => exact ⟨u + 1, _, by omega, by go_num, rfl⟩
              case measure => simp [intOf]; omega
            · clear rr4
              go_wp2
              go_loop [14] (fun i => ∃ v : Nat, v ≤ W.length ∧ i = .int .i64 v) (fun i => W.length - (intOf i).toNat)
              case atStart => exact ⟨0, Nat.zero_le _, rfl⟩
              case round =>
                obtain ⟨v, hv, rfl⟩ := hrel
                by_cases hlv : v < W.length
                · rcases rw4 with rw4 | ⟨bw, ow, rfl, hcw⟩
                  · rw [rw4] at hlv; simp at hlv
                  have d1 := hcw v hlv
                  have h0 := HN.out v hlv
                  generalize W.getD v 0 = x at d1 h0
                  clear hcw
                  go_wp2
                  go_round
                  case rel => exact ⟨v + 1, by omega, by go_num⟩
                  case measure => simp [intOf]; omega
                · clear rw4
                  go_wp2
                  go_ret
                  exact ⟨rfl, below_drewN hbelC _⟩

set_option maxRecDepth 100000 in
set_option maxHeartbeats 1000000 in
theorem split_bad (a0 : Option Addr) (len cap : Nat) (live cut : Int) (w : World) (hm : len ≤ maxLen) (HB : Hid (¬ (len ≤ 262144 ∧ 0 ≤ live ∧ live ≤ 65536 ∧ 0 ≤ cut ∧ cut ≤ (len : Int)))) :
    Calls Try.prog 4 #[.slice a0 len cap, .int .i64 live, .int .i64 cut] w fun e w' => e = .returned (.bool true) ∧ Below w.heap.size w w' := by
  unfold maxLen at hm
  by_cases h1 : len ≤ 262144
  · by_cases h2 : 0 ≤ live
    · by_cases h3 : live ≤ 65536
      · by_cases h4 : 0 ≤ cut
        · by_cases h5 : cut ≤ (len : Int)
          · exact absurd ⟨h1, h2, h3, h4, h5⟩ HB.out
          · go_enter Try.func4, Try.ntmps4
            go_wp2_with (go_at_call 11; go_in)
            go_ret
            exact ⟨rfl, Below.refl _ _⟩
        · go_enter Try.func4, Try.ntmps4
          go_wp2_with (go_at_call 11; go_in)
          go_ret
          exact ⟨rfl, Below.refl _ _⟩
      · go_enter Try.func4, Try.ntmps4
        go_wp2_with (go_at_call 11; go_in)
        go_ret
        exact ⟨rfl, Below.refl _ _⟩
    · go_enter Try.func4, Try.ntmps4
      go_wp2_with (go_at_call 11; go_in)
      go_ret
      exact ⟨rfl, Below.refl _ _⟩
  · go_enter Try.func4, Try.ntmps4
    go_wp2_with (go_at_call 11; go_in)
    all_goals
      go_ret
      exact ⟨rfl, Below.refl _ _⟩
end Go.Proofs.Qxb6605264a
