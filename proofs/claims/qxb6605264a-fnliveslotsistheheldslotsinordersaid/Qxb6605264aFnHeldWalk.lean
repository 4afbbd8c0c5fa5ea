import Derived.Test.Qxb6605264aWalks
namespace Go.Proofs.Qxb6605264a
open Go.RowKit

set_option maxRecDepth 100000 in
set_option maxHeartbeats 1000000 in
theorem held_good (a0 : Option Addr) (len cap : Nat) (zs : List Int) (live : Nat) (w : World) (hn : len ≤ 262144) (hlive : live ≤ 65536) (h : Told .i32 w a0 len zs) :
    Calls Try.prog 3 #[.slice a0 len cap, .int .i64 live] w fun e w' => e = .returned (.bool true) ∧ Below w.heap.size w w' := by
  have HL : Hid (zs.length = len) := h.len
  go_enter Try.func3, Try.ntmps3
  go_wp2_with (go_at_call 7; go_in)
  refine (clone_any _ _ _ zs _ (by omega) h).mono ?_
  rintro e w1 ⟨a1, rfl, r1, hbel1⟩
  clear h
  go_wp2_with fail
  refine (zzLive_any a1 len len zs live _ HL.out (by omega) hlive r1).mono ?_
  rintro e w2 ⟨aw, cw, rfl, rw2, hbel2⟩
  have r12 := r1.later hbel2
  have hbelA := hbel1.trans (hbel2.mono hbel1.size)
  have hwl : (held zs).length ≤ len := by have := HL.out; have := held_len zs; omega
  have HN : Hid (∀ i, i < (held zs).length → 0 ≤ (held zs).getD i 0) := fun i hi => held_getD_nonneg zs i hi
  have HF : Hid (∀ k, k = len → zs.take k = zs) := fun k hk => List.take_of_length_le (by have := HL.out; omega)
  clear r1 hbel1 hbel2
  go_wp2
  go_loop [6, 7] (fun d i => ∃ k : Nat, k ≤ len ∧ i = .int .i64 k ∧ d = .int .i64 ((held (zs.take k)).length : Nat)) (fun _ i => len - (intOf i).toNat)
  case atStart => exact ⟨0, Nat.zero_le _, rfl, rfl⟩
  case round =>
    obtain ⟨k, hk, rfl, rfl⟩ := hrel
    have hlk := held_len_take zs k
    by_cases hlt : k < len
    · rcases r12 with r12 | ⟨b, off, rfl, hc⟩
      · have := HL.out; rw [r12] at this; simp at this; omega
      have hkl : k < zs.length := by have := HL.out; omega
      have d1 := hc k hkl
      have e1 : zs.getD k 0 = zs[k] := by simp [List.getD, hkl]
      rw [e1] at d1
      clear e1 hc
      by_cases h0 : 0 ≤ zs[k]
      · have HH : Hid _ := held_yes zs k hkl h0
        generalize zs[k] = z at d1 h0 HH
        go_wp2
        go_round
        case rel => exact ⟨k + 1, by omega, by go_num, by rw [HH.out]; simp⟩
        case measure => simp [intOf]; omega
      · have HH : Hid _ := held_no zs k hkl h0
        generalize zs[k] = z at d1 h0
        go_wp2
        go_round
        case rel => exact ⟨k + 1, by omega, by go_num, by rw [HH.out]⟩
        case measure => simp [intOf]; omega
    · rw [HF.out k (by omega)]
      clear hlk
      go_wp2
      go_loop [8] (fun i => ∃ v : Nat, v ≤ (held zs).length ∧ i = .int .i64 v) (fun i => (held zs).length - (intOf i).toNat)
      case atStart => exact ⟨0, Nat.zero_le _, rfl⟩
      case round =>
        obtain ⟨v, hv, rfl⟩ := hrel
        by_cases hlv : v < (held zs).length
        · rcases rw2 with rw2 | ⟨bw, ow, rfl, hcw⟩
          · rw [rw2] at hlv; simp at hlv
          have d1 := hcw v hlv
          have h0 := HN.out v hlv
          generalize (held zs).getD v 0 = x at d1 h0
          clear hcw
          go_wp2
          go_round
          case rel => exact ⟨v + 1, by omega, by go_num⟩
          case measure => simp [intOf]; omega
        · go_wp2
          go_loopw [9, 10] (fun j i wr => ∃ t q : Nat, t ≤ len ∧ i = .int .i64 t ∧ j = .int .i64 ((held (zs.take t)).length : Nat) ∧ wr = w2.drewN q) (fun _ i _ => len - (intOf i).toNat)
          case atStart => exact ⟨0, 0, Nat.zero_le _, rfl, rfl, rfl⟩
          case round =>
            obtain ⟨t, q, ht, rfl, rfl, rfl⟩ := hrel
            have hle := held_take_len zs t
            by_cases hlt' : t < len
            · by_cases hlj : (held (zs.take t)).length < (held zs).length
              · rcases r12 with r12 | ⟨b, off, rfl, hc⟩
                · have := HL.out; rw [r12] at this; simp at this; omega
                rcases rw2 with rw2 | ⟨bw, ow, rfl, hcw⟩
                · rw [rw2] at hlj; simp at hlj
                have htl : t < zs.length := by have := HL.out; omega
                have d1 := hc t htl
                have e1 : zs.getD t 0 = zs[t] := by simp [List.getD, htl]
                rw [e1] at d1
                have d2 := hcw _ hlj
                clear e1 hc hcw
                by_cases h0 : 0 ≤ zs[t]
                · have HH : Hid _ := held_yes zs t htl h0
                  rw [(held_at zs t htl h0).2] at d2
                  generalize zs[t] = z at d1 d2 HH
                  clear h0
                  go_wp2
                  go_quiet (fail)
                  go_wp2
                  go_roundw
                  case rel => exact ⟨t + 1, _, by omega, by go_num, by rw [HH.out]; simp, rfl⟩
                  case measure => simp [intOf]; omega
                · have HH : Hid _ := held_no zs t htl h0
                  have h1 := HN.out _ hlj
                  generalize (held zs).getD (held (zs.take t)).length 0 = y at d2 h1
                  generalize zs[t] = z at d1 h0
                  have hzy : (z == y) = false := by rw [beq_eq_false_iff_ne]; omega
                  go_wp2
                  go_quiet (fail)
                  go_wp2
                  go_roundw
                  case rel => exact ⟨t + 1, _, by omega, by go_num, by rw [HH.out], rfl⟩
                  case measure => simp [intOf]; omega
              · have heq : (held (zs.take t)).length = (held zs).length := by omega
                rw [heq]
                clear heq hle r12
                go_wp2_with fail
                refine (zzLive_any aw (held zs).length cw (held zs) live (w2.drewN q) rfl (by omega) hlive rw2).mono ?_
                rintro e w5 ⟨ag, cg, rfl, rg5, hbel5⟩
                rw [held_held] at rg5 ⊢
                have rw5 := Row.later (w := w2.drewN q) rw2 hbel5
                go_wp2_with fail
                refine (same_same ag aw (held zs).length cg cw (held zs) _ rfl (by omega) rg5 rw5).mono ?_
                rintro e w6 ⟨rfl, q6, rfl⟩
                go_wp2
                go_ret
                exact ⟨rfl, below_drewN ((below_drewN hbelA q).trans (hbel5.mono hbelA.size)) _⟩
            · have heq : (held (zs.take t)).length = (held zs).length := by rw [HF.out t (by omega)]
              rw [heq]
              clear heq hle r12
              go_wp2_with fail
              refine (zzLive_any aw (held zs).length cw (held zs) live (w2.drewN q) rfl (by omega) hlive rw2).mono ?_
              rintro e w5 ⟨ag, cg, rfl, rg5, hbel5⟩
              rw [held_held] at rg5 ⊢
              have rw5 := Row.later (w := w2.drewN q) rw2 hbel5
              go_wp2_with fail
              refine (same_same ag aw (held zs).length cg cw (held zs) _ rfl (by omega) rg5 rw5).mono ?_
              rintro e w6 ⟨rfl, q6, rfl⟩
              go_wp2
              go_ret
              exact ⟨rfl, below_drewN ((below_drewN hbelA q).trans (hbel5.mono hbelA.size)) _⟩

set_option maxRecDepth 100000 in
set_option maxHeartbeats 1000000 in
theorem held_bad (a0 : Option Addr) (len cap : Nat) (live : Int) (w : World) (hm : len ≤ maxLen) (HB : Hid (¬ (len ≤ 262144 ∧ 0 ≤ live ∧ live ≤ 65536))) :
    Calls Try.prog 3 #[.slice a0 len cap, .int .i64 live] w fun e w' => e = .returned (.bool true) ∧ Below w.heap.size w w' := by
  unfold maxLen at hm
  by_cases h1 : len ≤ 262144
  · by_cases h2 : 0 ≤ live
    · by_cases h3 : live ≤ 65536
      · exact absurd ⟨h1, h2, h3⟩ HB.out
      · go_enter Try.func3, Try.ntmps3
        go_wp2_with (go_at_call 7; go_in)
        go_ret
        exact ⟨rfl, Below.refl _ _⟩
    · go_enter Try.func3, Try.ntmps3
      go_wp2_with (go_at_call 7; go_in)
      go_ret
      exact ⟨rfl, Below.refl _ _⟩
  · go_enter Try.func3, Try.ntmps3
    go_wp2_with (go_at_call 7; go_in)
    all_goals
      go_ret
      exact ⟨rfl, Below.refl _ _⟩
end Go.Proofs.Qxb6605264a
