import Derived.Test.Qxb6605156aOwn
import Derived.Test.Qxb6605156aNack
namespace Go.Proofs.Qxb6605156a
open Go.RowKit

/-- what the answer holds, place by place -/
theorem got_old (zs : List Int) (pid : Int) (blp i : Nat) (h : i < zs.length) : (zs ++ lostTo pid blp 16).getD i 0 = zs.getD i 0 := by
  simp [List.getD, List.getElem?_append_left h]
theorem got_pid (zs : List Int) (pid : Int) (blp n : Nat) (h : zs.length = n) : (zs ++ lostTo pid blp 16).getD n 0 = pid := by
  subst h
  simp [List.getD, lostTo]
theorem got_bit (zs : List Int) (pid : Int) (blp n j : Nat) (h : zs.length = n) (hj : j < (bitPos blp 16).length) :
    (zs ++ lostTo pid blp 16).getD (n + 1 + j) 0 = (pid + ((bitPos blp 16)[j] : Int) + 1) % 65536 := by
  subst h
  rw [List.getD, List.getElem?_append_right (by omega), show zs.length + 1 + j - zs.length = j + 1 by omega]
  simp [lostTo, hj]
theorem dist (pid : Int) (b : Nat) (hb : b < 16) : IntKind.u16.wrap ((pid + (b : Int) + 1) % 65536 - pid) = (b : Int) + 1 := by
  rw [IntKind.wrap_u16]; omega

theorem wrap_pow (b : Nat) (hb : b < 16) : IntKind.u16.wrap (2 ^ b) = ((2 ^ b : Nat) : Int) ∧ 2 ^ b < 65536 := by
  have hp : (2 : Nat) ^ b < 65536 := Nat.lt_of_lt_of_le (Nat.pow_lt_pow_right (by omega) hb) (by decide)
  have hc : (2 : Int) ^ b = ((2 ^ b : Nat) : Int) := by rw [Int.natCast_pow]; rfl
  refine ⟨?_, hp⟩
  rw [IntKind.wrap_u16, hc]
  clear hc
  generalize 2 ^ b = p at *
  exact Int.emod_eq_of_lt (by omega) (by omega)

theorem or_step (blp j b : Nat) (h : j < (bitPos blp 16).length) (hb : b = (bitPos blp 16)[j]) :
    bits .or .u16 ((orL ((bitPos blp 16).take j) : Nat) : Int) (IntKind.u16.wrap (2 ^ b)) = ((orL ((bitPos blp 16).take (j + 1)) : Nat) : Int) := by
  have hb16 : b < 16 := by rw [hb]; exact bitPos_lt blp 16 j h
  have hlt : orL ((bitPos blp 16).take j) < 65536 := orL_lt _ (fun c hc => ((bitPos_mem blp 16 c).1 (List.mem_of_mem_take hc)).1)
  obtain ⟨e, hp⟩ := wrap_pow b hb16
  rw [e, u16_or_nat _ _ hlt hp, orL_take_succ _ _ h, hb]

set_option maxHeartbeats 1000000 in
theorem nackExact_law (pid : Int) (blp : Nat) (a0 : Option Addr) (len cap : Nat) (zs : List Int) (w : World) (hblp : blp < 65536) (h : Told .u16 w a0 len zs) :
    Calls Try.prog 3 #[.int .u16 pid, .int .u16 blp, .slice a0 len cap] w fun e w' => e = .returned (.bool true) ∧ Below w.heap.size w w' := by
  have hl := h.len
  by_cases hm : len ≤ 65536
  · go_enter Try.func3, Try.ntmps3
    go_wp2_with (go_at_call 8; go_in)
    refine (cloneU16_any _ _ _ zs _ (by omega) h).mono ?_
    rintro e w1 ⟨a1, rfl, hown1, hbel1⟩
    have h1 := told_of_own hown1
    clear hown1
    go_wp2_with fail
    refine (cloneU16_any _ _ _ zs _ (by omega) h1).mono ?_
    rintro e w2 ⟨a2, rfl, hown2, hbel2⟩
    have h2 := told_of_own hown2
    have r2 := row_of_own hown2
    have h1' := h1.later hbel2
    clear hown2
    go_wp2_with fail
    refine (nack_any pid blp a1 len (zs.map (Value.int .u16)) _ hblp (by omega) h1'.none (by simp [hl]) h1'.olds).mono ?_
    rintro e w3 ⟨v, rfl, hown3, hbel3⟩
    have r3 : Row .u16 w3 a2 zs := r2.later hbel3
    rw [← List.map_append] at hown3
    obtain ⟨a3, cap3, rfl⟩ := own_form hown3
    have g3 := row_of_own hown3
    have Hll : Hid (len + (lostTo pid blp 16).length = len + 1 + (bitPos blp 16).length) := by
      show _ = _
      rw [lostTo_length, bitPos_length]; omega
    rw [Hll.out]
    have HP : Hid _ := bitPos_length blp 16
    have hbel : Below w.heap.size w w3 := hbel1.trans ((hbel2.mono hbel1.size).trans (hbel3.mono (Nat.le_trans hbel1.size hbel2.size)))
    clear hown3 h1 h2 h1' r2 hbel1 hbel2 hbel3 h
    go_wp2_with fail
    refine (pop_any blp _ hblp).mono ?_
    rintro e w4 ⟨rfl, rfl⟩
    rw [← HP.out]
    have hm16 : (bitPos blp 16).length ≤ 16 := by rw [HP.out]; exact popN_le 16 blp
    obtain ⟨m, hmm⟩ : ∃ m, m = (bitPos blp 16).length := ⟨_, rfl⟩
    rw [← hmm] at hm16 ⊢
    have HM : Hid _ := hmm
    clear hmm
    have HB : Hid (∀ j (hj : j < (bitPos blp 16).length), (zs ++ lostTo pid blp 16).getD (len + 1 + j) 0 = (pid + ((bitPos blp 16)[j] : Int) + 1) % 65536) := fun j hj => got_bit zs pid blp len j hl hj
    have HO : Hid (∀ i, i < len → (zs ++ lostTo pid blp 16).getD i 0 = zs.getD i 0) := fun i hi => got_old zs pid blp i (by omega)
    have HQ : Hid ((zs ++ lostTo pid blp 16).getD len 0 = pid) := got_pid zs pid blp len hl
    have hGl : (zs ++ lostTo pid blp 16).length = len + 1 + m := by
      rw [List.length_append, HM.out]; have := Hll.out; omega
    generalize zs ++ lostTo pid blp 16 = G at *
    rcases g3 with g3 | ⟨bg, og, rfl, hcg⟩
    · rw [g3] at hGl; simp at hGl; omega
    have HG : Hid _ := hGl
    have HL : Hid _ := hl
    clear hGl Hll hl
    go_wp2
    go_loopw [10] (fun i wr => ∃ k q : Nat, k ≤ len ∧ i = .int .i64 k ∧ wr = w4.drewN q) (fun i _ => len - (intOf i).toNat)
    case atStart => exact ⟨0, 0, Nat.zero_le _, rfl, rfl⟩
    case round =>
      obtain ⟨k, q, hk, rfl, rfl⟩ := hrel
      by_cases hlt : k < len
      · have hc1 : w4.cell? ⟨bg, og + k, none⟩ = some (.int .u16 (zs.getD k 0)) := by
          rw [hcg k (by have := HG.out; omega), HO.out k hlt]
        rcases r3 with r3 | ⟨bo, oo, rfl, hco⟩
        · have := HL.out; rw [r3] at this; simp at this; omega
        have hc2 : w4.cell? ⟨bo, oo + k, none⟩ = some (.int .u16 (zs.getD k 0)) := hco k (by have := HL.out; omega)
        clear hcg hco
        go_wp2
        go_quiet (fail)
        go_wp2
        go_roundw
        case rel => exact ⟨k + 1, _, by omega, by go_num, rfl⟩
        case measure => simp [intOf]; omega
      · obtain rfl : k = len := by omega
        have hc1 : w4.cell? ⟨bg, og + k, none⟩ = some (.int .u16 pid) := by
          rw [hcg k (by have := HG.out; omega), HQ.out]
        clear r3
        go_wp2
        go_loop [11, 12, 13, 14] (fun r p i _ => ∃ j pv : Nat, j ≤ m ∧ i = .int .i64 ((k + 1 + j : Nat) : Int) ∧ r = .int .u16 (orL ((bitPos blp 16).take j) : Nat) ∧ p = .int .i64 pv ∧ pv ≤ 16 ∧ ∀ h : j < (bitPos blp 16).length, pv ≤ (bitPos blp 16)[j])
          (fun _ _ i _ => k + 1 + m - (intOf i).toNat)
        case atStart => exact ⟨0, 0, Nat.zero_le _, by go_num, rfl, rfl, by omega, fun _ => Nat.zero_le _⟩
        case round =>
          obtain ⟨j, pv, hj, rfl, rfl, rfl, hpv, hrise⟩ := hrel
          by_cases hlt' : j < m
          · have hjL : j < (bitPos blp 16).length := by rw [← HM.out]; exact hlt'
            obtain ⟨b, hbe⟩ : ∃ b, b = (bitPos blp 16)[j] := ⟨_, rfl⟩
            have hb16 : b < 16 := by rw [hbe]; exact bitPos_lt blp 16 j hjL
            have hbp : pv ≤ b := by rw [hbe]; exact hrise hjL
            obtain ⟨x, hxe⟩ : ∃ x, x = (pid + (b : Int) + 1) % 65536 := ⟨_, rfl⟩
            have hcx : w4.cell? ⟨bg, og + (k + 1 + j), none⟩ = some (.int .u16 x) := by
              rw [hcg _ (by have := HG.out; omega), HB.out j hjL, hxe, hbe]
            have hd : IntKind.u16.wrap (x - pid) = (b : Int) + 1 := by rw [hxe]; exact dist pid b hb16
            have HBE : Hid _ := hbe
            clear hbe hrise hxe hcg hc1
            go_wp2
            go_round
            case rel => exact ⟨j + 1, b + 1, by omega, by go_num, by rw [or_step blp j b hjL HBE.out], by go_num, by omega, fun h => by have := bitPos_rise blp 16 j (j + 1) (by omega) h; rw [HBE.out]; omega⟩
            case measure => simp [intOf]; omega
          · have hfull : (bitPos blp 16).take j = bitPos blp 16 := List.take_of_length_le (by rw [← HM.out]; omega)
            rw [hfull, orL_bitPos blp 16 (by simpa using hblp)]
            clear hrise hfull hcg hc1
            go_wp2
            go_ret
            exact ⟨ret_bool (by simp), below_drewN hbel _⟩
  · go_enter Try.func3, Try.ntmps3
    go_wp2_with (go_at_call 8; go_in)
    all_goals
      go_ret
      exact ⟨rfl, Below.refl _ _⟩
end Go.Proofs.Qxb6605156a
