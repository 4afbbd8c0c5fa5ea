import Derived.Test.Qxb6605156aRows
import Derived.Test.Qxb6605156aPlain
import Derived.Test.Qxb6605156aOwn
import Derived.WalkKit
import Derived.WalkSpells
import Derived.BigQuiet
import Derived.WalkSmall
import Derived.Deep.QuietTactic
namespace Go.Proofs.Qxb6605156a
open Go.RowKit

theorem bitTest (x k : Nat) (hk : k < 16) (hx : x < 65536) : (bits .and .u16 (x : Int) (IntKind.u16.wrap (2 ^ k)) != 0) = x.testBit k := by
  have hp : (2 : Nat) ^ k < 65536 := Nat.lt_of_lt_of_le (Nat.pow_lt_pow_right (by omega) hk) (by decide)
  have h3 : 0 < 2 ^ k := Nat.pow_pos (by omega)
  have hc : (2 : Int) ^ k = ((2 ^ k : Nat) : Int) := by rw [Int.natCast_pow]; rfl
  have e : IntKind.u16.wrap (2 ^ k) = ((2 ^ k : Nat) : Int) := by
    rw [IntKind.wrap_u16, hc]
    exact Int.emod_eq_of_lt (by omega) (by omega)
  rw [e, u16_and_nat x (2 ^ k) hx hp, nat_bit, Nat.testBit_eq_decide_div_mod_eq]
  generalize 2 ^ k = p at *
  rcases Nat.mod_two_eq_zero_or_one (x / p) with h | h
  · simp [h]
  · rw [h, Nat.one_mul]
    simp only [decide_true, bne_iff_ne, ne_eq]
    omega

theorem seq_wrap (pid : Int) (k : Nat) : IntKind.u16.wrap (IntKind.u16.wrap (pid + (k : Int)) + 1) = (pid + (k : Int) + 1) % 65536 := by
  simp only [IntKind.wrap_u16]; omega

set_option maxHeartbeats 400000 in
theorem pop_any (x : Nat) (w : World) (hx : x < 65536) :
    Calls Try.prog 11 #[.int .u16 x] w fun e w' => e = .returned (.int .i64 (popN 16 x)) ∧ w' = w := by
  go_enter Try.func11, Try.ntmps11
  go_wp2
  go_loop [0, 3] (fun y n => ∃ z m : Nat, z < 65536 ∧ m + popN 16 z = popN 16 x ∧ y = .int .u16 z ∧ n = .int .i64 m) (fun y _ => (intOf y).toNat)
  case atStart => exact ⟨x, 0, hx, by omega, rfl, rfl⟩
  case round =>
    obtain ⟨z, m, hz, hm, rfl, rfl⟩ := hrel
    have hle := popN_le 16 x
    have HM : Hid _ := hm
    have hmle : m ≤ 16 := by omega
    clear hm hle
    by_cases h0 : z = 0
    · subst h0
      go_wp2
      go_ret
      exact ⟨ret_int (by have := HM.out; rw [popN_zero] at this; omega), rfl⟩
    · have hpos : 0 < z := by omega
      clear h0
      go_wp2
      have e1 : bits .and .u16 (z : Int) ((z : Int) - 1) = ((z &&& (z - 1) : Nat) : Int) := by
        rw [show ((z : Int) - 1) = ((z - 1 : Nat) : Int) by omega]
        exact u16_and_nat z (z - 1) hz (by omega)
      have hle : z &&& (z - 1) ≤ z - 1 := Nat.and_le_right
      go_round
      case rel => exact ⟨z &&& (z - 1), m + 1, by omega, by have := popN_clear 16 z hpos hz; have := HM.out; omega, by rw [e1], by go_num⟩
      case measure => simp [intOf, e1]; omega

set_option maxHeartbeats 400000 in
theorem nack_any (pid : Int) (blp : Nat) (a : Option Addr) (n : Nat) (olds : List Value) (w : World) (hblp : blp < 65536) (hn : n ≤ 1048576)
    (hnone : a = none → n = 0) (hlo : olds.length = n) (holds : ∀ b, a = some b → ∀ j u, olds[j]? = some u → w.cell? (b.add j) = some u) :
    Calls Try.prog 10 #[.agg #[.int .u16 pid, .int .u16 blp], .slice a n n] w fun e w' => ∃ v, e = .returned v ∧
      w'.ownsRow w.heap.size 22 1 v (n + (lostTo pid blp 16).length) (olds ++ (lostTo pid blp 16).map (Value.int .u16)) ∧ Below w.heap.size w w' := by
  obtain ⟨i0, hi, hz0, hz1, hz2⟩ := info_parts Try.info22
  go_enter Try.func10, Try.ntmps10
  go_wp2_with (at_builtin; go_must (refine wpList_append_grows _ rfl (.tmp 6) (.tmp 9) 23 rfl 22 i0 (.int .u16 0) 1 2 Try.underlying23 hi hz0 hz1 hz2 rfl (by decide) _ _ _ olds rfl (fun h => ⟨hnone h, hnone h⟩) (by omega) (fun b hb j u hu => cell_later (((Below.refl _ _).alloc (Nat.le_refl _) _).alloc (by simp) _) (holds b hb j u hu)) _ _ _ [.int .u16 pid] rfl rfl (cell_one_at _ _ _ _ (by simp)) (ints_oneCell .u16 [pid]) (by omega) (by unfold maxLen; omega) (by omega) ?_))
  intro v w1 hown hgrow
  have hbel : Below (w.heap.size + 1) (w.alloc (.cells #[.int .u16 pid, .int .u16 blp] 27)) w1 :=
    ((Below.refl _ _).alloc (by simp) _).grown hgrow (by simp) (fun k hk => by cases hk)
  have hsz : w.heap.size + 2 ≤ w1.heap.size := by have := hgrow.size; simp at this; omega
  have hown' := own_mono hown (show w.heap.size + 1 ≤ w.heap.size + 1 + 1 by omega)
  clear hown hgrow holds
  go_wp2
  go_loopw [1, 5, 11] (fun v _ i wr => ∃ k : Nat, k ≤ 16 ∧ i = .int .i64 k ∧ wr.ownsRow (w.heap.size + 1) 22 1 v (n + (lostTo pid blp k).length) (olds ++ (lostTo pid blp k).map (Value.int .u16)) ∧
      Below (w.heap.size + 1) (w.alloc (.cells #[.int .u16 pid, .int .u16 blp] 27)) wr ∧ w.heap.size + 2 ≤ wr.heap.size) (fun _ _ i _ => 16 - (intOf i).toNat)
  case atStart => exact ⟨0, Nat.zero_le _, rfl, hown', hbel, hsz⟩
  case round =>
    clear hown' hbel hsz
    obtain ⟨k, hk, rfl, hown, hbel, hsz⟩ := hrel
    have hc0 : wr.cell? ⟨w.heap.size, 0, none⟩ = some (.int .u16 pid) := by rw [hbel.cell (by simp)]; simp
    have hc1 : wr.cell? ⟨w.heap.size, 1, none⟩ = some (.int .u16 blp) := by rw [hbel.cell (by simp)]; simp
    have hll : (lostTo pid blp k).length ≤ 17 := by rw [lostTo_length]; have := popN_le k blp; omega
    by_cases hlt : k < 16
    · have hbt := bitTest blp k hlt hblp
      cases hb : blp.testBit k
      · rw [hb] at hbt
        go_wp2
        go_quiet (fail)
        go_wp2
        go_roundw
        case rel => exact ⟨k + 1, by omega, by go_num, by rw [lostTo_no pid blp k hb]; exact hown, below_drewN hbel _, hsz⟩
        case measure => simp [intOf]; omega
      · rw [hb] at hbt
        have HB : Hid _ := lostTo_yes pid blp k hb
        clear hb
        go_wp2
        go_quiet (fail)
        go_wp2_with (at_builtin; go_must (refine wpList_append_own _ rfl (.tmp 20) (.tmp 27) 23 rfl (w.heap.size + 1) 22 i0 (.int .u16 0) 1 2 Try.underlying23 hi hz0 hz1 hz2 rfl (by decide) _ _ _ rfl (World.ownsRow.alloc (w := wr.drewN _) hown _) _ _ _ [.int .u16 (IntKind.u16.wrap (IntKind.u16.wrap (pid + (k : Int)) + 1))] rfl rfl (cell_one_at _ _ _ _ (by simp)) (ints_oneCell .u16 [_]) (by unfold maxLen; omega) (by omega) (by simp; omega) ?_))
        intro v' w1 hown' hgrow _
        rw [seq_wrap] at hown'
        have R1 : w1.ownsRow (w.heap.size + 1) 22 1 v' (n + (lostTo pid blp (k + 1)).length) (olds ++ (lostTo pid blp (k + 1)).map (Value.int .u16)) := by
          rw [HB.out]
          simpa [Nat.add_assoc] using hown'
        have R2 : Below (w.heap.size + 1) (w.alloc (.cells #[.int .u16 pid, .int .u16 blp] 27)) w1 :=
          (((below_drewN hbel _).alloc (by simp; omega) _)).grown hgrow (by simp; omega) (fun g hg => (hown.lt g hg).1)
        have R3 : w.heap.size + 2 ≤ w1.heap.size := by have := hgrow.size; simp at this; omega
        clear hown' hgrow hown hbel hc0 hc1
        go_wp2
        go_roundw
        case rel => exact ⟨k + 1, by omega, by go_num, R1, R2, R3⟩
        case measure => simp [intOf]; omega
    · obtain rfl : k = 16 := by omega
      go_wp2
      go_ret
      refine ⟨_, rfl, own_mono hown (by omega), ?_⟩
      exact ((Below.refl _ _).alloc (Nat.le_refl _) _).trans (hbel.mono (by omega))
end Go.Proofs.Qxb6605156a
