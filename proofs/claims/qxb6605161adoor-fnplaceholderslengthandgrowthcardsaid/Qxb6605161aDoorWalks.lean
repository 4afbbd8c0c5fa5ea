import Derived.Test.Qxb6605161aDoorBuilder
import Derived.Test.Qxb6605161aDoorPlain
import Derived.BigQuiet
import Derived.Deep.QuietTactic
namespace Go.Proofs.Qxb6605161aDoor
open Go.RowKit

theorem ret_int {k : IntKind} {a b : Int} (h : a = b) : Ending.returned (.int k a) = .returned (.int k b) := by rw [h]

/-- an index into a string, inside it -/
theorem ix (s : ByteArray) (i : Int) (n : Nat) (hi : i = (n : Int)) (h : n < s.size) (x : Nat) (hx : s[n].toNat = x) (w : World) :
    (Instr.index 9 (.string s) (.int .i64 i)).run Tryd.prog w = .ok (.int .u8 (x : Int)) w := by
  subst hi
  subst hx
  rw [run_index_string (P := Tryd.prog) w 9 s .i64 n Tryd.underlying9]
  rw [dif_pos ⟨by omega, by omega⟩]
  simp

set_option maxHeartbeats 400000 in
/-- t stands in s from pos on -/
theorem hasAt_yes (s t : ByteArray) (pos : Nat) (w : World) (hs : s.size ≤ 1073741824) (hpos : pos + t.size ≤ s.size)
    (h : Hid (∀ i (hi : i < t.size), s[pos + i] = t[i])) :
    Calls Tryd.prog 7 #[.string s, .int .i64 pos, .string t] w fun e w' => e = .returned (.bool true) ∧ ∃ q, w' = w.drewN q := by
  go_enter Tryd.func7, Tryd.ntmps7
  go_wp2
  go_loopw [7] (fun i wr => ∃ k q : Nat, k ≤ t.size ∧ i = .int .i64 k ∧ wr = w.drewN q) (fun i _ => t.size - (intOf i).toNat)
  case atStart => exact ⟨0, 0, Nat.zero_le _, rfl, rfl⟩
  case round =>
    obtain ⟨k, q, hk, rfl, rfl⟩ := hrel
    by_cases hlt : k < t.size
    · have hlt2 : pos + k < s.size := by omega
      obtain ⟨x, hx⟩ : ∃ x, t[k].toNat = x := ⟨_, rfl⟩
      have hx2 : s[pos + k].toNat = x := by rw [h.out k hlt]; exact hx
      have i1 := ix s ((pos : Int) + (k : Int)) (pos + k) (by omega) hlt2 x hx2
      have i2 := ix t (k : Int) k rfl hlt x hx
      clear hx hx2
      go_wp2
      go_region
      all_goals go_wp2
      all_goals go_roundw
      case rel => exact ⟨k + 1, _, by omega, by go_num, rfl⟩
      case measure => simp [intOf]; omega
    · go_wp2
      go_ret
      exact ⟨rfl, _, rfl⟩

set_option maxHeartbeats 400000 in
theorem want_neg (n p : Int) (w : World) (hn : n ≤ 0) : Calls Tryd.prog 6 #[.int .i64 n, .int .i64 p] w fun e w' => e = .returned (.int .i64 0) ∧ w' = w := by
  go_enter Tryd.func6, Tryd.ntmps6
  go_wp2
  go_ret
  exact ⟨rfl, rfl⟩

set_option maxHeartbeats 400000 in
theorem want_zero (n : Nat) (w : World) (h1 : 1 ≤ n) (h2 : n ≤ 65536) : Calls Tryd.prog 6 #[.int .i64 n, .int .i64 0] w fun e w' => e = .returned (.int .i64 ((ph [] n).length : Nat)) ∧ w' = w := by
  go_enter Tryd.func6, Tryd.ntmps6
  go_wp2
  go_ret
  refine ⟨ret_int ?_, rfl⟩
  obtain ⟨m, rfl⟩ : ∃ m, n = m + 1 := ⟨n - 1, by omega⟩
  rw [ph_len_empty]
  omega

/-- what the loop over the powers of ten holds -/
def Pw (n q d : Nat) : Prop :=
  (q = 1 ∧ d = 0) ∨ (q = 10 ∧ d = n ∧ 1 ≤ n) ∨ (q = 100 ∧ d = n + (n - 9) ∧ 10 ≤ n) ∨ (q = 1000 ∧ d = n + (n - 9) + (n - 99) ∧ 100 ≤ n) ∨
  (q = 10000 ∧ d = n + (n - 9) + (n - 99) + (n - 999) ∧ 1000 ≤ n) ∨ (q = 100000 ∧ d = n + (n - 9) + (n - 99) + (n - 999) + (n - 9999) ∧ 10000 ≤ n)

theorem Pw.next {n q d : Nat} (h : Pw n q d) (h1 : q ≤ n) (h2 : n ≤ 65536) : Pw n (q * 10) (d + (n - q + 1)) := by
  rcases h with ⟨e1, e2⟩ | ⟨e1, e2, h⟩ | ⟨e1, e2, h⟩ | ⟨e1, e2, h⟩ | ⟨e1, e2, h⟩ | ⟨e1, e2, h⟩
  · exact .inr (.inl ⟨by omega, by omega, by omega⟩)
  · exact .inr (.inr (.inl ⟨by omega, by omega, by omega⟩))
  · exact .inr (.inr (.inr (.inl ⟨by omega, by omega, by omega⟩)))
  · exact .inr (.inr (.inr (.inr (.inl ⟨by omega, by omega, by omega⟩))))
  · exact .inr (.inr (.inr (.inr (.inr ⟨by omega, by omega, by omega⟩))))
  · omega
theorem Pw.last {n q d : Nat} (h : Pw n q d) (h1 : n < q) (h2 : 1 ≤ n) : d = digs n := by
  unfold digs
  rcases h with ⟨e1, e2⟩ | ⟨e1, e2, h⟩ | ⟨e1, e2, h⟩ | ⟨e1, e2, h⟩ | ⟨e1, e2, h⟩ | ⟨e1, e2, h⟩ <;> omega
theorem Pw.bd {n q d : Nat} (h : Pw n q d) (h2 : n ≤ 65536) : 1 ≤ q ∧ q ≤ 100000 ∧ d ≤ 327680 := by
  rcases h with ⟨e1, e2⟩ | ⟨e1, e2, h⟩ | ⟨e1, e2, h⟩ | ⟨e1, e2, h⟩ | ⟨e1, e2, h⟩ | ⟨e1, e2, h⟩ <;> omega

set_option maxHeartbeats 400000 in
theorem want_pos (n p : Nat) (pre : List UInt8) (w : World) (h1 : 1 ≤ n) (h2 : n ≤ 65536) (hp : Hid (pre.length = p)) (hp1 : 1 ≤ p) (hp2 : p ≤ 4096) :
    Calls Tryd.prog 6 #[.int .i64 n, .int .i64 p] w fun e w' => e = .returned (.int .i64 ((ph pre n).length : Nat)) ∧ w' = w := by
  have hnp0 : 0 ≤ (n : Int) * (p : Int) := Int.mul_nonneg (by omega) (by omega)
  have hnp1 : (n : Int) * (p : Int) ≤ 268435456 := by
    have := Nat.mul_le_mul h2 hp2
    have e : ((n * p : Nat) : Int) = (n : Int) * (p : Int) := by simp
    omega
  go_enter Tryd.func6, Tryd.ntmps6
  go_wp2
  go_loop [5, 6] (fun dv qv => ∃ q d : Nat, qv = .int .i64 q ∧ dv = .int .i64 d ∧ Hid (Pw n q d)) (fun _ qv => 65537 - (intOf qv).toNat)
  case atStart => exact ⟨1, 0, rfl, rfl, .inl ⟨rfl, rfl⟩⟩
  case round =>
    obtain ⟨q, d, rfl, rfl, HP⟩ := hrel
    obtain ⟨hq1, hq2, hd⟩ := Pw.bd HP h2
    by_cases hq : q ≤ n
    · go_wp2
      go_round
      case rel => exact ⟨q * 10, d + (n - q + 1), by go_num, by go_num, Pw.next HP hq h2⟩
      case measure => simp [intOf]; omega
    · go_wp2
      go_ret
      refine ⟨ret_int ?_, rfl⟩
      have hd2 := Pw.last HP (by omega) h1
      obtain ⟨m, rfl⟩ : ∃ m, n = m + 1 := ⟨n - 1, by omega⟩
      rw [ph_len pre (by intro e; have := hp.out; rw [e] at this; simp at this; omega) m (by omega), hd2, hp.out]
      have e : (((m + 1) * p : Nat) : Int) = ((m + 1 : Nat) : Int) * (p : Int) := by simp
      omega
end Go.Proofs.Qxb6605161aDoor
