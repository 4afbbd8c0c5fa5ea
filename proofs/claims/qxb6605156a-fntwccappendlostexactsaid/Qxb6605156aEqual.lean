import Derived.Test.Qxb6605156aOwn
import Derived.OpenShut
import Derived.WalkSmall
import Derived.BigQuiet
import Derived.Deep.QuietTactic
namespace Go.Proofs.Qxb6605156a
open Go.RowKit

theorem Told.row {k : IntKind} {w : World} {a : Option Addr} {len : Nat} {zs : List Int} (h : Told k w a len zs) : Row k w a zs := by
  rcases h with ⟨_, _, h⟩ | ⟨x, rfl, hl, hc⟩
  · exact .inl h
  · by_cases h0 : zs = []
    · exact .inl h0
    · obtain ⟨b, off, rfl, hc'⟩ := ints_at hc (List.length_pos_iff.2 h0)
      exact .inr ⟨b, off, rfl, hc'⟩

set_option maxHeartbeats 400000 in
/-- two slices of the same numbers are found equal -/
theorem equal_same (a b : Option Addr) (n ca cb : Nat) (zs : List Int) (w : World) (hl : zs.length = n) (hn : n ≤ 2097152) (ra : Row .u16 w a zs) (rb : Row .u16 w b zs) :
    Calls Try.prog 13 #[.slice a n ca, .slice b n cb] w fun e w' => e = .returned (.bool true) ∧ ∃ q, w' = w.drewN q := by
  go_enter Try.func13, Try.ntmps13
  go_wp2
  go_loopw [5] (fun i wr => ∃ k q : Nat, k ≤ n ∧ i = .int .i64 k ∧ wr = w.drewN q) (fun i _ => n - (intOf i).toNat)
  case atStart => exact ⟨0, 0, Nat.zero_le _, rfl, rfl⟩
  case round =>
    obtain ⟨k, q, hk, rfl, rfl⟩ := hrel
    by_cases hlt : k < n
    · rcases ra with ra | ⟨ba, oa, rfl, hca⟩
      · rw [ra] at hl; simp at hl; omega
      rcases rb with rb | ⟨bb, ob, rfl, hcb⟩
      · rw [rb] at hl; simp at hl; omega
      have h1 := hca k (by omega)
      have h2 := hcb k (by omega)
      generalize zs.getD k 0 = x at h1 h2
      clear hca hcb
      go_wp2
      go_quiet (fail)
      go_wp2
      go_roundw
      case rel => exact ⟨k + 1, _, by omega, by go_num, rfl⟩
      case measure => simp [intOf]; omega
    · clear ra rb
      go_wp2
      go_ret
      exact ⟨rfl, _, rfl⟩
end Go.Proofs.Qxb6605156a
