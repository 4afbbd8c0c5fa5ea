import Derived.Test.Qxb6605156aRows
import Derived.WalkKit
import Derived.WalkSpells
namespace Go.Proofs.Qxb6605156a
open Go.RowKit

/-- every number of the list is nought -/
def allZ (zs : List Int) : Bool := zs.all (fun z => z == 0)

theorem allZ_take_succ (zs : List Int) (k : Nat) (h : k < zs.length) (h0 : (zs[k] != 0) = false) (ht : allZ (zs.take k) = true) : allZ (zs.take (k + 1)) = true := by
  rw [List.take_succ_eq_append_getElem h]
  simp only [allZ, List.all_append, Bool.and_eq_true] at ht ⊢
  exact ⟨ht, by simpa using h0⟩

theorem allZ_false (zs : List Int) (k : Nat) (h : k < zs.length) (h0 : (zs[k] != 0) = true) : allZ zs = false := by
  simp only [allZ, List.all_eq_false]
  exact ⟨zs[k], List.getElem_mem h, by simpa using h0⟩

theorem ret_bool {a b : Bool} (h : a = b) : Ending.returned (.bool a) = .returned (.bool b) := by rw [h]

set_option maxHeartbeats 400000 in
theorem allZero_some (b off len cap : Nat) (zs : List Int) (w : World) (hz : zs.length = len) (hm : len ≤ 1048576)
    (hc : ∀ i, i < len → w.cell? ⟨b, off + i, none⟩ = some (.int .u8 (zs.getD i 0))) :
    Calls Try.prog 20 #[.slice (some ⟨b, off, none⟩) len cap] w fun e w' => e = .returned (.bool (allZ zs)) ∧ w' = w := by
  go_enter Try.func20, Try.ntmps20
  go_wp2
  go_loop [4, 7] (fun _ i => ∃ k : Nat, k ≤ len ∧ i = .int .i64 k ∧ allZ (zs.take k) = true) (fun _ i => len - (intOf i).toNat)
  case atStart => exact ⟨0, Nat.zero_le _, rfl, rfl⟩
  case round =>
    obtain ⟨k, hk, rfl, hal⟩ := hrel
    have hcell : k < len → w.cell? ⟨b, off + k, none⟩ = some (.int .u8 (zs.getD k 0)) := fun _ => hc k (by omega)
    have HA : Hid (allZ (zs.take k) = true) := hal
    clear hal
    by_cases hlt : k < len
    · go_wp2
      · go_ret
        exact ⟨ret_bool (allZ_false zs k (by omega) (by assumption)).symm, rfl⟩
      · go_round
        case rel => exact ⟨k + 1, by omega, by go_num, allZ_take_succ zs k (by omega) (by assumption) HA.out⟩
        case measure => simp [intOf]; omega
    · go_wp2
      go_ret
      exact ⟨ret_bool (by rw [← HA.out, List.take_of_length_le (by omega)]), rfl⟩

set_option maxHeartbeats 400000 in
theorem allZero_empty (a : Option Addr) (cap : Nat) (w : World) :
    Calls Try.prog 20 #[.slice a 0 cap] w fun e w' => e = .returned (.bool true) ∧ w' = w := by
  go_enter Try.func20, Try.ntmps20
  go_wp2
  go_loop [4, 7] (fun _ i => i = .int .i64 0) (fun _ i => 0)
  case atStart => rfl
  case round =>
    subst hrel
    go_wp2
    go_ret
    exact ⟨rfl, rfl⟩

/-- WHAT A READER IS TOLD OF A SLICE OF INTEGERS: where it has an element, it begins at a plain address, and its elements lie there. -/
def Row (k : IntKind) (w : World) (a : Option Addr) (zs : List Int) : Prop :=
  zs = [] ∨ ∃ b off, a = some ⟨b, off, none⟩ ∧ ∀ i, i < zs.length → w.cell? ⟨b, off + i, none⟩ = some (.int k (zs.getD i 0))

theorem allZero_is (a : Option Addr) (n cap : Nat) (zs : List Int) (w : World) (A : Bool) (hn : zs.length = n) (hm : n ≤ 1048576) (hr : Row .u8 w a zs) (hA : allZ zs = A) :
    Calls Try.prog 20 #[.slice a n cap] w fun e w' => e = .returned (.bool A) ∧ w' = w := by
  subst hn
  subst hA
  rcases hr with rfl | ⟨b, off, rfl, hc⟩
  · exact allZero_empty a cap w
  · exact allZero_some b off zs.length cap zs w rfl hm hc

theorem zzAllZero_is (a : Option Addr) (n cap : Nat) (zs : List Int) (w : World) (A : Bool) (hn : zs.length = n) (hm : n ≤ 1048576) (hr : Row .u8 w a zs) (hA : allZ zs = A) :
    Calls Try.prog 19 #[.slice a n cap] w fun e w' => e = .returned (.bool A) ∧ w' = w := by
  have H : Hid (allZ zs = A) := hA
  clear hA
  go_enter Try.func19, Try.ntmps19
  go_wp2_with (go_at_call 20; refine (allZero_is _ _ _ zs _ A hn hm hr H.out).mono ?_; rintro e w' ⟨rfl, rfl⟩)
  go_ret
  exact ⟨rfl, rfl⟩

/-! ### rows: from what is owned to what is read; cuts of rows -/
theorem row_of_own {w : World} {base : Nat} {e : TypeId} {k : IntKind} {a : Option Addr} {n cap : Nat} {zs : List Int} (h : w.ownsRow base e 1 (.slice a n cap) n (zs.map (Value.int k))) : Row k w a zs := by
  by_cases h0 : zs = []
  · exact .inl h0
  · right
    have hl : zs.length = n := by simpa using h.1
    have hpos : 0 < zs.length := List.length_pos_iff.2 h0
    rcases h.2 with ⟨h', hn⟩ | ⟨g, cap', cur, h', _⟩
    · omega
    · simp only [Value.slice.injEq] at h'
      obtain ⟨rfl, _, rfl⟩ := h'
      refine ⟨g, 0, rfl, fun i hi => ?_⟩
      rw [Nat.zero_add, h.cellAt i (by omega)]
      simp [List.getD, hi]

theorem Row.take {k : IntKind} {w : World} {a : Option Addr} {zs : List Int} (h : Row k w a zs) (m : Nat) : Row k w a (zs.take m) := by
  rcases h with rfl | ⟨b, off, rfl, hc⟩
  · left; simp
  · right
    refine ⟨b, off, rfl, fun i hi => ?_⟩
    rw [List.length_take] at hi
    rw [hc i (by omega)]
    simp [List.getD, show i < m by omega]

theorem Row.drop {k : IntKind} {w : World} {a : Option Addr} {zs : List Int} (h : Row k w a zs) (m : Nat) : Row k w (a.map (fun x => x.add m)) (zs.drop m) := by
  rcases h with rfl | ⟨b, off, rfl, hc⟩
  · left; simp
  · right
    refine ⟨b, off + m, by simp [Addr.add_lit], fun i hi => ?_⟩
    rw [List.length_drop] at hi
    rw [Nat.add_assoc, hc (m + i) (by omega)]
    simp [List.getD]
end Go.Proofs.Qxb6605156a
