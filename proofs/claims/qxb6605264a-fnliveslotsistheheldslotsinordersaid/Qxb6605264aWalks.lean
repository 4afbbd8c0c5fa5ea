import Derived.Test.Qxb6605264aRows
import Derived.Test.Qxb6605264aOwn
import Derived.Test.Qxb6605264aPlain
import Derived.BigQuiet
import Derived.Deep.QuietTactic
import Derived.Lib.SliceRun
namespace Go.Proofs.Qxb6605264a
open Go.RowKit

theorem Try.info21 : (Try.prog.info? 21).map (fun i => (i.zero, i.size, i.bytes)) = some (some (.int .i32 0), 1, 4) := by kernel_rfl

theorem set_at (xs : List Value) (k n : Nat) (zs : List Int) (hk : k < n) (hl : xs.length = n) (hx : ∀ i, i < k → xs[i]? = some (.int .i32 (zs.getD i 0))) :
    ∀ i, i < k + 1 → (xs.set k (.int .i32 (zs.getD k 0)))[i]? = some (.int .i32 (zs.getD i 0)) := by
  intro i hi
  by_cases h : i = k
  · subst h
    rw [List.getElem?_set_self (by omega)]
  · rw [List.getElem?_set_ne (by omega)]
    exact hx i (by omega)

set_option maxHeartbeats 400000 in
theorem clone_some (x : Addr) (len cap : Nat) (zs : List Int) (w : World) (hl : zs.length = len) (hm : len ≤ 1048576) (hr : Row .i32 w (some x) zs) :
    Calls Try.prog 8 #[.slice (some x) len cap] w fun e w' => e = .returned (.slice (some ⟨w.heap.size, 0, none⟩) len len) ∧ Row .i32 w' (some ⟨w.heap.size, 0, none⟩) zs ∧ Below w.heap.size w w' := by
  obtain ⟨i0, hi, hz0, hz1, hz2⟩ := info_parts Try.info21
  have q22 : ∀ (w : World) (a : Option Addr) (n c n' c' : Nat), (binOp .eql 22 (.slice a n c) (.slice none n' c')).run Try.prog w = .ok (.bool a.isNone) w := fun w a n c n' c' => Lib.run_eql_slice_nil w _ _ a n c n' c' Try.underlying22
  have HL : Hid _ := hl
  clear hl
  go_enter Try.func8, Try.ntmps8
  go_wp2_with (at_make; refine wpList_make_full _ rfl _ _ 22 rfl w.heap.size 21 i0 _ 1 Try.underlying22 hi hz0 hz1 _ _ _ _ len rfl rfl rfl rfl ?_ ?_ (Nat.le_refl _) ?_)
  · rw [hz2]; omega
  · unfold maxLen; omega
  intro w1 hown hgrow
  have hb1 : Below w.heap.size w w1 := (Below.refl _ _).grown hgrow (Nat.le_refl _) (fun k hk => by cases hk)
  obtain ⟨M, hM⟩ : ∃ M, w1.ownsRow w.heap.size 21 1 (.slice (some ⟨w.heap.size, 0, none⟩) len len) len M := ⟨_, hown⟩
  clear hown hgrow
  go_wp2
  go_loopw [4] (fun i wr => ∃ (k : Nat) (xs : List Value), k ≤ len ∧ i = .int .i64 k ∧ wr.ownsRow w.heap.size 21 1 (.slice (some ⟨w.heap.size, 0, none⟩) len len) len xs ∧ Below w.heap.size w wr ∧
      Hid (∀ i, i < k → xs[i]? = some (.int .i32 (zs.getD i 0)))) (fun i _ => len - (intOf i).toNat)
  case atStart => exact ⟨0, M, Nat.zero_le _, rfl, hM, hb1, fun i hi => by omega⟩
  case round =>
    clear hM hb1
    obtain ⟨k, xs, hk, rfl, hown, hbel, HX⟩ := hrel
    by_cases hlt : k < len
    · rcases hr with hr | ⟨b, off, hx, hc⟩
      · have := HL.out; rw [hr] at this; simp at this; omega
      obtain rfl := Option.some.inj hx
      have d1 := cell_later hbel (hc k (by have := HL.out; omega))
      have hxl : xs.length = len := by simpa using hown.1
      obtain ⟨u0, f0⟩ : ∃ u, wr.cell? ⟨w.heap.size, k, none⟩ = some u := ⟨xs[k]'(by omega), by rw [hown.cellAt _ (by omega)]; exact List.getElem?_eq_getElem _⟩
      have g0 := hown.frozenAt k
      have R1 : Hid ((wr.setCell ⟨w.heap.size, k, none⟩ (.int .i32 (zs.getD k 0))).ownsRow w.heap.size 21 1 (.slice (some ⟨w.heap.size, 0, none⟩) len len) len (xs.set k (.int .i32 (zs.getD k 0)))) := (hown.stored k (.int .i32 (zs.getD k 0))).1
      have R2 : Hid (Below w.heap.size w (wr.setCell ⟨w.heap.size, k, none⟩ (.int .i32 (zs.getD k 0)))) := hbel.setCell (Nat.le_refl _) _
      have R3 : Hid _ := set_at xs k len zs hlt hxl HX.out
      clear hc hxl
      generalize zs.getD k 0 = z at d1 R1 R2 R3
      go_wp2
      go_roundw
      case rel => exact ⟨k + 1, _, by omega, by go_num, R1, R2, R3⟩
      case measure => simp [intOf]; omega
    · obtain rfl : k = len := by omega
      have R : Row .i32 wr (some ⟨w.heap.size, 0, none⟩) zs := by
        refine .inr ⟨w.heap.size, 0, rfl, fun i hi => ?_⟩
        have := HL.out
        rw [Nat.zero_add, hown.cellAt i (by omega)]
        exact HX.out i (by omega)
      clear hown hr
      go_wp2
      go_ret
      exact ⟨rfl, R, hbel⟩

set_option maxHeartbeats 400000 in
theorem clone_nil (len cap : Nat) (w : World) :
    Calls Try.prog 8 #[.slice none len cap] w fun e w' => e = .returned (.slice none 0 0) ∧ w' = w := by
  have q22 : ∀ (w : World) (a : Option Addr) (n c n' c' : Nat), (binOp .eql 22 (.slice a n c) (.slice none n' c')).run Try.prog w = .ok (.bool a.isNone) w := fun w a n c n' c' => Lib.run_eql_slice_nil w _ _ a n c n' c' Try.underlying22
  go_enter Try.func8, Try.ntmps8
  go_wp2
  go_ret
  exact ⟨rfl, rfl⟩

theorem clone_any (a : Option Addr) (len cap : Nat) (zs : List Int) (w : World) (hm : len ≤ 1048576) (h : Told .i32 w a len zs) :
    Calls Try.prog 8 #[.slice a len cap] w fun e w' => ∃ a', e = .returned (.slice a' len len) ∧ Row .i32 w' a' zs ∧ Below w.heap.size w w' := by
  have hr := h.row
  have hl := h.len
  rcases h with ⟨rfl, rfl, rfl⟩ | ⟨x, rfl, hz, hc⟩
  · refine (clone_nil 0 cap w).mono ?_
    rintro e w' ⟨rfl, rfl⟩
    exact ⟨none, rfl, .inl rfl, Below.refl _ _⟩
  · refine (clone_some x len cap zs w hl hm hr).mono ?_
    rintro e w' ⟨rfl, h1, h2⟩
    exact ⟨_, rfl, h1, h2⟩

set_option maxHeartbeats 400000 in
theorem live_any (B : Nat) (a : Option Addr) (n c : Nat) (zs : List Int) (live : Nat) (w : World) (hl : zs.length = n) (hn : n ≤ 1048576) (hlive : live ≤ 65536)
    (hc0 : w.cell? ⟨B, 0, none⟩ = some (.slice a n c)) (hc3 : w.cell? ⟨B, 3, none⟩ = some (.int .i64 live)) (hr : Row .i32 w a zs) :
    Calls Try.prog 22 #[.pointer (some ⟨B, 0, none⟩)] w fun e w' => ∃ v, e = .returned v ∧ w'.ownsRow w.heap.size 21 1 v (held zs).length ((held zs).map (Value.int .i32)) ∧ Below w.heap.size w w' := by
  obtain ⟨i0, hi, hz0, hz1, hz2⟩ := info_parts Try.info21
  have HL : Hid _ := hl
  clear hl
  go_enter Try.func22, Try.ntmps22
  go_wp2_with (at_make; go_must (refine wpList_make_own _ rfl _ _ 22 rfl w.heap.size 21 i0 _ 1 Try.underlying22 hi hz0 hz1 _ _ _ live rfl rfl (by omega) ?_ ?_ (Nat.le_refl _) ?_))
  · rw [hz2]; omega
  · unfold maxLen; omega
  intro w1 hown hgrow
  have hb1 : Below w.heap.size w w1 := (Below.refl _ _).grown hgrow (Nat.le_refl _) (fun k hk => by cases hk)
  have hd0 : w1.cell? ⟨B, 0, none⟩ = some (.slice a n c) := cell_later hb1 hc0
  obtain ⟨v1, hv1⟩ : ∃ v, v = Value.slice (some ⟨w.heap.size, 0, none⟩) 0 live := ⟨_, rfl⟩
  rw [← hv1] at hown ⊢
  clear hv1 hgrow
  go_wp2
  go_loopw [3, 5, 16] (fun v _ i wr => ∃ k : Nat, k ≤ n ∧ i = .int .i64 k ∧ wr.ownsRow w.heap.size 21 1 v (held (zs.take k)).length ((held (zs.take k)).map (Value.int .i32)) ∧ Below w.heap.size w wr) (fun _ _ i _ => n - (intOf i).toNat)
  case atStart => exact ⟨0, Nat.zero_le _, rfl, hown, hb1⟩
  case round =>
    clear hown hb1 hd0
    obtain ⟨k, hk, rfl, hown, hbel⟩ := hrel
    have hlk := held_len_take zs k
    by_cases hlt : k < n
    · rcases hr with hr | ⟨b, off, rfl, hc⟩
      · have := HL.out; rw [hr] at this; simp at this; omega
      have hkl : k < zs.length := by have := HL.out; omega
      have d1 := cell_later hbel (hc k hkl)
      have e1 : zs.getD k 0 = zs[k] := by simp [List.getD, hkl]
      rw [e1] at d1
      clear e1 hc
      by_cases h0 : 0 ≤ zs[k]
      · have HH : Hid _ := held_yes zs k hkl h0
        generalize zs[k] = z at d1 h0 HH
        go_wp2_with (at_builtin; go_must (refine wpList_append_own _ rfl (.tmp 22) (.tmp 24) 22 rfl w.heap.size 21 i0 (.int .i32 0) 1 4 Try.underlying22 hi hz0 hz1 hz2 rfl (by decide) _ _ _ rfl (hown.alloc _) _ _ _ [.int .i32 z] rfl rfl (cell_one_at _ _ _ _ (by simp)) (ints_oneCell .i32 [_]) (by unfold maxLen; omega) (by omega) (by have := hbel.size; simp; omega) ?_))
        intro v' w2 hown' hgrow _
        have R1 : w2.ownsRow w.heap.size 21 1 v' (held (zs.take (k + 1))).length ((held (zs.take (k + 1))).map (Value.int .i32)) := by
          rw [HH.out]
          simpa using hown'
        have R2 : Below w.heap.size w w2 := (hbel.alloc hbel.size _).grown hgrow (by have := hbel.size; simp; omega) (fun g hg => (hown.lt g hg).1)
        clear hown' hgrow hown hbel d1
        go_wp2
        go_roundw
        case rel => exact ⟨k + 1, by omega, by go_num, R1, R2⟩
        case measure => simp [intOf]; omega
      · have HH : Hid _ := held_no zs k hkl h0
        generalize zs[k] = z at d1 h0
        go_wp2
        go_roundw
        case rel => exact ⟨k + 1, by omega, by go_num, by rw [HH.out]; exact hown, hbel⟩
        case measure => simp [intOf]; omega
    · have hfull : zs.take k = zs := List.take_of_length_le (by have := HL.out; omega)
      rw [hfull] at hown hlk
      clear hfull hr
      go_wp2
      go_ret
      exact ⟨_, rfl, hown, hbel⟩

set_option maxHeartbeats 400000 in
theorem zzLive_any (a : Option Addr) (n c : Nat) (zs : List Int) (live : Nat) (w : World) (hl : zs.length = n) (hn : n ≤ 1048576) (hlive : live ≤ 65536) (hr : Row .i32 w a zs) :
    Calls Try.prog 9 #[.slice a n c, .int .i64 live] w fun e w' => ∃ a' c', e = .returned (.slice a' (held zs).length c') ∧ Row .i32 w' a' (held zs) ∧ Below w.heap.size w w' := by
  have HL : Hid _ := hl
  clear hl
  go_enter Try.func9, Try.ntmps9
  go_wp2_with fail
  refine (live_any w.heap.size a n c zs live _ HL.out hn hlive (by simp) (by simp) (hr.later ((Below.refl _ _).alloc (Nat.le_refl _) _))).mono ?_
  rintro e w1 ⟨v, rfl, hown, hbel⟩
  obtain ⟨a', c', rfl⟩ := own_form hown
  have R := row_of_own hown
  clear hr hown
  go_wp2
  go_ret
  exact ⟨a', c', rfl, R, ((Below.refl _ _).alloc (Nat.le_refl _) _).trans (hbel.mono (by simp))⟩

set_option maxHeartbeats 400000 in
/-- two slices of the same numbers are found the same -/
theorem same_same (a b : Option Addr) (n ca cb : Nat) (zs : List Int) (w : World) (hl : zs.length = n) (hn : n ≤ 2097152) (ra : Row .i32 w a zs) (rb : Row .i32 w b zs) :
    Calls Try.prog 10 #[.slice a n ca, .slice b n cb] w fun e w' => e = .returned (.bool true) ∧ ∃ q, w' = w.drewN q := by
  go_enter Try.func10, Try.ntmps10
  go_wp2
  go_loopw [5] (fun i wr => ∃ k q : Nat, k ≤ n ∧ i = .int .i64 k ∧ wr = w.drewN q) (fun i _ => n - (intOf i).toNat)
  case atStart => exact ⟨0, 0, Nat.zero_le _, rfl, rfl⟩
  case round =>
    obtain ⟨k, q, hk, rfl, rfl⟩ := hrel
    by_cases hlt : k < n
    · rcases ra with ra | ⟨ba, oa, rfl, hca⟩
      · rw [ra] at hl; simp at hl; omega
      rcases rb with rb | ⟨bb, ob, rfl, hcb⟩
      · rw [rb] at hl; simp at hl; omega
      have h1 := hca k (by omega)
      have h2 := hcb k (by omega)
      generalize zs.getD k 0 = x at h1 h2
      clear hca hcb
      go_wp2
      go_quiet (fail)
      go_wp2
      go_roundw
      case rel => exact ⟨k + 1, _, by omega, by go_num, rfl⟩
      case measure => simp [intOf]; omega
    · clear ra rb
      go_wp2
      go_ret
      exact ⟨rfl, _, rfl⟩
end Go.Proofs.Qxb6605264a
