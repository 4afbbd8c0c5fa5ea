import Derived.Test.Qxb6605156aRows
import Derived.WalkKit
import Derived.WalkSpells
import Derived.Laws.CopyOwn
namespace Go.Proofs.Qxb6605156a
open Go.RowKit

theorem Try.info5 : (Try.prog.info? 5).map (fun i => (i.zero, i.size, i.bytes)) = some (some (.int .u8 0), 1, 1) := by kernel_rfl
theorem Try.info22 : (Try.prog.info? 22).map (fun i => (i.zero, i.size, i.bytes)) = some (some (.int .u16 0), 1, 2) := by kernel_rfl
theorem Try.size5 : (Try.prog.info? 5).map (·.size) = some 1 := by kernel_rfl
theorem Try.size22 : (Try.prog.info? 22).map (·.size) = some 1 := by kernel_rfl

/-- The row of a block that a slice of full capacity owns. -/
theorem own_block {w : World} {base g n : Nat} {e : TypeId} {xs : List Value} (h : w.ownsRow base e 1 (.slice (some ⟨g, 0, none⟩) n n) n xs) :
    w.heap[g]? = some (.cells xs.toArray e (0, 0)) ∧ base ≤ g := by
  obtain ⟨hl, h2⟩ := h
  rcases h2 with ⟨h', _⟩ | ⟨g', cap', cur, h', hb, hg, _, _, hs, htake⟩
  · simp at h'
  · simp only [Value.slice.injEq, Option.some.injEq, Addr.mk.injEq, and_true, true_and] at h'
    obtain ⟨rfl, rfl⟩ := h'
    rw [List.take_of_length_le (by simp [hs])] at htake
    subst htake
    exact ⟨by simpa using hg, hb⟩

theorem own_of_block {w : World} {base g n : Nat} {e : TypeId} {xs : List Value} (hb : base ≤ g) (hm : n ≤ maxLen) (hl : xs.length = n) (h : w.heap[g]? = some (.cells xs.toArray e (0, 0))) :
    w.ownsRow base e 1 (.slice (some ⟨g, 0, none⟩) n n) n xs :=
  ⟨by simpa using hl, .inr ⟨g, n, xs.toArray, rfl, hb, h, Nat.le_refl _, hm, by simpa using hl, by subst hl; simp⟩⟩

theorem splice_all {α : Type} (L cs : List α) (h : cs.length = L.length) : splice L 0 cs = cs := by
  simp [splice, h]

/-- The numbers of a slice that was there, as the cells of a later world. -/
theorem src_cells {w w1 : World} {x : Addr} {k : IntKind} {zs : List Int} (hb : Below w.heap.size w w1) (hc : ∀ i, i < zs.length → w.cell? (x.add i) = some (.int k (zs.getD i 0))) :
    ∀ j v, (zs.map (Value.int k))[j]? = some v → w1.cell? (x.add j) = some v := by
  intro j v hv
  have hj : j < zs.length := by
    have := (List.getElem?_eq_some_iff.1 hv).1
    simpa using this
  have h1 := hc j hj
  rw [hb.cell (World.block_lt_of_cell? w _ h1), h1, ← hv]
  simp [List.getD, hj]

set_option maxHeartbeats 400000 in
theorem cloneBytes_some (x : Addr) (len cap : Nat) (zs : List Int) (w : World) (hz : zs.length = len) (hm : len ≤ 1048576)
    (hc : ∀ i, i < zs.length → w.cell? (x.add i) = some (.int .u8 (zs.getD i 0))) :
    Calls Try.prog 15 #[.slice (some x) len cap] w fun e w' => e = .returned (.slice (some ⟨w.heap.size, 0, none⟩) len len) ∧
      w'.ownsRow w.heap.size 5 1 (.slice (some ⟨w.heap.size, 0, none⟩) len len) len (zs.map (Value.int .u8)) ∧ Below w.heap.size w w' := by
  obtain ⟨i0, hi, hz0, hz1, hz2⟩ := info_parts Try.info5
  have q35 : ∀ (w : World) (a : Option Addr) (n c n' c' : Nat), (binOp .eql 35 (.slice a n c) (.slice none n' c')).run Try.prog w = .ok (.bool a.isNone) w := fun w a n c n' c' => Lib.run_eql_slice_nil w _ _ a n c n' c' Try.underlying35
  go_enter Try.func15, Try.ntmps15
  go_wp2_with (at_make; refine wpList_make_full _ rfl _ _ 35 rfl w.heap.size 5 i0 (.int .u8 0) 1 Try.underlying35 hi hz0 hz1 _ _ _ _ len rfl rfl rfl rfl ?_ ?_ (Nat.le_refl _) ?_)
  · rw [hz2]; omega
  · unfold maxLen; omega
  intro w1 hown hgrow
  have hb1 : Below w.heap.size w w1 := (Below.refl _ _).grown hgrow (Nat.le_refl _) (fun k hk => by cases hk)
  obtain ⟨hblk, _⟩ := own_block hown
  have hml : (madeCells #[Value.int IntKind.u8 0] len).toList.length = len := by have := hown.1; omega
  generalize (madeCells #[Value.int IntKind.u8 0] len).toList = M at *
  go_wp2_with (refine wpList_copy_splice rfl (.tmp 9) (.tmp 10) 35 35 rfl 5 Try.underlying35 Try.size5 _ _ _ _ _ _ rfl rfl w.heap.size 0 M 5 hblk (zs.map (Value.int .u8)) (by simp [hz]) (fun _ => ⟨rfl, x, rfl, src_cells hb1 hc⟩) (by simp [hml, hz]) (ints_oneCell _ _) w.heap.size w hb1 (Nat.le_refl _) ?_)
  intro w2 HG2 hb2
  rw [splice_all _ _ (by simp [hz, hml])] at HG2
  go_wp2
  go_ret
  exact ⟨rfl, own_of_block (Nat.le_refl _) (by unfold maxLen; omega) (by simp [hz]) HG2.out, hb2⟩

set_option maxHeartbeats 400000 in
theorem cloneBytes_nil (len cap : Nat) (w : World) :
    Calls Try.prog 15 #[.slice none len cap] w fun e w' => e = .returned (.slice none 0 0) ∧ w' = w := by
  have q35 : ∀ (w : World) (a : Option Addr) (n c n' c' : Nat), (binOp .eql 35 (.slice a n c) (.slice none n' c')).run Try.prog w = .ok (.bool a.isNone) w := fun w a n c n' c' => Lib.run_eql_slice_nil w _ _ a n c n' c' Try.underlying35
  go_enter Try.func15, Try.ntmps15
  go_wp2
  go_ret
  exact ⟨rfl, rfl⟩

/-- The clone of a slice that came in, nil or not: it owns the elements. -/
theorem cloneBytes_any (a : Option Addr) (len cap : Nat) (zs : List Int) (w : World) (hm : len ≤ 1048576)
    (h : (a = none ∧ len = 0 ∧ zs = []) ∨ ∃ x, a = some x ∧ zs.length = len ∧ ∀ i, i < zs.length → w.cell? (x.add i) = some (.int .u8 (zs.getD i 0))) :
    Calls Try.prog 15 #[.slice a len cap] w fun e w' => ∃ a', e = .returned (.slice a' len len) ∧
      w'.ownsRow w.heap.size 5 1 (.slice a' len len) len (zs.map (Value.int .u8)) ∧ Below w.heap.size w w' := by
  rcases h with ⟨rfl, rfl, rfl⟩ | ⟨x, rfl, hz, hc⟩
  · refine (cloneBytes_nil 0 cap w).mono ?_
    rintro e w' ⟨rfl, rfl⟩
    exact ⟨none, rfl, World.ownsRow_nil _ _ _ _, Below.refl _ _⟩
  · refine (cloneBytes_some x len cap zs w hz hm hc).mono ?_
    rintro e w' ⟨rfl, h1, h2⟩
    exact ⟨_, rfl, h1, h2⟩

set_option maxHeartbeats 400000 in
theorem cloneU16_some (x : Addr) (len cap : Nat) (zs : List Int) (w : World) (hz : zs.length = len) (hm : len ≤ 1048576)
    (hc : ∀ i, i < zs.length → w.cell? (x.add i) = some (.int .u16 (zs.getD i 0))) :
    Calls Try.prog 9 #[.slice (some x) len cap] w fun e w' => e = .returned (.slice (some ⟨w.heap.size, 0, none⟩) len len) ∧
      w'.ownsRow w.heap.size 22 1 (.slice (some ⟨w.heap.size, 0, none⟩) len len) len (zs.map (Value.int .u16)) ∧ Below w.heap.size w w' := by
  obtain ⟨i0, hi, hz0, hz1, hz2⟩ := info_parts Try.info22
  have q23 : ∀ (w : World) (a : Option Addr) (n c n' c' : Nat), (binOp .eql 23 (.slice a n c) (.slice none n' c')).run Try.prog w = .ok (.bool a.isNone) w := fun w a n c n' c' => Lib.run_eql_slice_nil w _ _ a n c n' c' Try.underlying23
  go_enter Try.func9, Try.ntmps9
  go_wp2_with (at_make; refine wpList_make_full _ rfl _ _ 23 rfl w.heap.size 22 i0 (.int .u16 0) 1 Try.underlying23 hi hz0 hz1 _ _ _ _ len rfl rfl rfl rfl ?_ ?_ (Nat.le_refl _) ?_)
  · rw [hz2]; omega
  · unfold maxLen; omega
  intro w1 hown hgrow
  have hb1 : Below w.heap.size w w1 := (Below.refl _ _).grown hgrow (Nat.le_refl _) (fun k hk => by cases hk)
  obtain ⟨hblk, _⟩ := own_block hown
  have hml : (madeCells #[Value.int IntKind.u16 0] len).toList.length = len := by have := hown.1; omega
  generalize (madeCells #[Value.int IntKind.u16 0] len).toList = M at *
  go_wp2_with (refine wpList_copy_splice rfl (.tmp 9) (.tmp 10) 23 23 rfl 22 Try.underlying23 Try.size22 _ _ _ _ _ _ rfl rfl w.heap.size 0 M 22 hblk (zs.map (Value.int .u16)) (by simp [hz]) (fun _ => ⟨rfl, x, rfl, src_cells hb1 hc⟩) (by simp [hml, hz]) (ints_oneCell _ _) w.heap.size w hb1 (Nat.le_refl _) ?_)
  intro w2 HG2 hb2
  rw [splice_all _ _ (by simp [hz, hml])] at HG2
  go_wp2
  go_ret
  exact ⟨rfl, own_of_block (Nat.le_refl _) (by unfold maxLen; omega) (by simp [hz]) HG2.out, hb2⟩

set_option maxHeartbeats 400000 in
theorem cloneU16_nil (len cap : Nat) (w : World) :
    Calls Try.prog 9 #[.slice none len cap] w fun e w' => e = .returned (.slice none 0 0) ∧ w' = w := by
  have q23 : ∀ (w : World) (a : Option Addr) (n c n' c' : Nat), (binOp .eql 23 (.slice a n c) (.slice none n' c')).run Try.prog w = .ok (.bool a.isNone) w := fun w a n c n' c' => Lib.run_eql_slice_nil w _ _ a n c n' c' Try.underlying23
  go_enter Try.func9, Try.ntmps9
  go_wp2
  go_ret
  exact ⟨rfl, rfl⟩

/-- The clone of a slice that came in, nil or not: it owns the elements. -/
theorem cloneU16_any (a : Option Addr) (len cap : Nat) (zs : List Int) (w : World) (hm : len ≤ 1048576)
    (h : (a = none ∧ len = 0 ∧ zs = []) ∨ ∃ x, a = some x ∧ zs.length = len ∧ ∀ i, i < zs.length → w.cell? (x.add i) = some (.int .u16 (zs.getD i 0))) :
    Calls Try.prog 9 #[.slice a len cap] w fun e w' => ∃ a', e = .returned (.slice a' len len) ∧
      w'.ownsRow w.heap.size 22 1 (.slice a' len len) len (zs.map (Value.int .u16)) ∧ Below w.heap.size w w' := by
  rcases h with ⟨rfl, rfl, rfl⟩ | ⟨x, rfl, hz, hc⟩
  · refine (cloneU16_nil 0 cap w).mono ?_
    rintro e w' ⟨rfl, rfl⟩
    exact ⟨none, rfl, World.ownsRow_nil _ _ _ _, Below.refl _ _⟩
  · refine (cloneU16_some x len cap zs w hz hm hc).mono ?_
    rintro e w' ⟨rfl, h1, h2⟩
    exact ⟨_, rfl, h1, h2⟩
end Go.Proofs.Qxb6605156a
