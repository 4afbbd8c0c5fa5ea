import Derived.Test.Qxb6605156aOwn
import Derived.Test.Qxb6605156aTw
namespace Go.Proofs.Qxb6605156a
open Go.RowKit

theorem Try.info33 : (Try.prog.info? 33).map (fun i => (i.zero, i.size, i.bytes)) = some (some (.agg #[.int .u16 0, .int .i16 0, .bool false]), 3, 6) := by kernel_rfl

/-- the same of a slice of bools -/
def RowB (w : World) (a : Option Addr) (n : Nat) (B : Nat → Bool) : Prop :=
  n = 0 ∨ ∃ b off, a = some ⟨b, off, none⟩ ∧ ∀ i, i < n → w.cell? ⟨b, off + i, none⟩ = some (.bool (B i))

theorem set3_at (xs : List Value) (k n : Nat) (seqs : List Int) (v1 v2 : Value) (hk : k < n) (hl : xs.length = n * 3) (hx : ∀ i, i < k → xs[i * 3]? = some (.int .u16 (seqs.getD i 0))) :
    ∀ i, i < k + 1 → (((xs.set (k * 3) (.int .u16 (seqs.getD k 0))).set (k * 3 + 1) v1).set (k * 3 + 2) v2)[i * 3]? = some (.int .u16 (seqs.getD i 0)) := by
  intro i hi
  rw [List.getElem?_set_ne (by omega), List.getElem?_set_ne (by omega)]
  by_cases h : i = k
  · subst h
    rw [List.getElem?_set_self (by omega)]
  · rw [List.getElem?_set_ne (by omega)]
    exact hx i (by omega)

theorem store3 {w wr : World} {n k : Nat} {xs : List Value} {u0 u1 u2 : Value} (hown : wr.ownsRow w.heap.size 33 3 (.slice (some ⟨w.heap.size, 0, none⟩) n n) n xs) (hbel : Below w.heap.size w wr) :
    (((wr.setCell ⟨w.heap.size, k * 3, none⟩ u0).setCell ⟨w.heap.size, k * 3 + 1, none⟩ u1).setCell ⟨w.heap.size, k * 3 + 2, none⟩ u2).drew.ownsRow w.heap.size 33 3 (.slice (some ⟨w.heap.size, 0, none⟩) n n) n
      (((xs.set (k * 3) u0).set (k * 3 + 1) u1).set (k * 3 + 2) u2) ∧
    Below w.heap.size w (((wr.setCell ⟨w.heap.size, k * 3, none⟩ u0).setCell ⟨w.heap.size, k * 3 + 1, none⟩ u1).setCell ⟨w.heap.size, k * 3 + 2, none⟩ u2).drew :=
  ⟨((((hown.stored (k * 3) u0).1).stored (k * 3 + 1) u1).1.stored (k * 3 + 2) u2).1, (((hbel.setCell (Nat.le_refl _) _).setCell (Nat.le_refl _) _).setCell (Nat.le_refl _) _).drew⟩

set_option maxHeartbeats 1000000 in
theorem packets_any (a1 a2 a3 : Option Addr) (n c1 c2 c3 : Nat) (seqs ds : List Int) (B : Nat → Bool) (w : World) (hn : n ≤ 65536) (hl1 : seqs.length = n) (hl2 : ds.length = n)
    (h1 : Row .u16 w a1 seqs) (h2 : Row .i16 w a2 ds) (h3 : RowB w a3 n B) :
    Calls Try.prog 16 #[.slice a1 n c1, .slice a2 n c2, .slice a3 n c3] w fun e w' => e = .returned (.slice (some ⟨w.heap.size, 0, none⟩) n n) ∧
      Row3 w' (some ⟨w.heap.size, 0, none⟩) seqs ∧ Below w.heap.size w w' := by
  obtain ⟨i0, hi, hz0, hz1, hz2⟩ := info_parts Try.info33
  go_enter Try.func16, Try.ntmps16
  go_wp2_with (at_make; refine wpList_make_full _ rfl _ _ 30 rfl w.heap.size 33 i0 _ 3 Try.underlying30 hi hz0 hz1 _ _ _ _ n rfl rfl rfl rfl ?_ ?_ (Nat.le_refl _) ?_)
  · rw [hz2]; omega
  · unfold maxLen; omega
  intro w1 hown hgrow
  have hb1 : Below w.heap.size w w1 := (Below.refl _ _).grown hgrow (Nat.le_refl _) (fun k hk => by cases hk)
  obtain ⟨M, hM⟩ : ∃ M, w1.ownsRow w.heap.size 33 3 (.slice (some ⟨w.heap.size, 0, none⟩) n n) n M := ⟨_, hown⟩
  clear hown hgrow
  go_wp2
  go_loopw [8] (fun i wr => ∃ (k : Nat) (xs : List Value), k ≤ n ∧ i = .int .i64 k ∧ wr.ownsRow w.heap.size 33 3 (.slice (some ⟨w.heap.size, 0, none⟩) n n) n xs ∧ Below w.heap.size w wr ∧
      ∀ i, i < k → xs[i * 3]? = some (.int .u16 (seqs.getD i 0))) (fun i _ => n - (intOf i).toNat)
  case atStart => exact ⟨0, M, Nat.zero_le _, rfl, hM, hb1, fun i hi => by omega⟩
  case round =>
    clear hM hb1
    obtain ⟨k, xs, hk, rfl, hown, hbel, hx⟩ := hrel
    by_cases hlt : k < n
    · rcases h1 with h1 | ⟨b1, o1, rfl, hc1⟩
      · rw [h1] at hl1; simp at hl1; omega
      rcases h2 with h2 | ⟨b2, o2, rfl, hc2⟩
      · rw [h2] at hl2; simp at hl2; omega
      rcases h3 with h3 | ⟨b3, o3, rfl, hc3⟩
      · omega
      have d1 := cell_later hbel (hc1 k (by omega))
      have d2 := cell_later hbel (hc2 k (by omega))
      have d3 := cell_later hbel (hc3 k (by omega))
      have hxl : xs.length = n * 3 := hown.1
      have f0 : wr.cell? ⟨w.heap.size, k * 3, none⟩ = some (xs[k * 3]'(by omega)) := by rw [hown.cellAt _ (by omega)]; exact List.getElem?_eq_getElem _
      have f1 : wr.cell? ⟨w.heap.size, k * 3 + 1, none⟩ = some (xs[k * 3 + 1]'(by omega)) := by rw [hown.cellAt _ (by omega)]; exact List.getElem?_eq_getElem _
      have f2 : wr.cell? ⟨w.heap.size, k * 3 + 2, none⟩ = some (xs[k * 3 + 2]'(by omega)) := by rw [hown.cellAt _ (by omega)]; exact List.getElem?_eq_getElem _
      have g0 := hown.frozenAt (k * 3)
      have g1 := hown.frozenAt (k * 3 + 1)
      have g2 := hown.frozenAt (k * 3 + 2)
      have HX : Hid _ := hx
      clear hc1 hc2 hc3 hx
      generalize hsx : seqs.getD k 0 = sx at d1
      have HS : Hid _ := hsx
      clear hsx
      generalize ds.getD k 0 = dx at d2
      generalize B k = bx at d3
      go_wp2
      go_region
      all_goals go_wp2
      all_goals go_roundw
      case rel =>
        have hS := store3 (k := k) (u0 := .int .u16 sx) (u1 := .int .i16 dx) (u2 := .bool bx) hown hbel
        refine ⟨k + 1, _, by omega, by go_num, hS.1, hS.2, ?_⟩
        rw [← HS.out]
        exact set3_at xs k n seqs _ _ hlt hxl HX.out
      case measure => simp [intOf]; omega
    · obtain rfl : k = n := by omega
      have R : Row3 wr (some ⟨w.heap.size, 0, none⟩) seqs := by
        refine .inr ⟨w.heap.size, 0, rfl, fun i hi => ?_⟩
        rw [Nat.zero_add, hown.cellAt (i * 3) (by omega)]
        exact hx i (by omega)
      clear hown hx h1 h2 h3
      go_wp2
      go_ret
      exact ⟨rfl, R, hbel⟩
end Go.Proofs.Qxb6605156a
