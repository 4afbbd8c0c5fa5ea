import Derived.Test.Qxb6605156aOwn
import Derived.Test.Qxb6605156aTwPlain
import Derived.WalkSmall
import Derived.BigQuiet
import Derived.Deep.QuietTactic
namespace Go.Proofs.Qxb6605156a
open Go.RowKit

/-- the sequence numbers of a slice of packets (three cells each) -/
def Row3 (w : World) (a : Option Addr) (seqs : List Int) : Prop :=
  seqs = [] ∨ ∃ b off, a = some ⟨b, off, none⟩ ∧ ∀ i, i < seqs.length → w.cell? ⟨b, off + i * 3, none⟩ = some (.int .u16 (seqs.getD i 0))

theorem rel_miss_nil {base : Int} {seqs zs : List Int} {k n bb B : Nat} {w1 : World} {v : Value} {s : Int} (HM : twTo base seqs (k + 1) = ((twTo base seqs k).1, (twTo base seqs k).2 ++ [s])) (hnil : (twTo base seqs k).2 = [])
    (hown : w1.ownsRow bb 22 1 v (n + 1) (zs.map (Value.int .u16) ++ [.int .u16 s])) (hbb : B ≤ bb) :
    w1.ownsRow B 22 1 v (n + (twTo base seqs (k + 1)).2.length) ((zs ++ (twTo base seqs (k + 1)).2).map (Value.int .u16)) := by
  rw [HM, hnil]
  simpa using own_mono hown hbb

theorem rel_miss_own {base : Int} {seqs zs : List Int} {k n B : Nat} {w1 : World} {v : Value} {s : Int} (HM : twTo base seqs (k + 1) = ((twTo base seqs k).1, (twTo base seqs k).2 ++ [s]))
    (hown : w1.ownsRow B 22 1 v (n + (twTo base seqs k).2.length + 1) (zs.map (Value.int .u16) ++ ((twTo base seqs k).2.map (Value.int .u16) ++ [.int .u16 s]))) :
    w1.ownsRow B 22 1 v (n + (twTo base seqs (k + 1)).2.length) ((zs ++ (twTo base seqs (k + 1)).2).map (Value.int .u16)) := by
  rw [HM]
  simpa [Nat.add_assoc] using hown

theorem own_cap {w : World} {base : Nat} {e : TypeId} {size n n' cap : Nat} {a : Option Addr} {xs : List Value} (h : w.ownsRow base e size (.slice a n' cap) n xs) : n ≤ cap := by
  rcases h.2 with ⟨h', rfl⟩ | ⟨g, cap', cur, hv, _, _, hle, _⟩
  · omega
  · simp only [Value.slice.injEq] at hv
    omega

set_option maxHeartbeats 1000000 in
theorem tw_any (B O : Nat) (base : Int) (cnt : Nat) (ar : Option Addr) (nr cr : Nat) (seqs : List Int) (a : Option Addr) (n : Nat) (zs : List Int) (w : World)
    (hcnt : cnt < 65536) (hn : n ≤ 1048576) (hnr : nr ≤ 1048576) (hB : B < w.heap.size)
    (hc0 : w.cell? ⟨B, O, none⟩ = some (.int .u16 base)) (hc1 : w.cell? ⟨B, O + 1, none⟩ = some (.int .u16 cnt)) (hc4 : w.cell? ⟨B, O + 4, none⟩ = some (.slice ar nr cr))
    (hls : seqs.length = nr) (hr : Row3 w ar seqs) (hz : Told .u16 w a n zs) :
    Calls Try.prog 12 #[.pointer (some ⟨B, O, none⟩), .slice a n n] w fun e w' => ∃ a' cap', e = .returned (.slice a' (n + (twTo base seqs cnt).2.length) cap') ∧
      Told .u16 w' a' (n + (twTo base seqs cnt).2.length) (zs ++ (twTo base seqs cnt).2) ∧ n + (twTo base seqs cnt).2.length ≤ cap' ∧ Below w.heap.size w w' := by
  obtain ⟨i0, hi, hz0, hz1, hz2⟩ := info_parts Try.info22
  go_enter Try.func12, Try.ntmps12
  go_wp2
  go_loopw [1, 5, 6, 7, 13] (fun v nx _ _ i wr => ∃ k : Nat, k ≤ cnt ∧ i = .int .i64 k ∧ nx = .int .i64 ((twTo base seqs k).1 : Nat) ∧ Below w.heap.size w wr ∧
      (((twTo base seqs k).2 = [] ∧ v = .slice a n n) ∨ wr.ownsRow w.heap.size 22 1 v (n + (twTo base seqs k).2.length) ((zs ++ (twTo base seqs k).2).map (Value.int .u16))))
    (fun _ _ _ _ i _ => cnt - (intOf i).toNat)
  case atStart => exact ⟨0, Nat.zero_le _, rfl, rfl, Below.refl _ _, .inl ⟨rfl, rfl⟩⟩
  case round =>
    obtain ⟨k, hk, rfl, rfl, hbel, hv⟩ := hrel
    have hd0 : wr.cell? ⟨B, O, none⟩ = some (.int .u16 base) := by rw [hbel.cell (by simpa using hB)]; exact hc0
    have hd4 : wr.cell? ⟨B, O + 4, none⟩ = some (.slice ar nr cr) := by rw [hbel.cell (by simpa using hB)]; exact hc4
    obtain ⟨hb1, hb2⟩ := twTo_bd base seqs k
    by_cases hlt : k < cnt
    · by_cases hnx : (twTo base seqs k).1 < nr
      · rcases hr with hr | ⟨br, or, rfl, hcr⟩
        · rw [hr] at hls; simp at hls; omega
        have hcx := hcr (twTo base seqs k).1 (by omega)
        obtain ⟨x, hx⟩ : ∃ x, x = seqs.getD (twTo base seqs k).1 0 := ⟨_, rfl⟩
        rw [← hx] at hcx
        have hdx : wr.cell? ⟨br, or + (twTo base seqs k).1 * 3, none⟩ = some (.int .u16 x) := cell_later hbel hcx
        clear hcr hcx hc0 hc1 hc4
        by_cases hhit : x = (base + (k : Int)) % 65536
        · have ht : (x == IntKind.u16.wrap (base + (k : Int))) = true := by rw [IntKind.wrap_u16, hhit]; simp
          have HM : Hid _ := twTo_hit base seqs k (by omega) (by rw [← hx]; exact hhit)
          clear hhit hx
          go_wp2
          go_roundw
          case rel => exact ⟨k + 1, by omega, by go_num, by rw [HM.out]; go_num, hbel, by rw [HM.out]; exact hv⟩
          case measure => simp [intOf]; omega
        · have ht : (x == IntKind.u16.wrap (base + (k : Int))) = false := by rw [IntKind.wrap_u16]; simpa using hhit
          have HM : Hid _ := twTo_miss base seqs k (fun _ => by rw [← hx]; exact hhit)
          clear hhit hx
          rcases hv with ⟨hnil, rfl⟩ | hown
          · have HN : Hid _ := hnil
            clear hnil
            go_wp2_with (at_builtin; go_must (refine wpList_append_grows _ rfl (.tmp 44) (.tmp 46) 23 rfl 22 i0 (.int .u16 0) 1 2 Try.underlying23 hi hz0 hz1 hz2 rfl (by decide) _ _ _ (zs.map (Value.int .u16)) rfl (fun h => ⟨hz.none h, hz.none h⟩) (by simp [hz.len]) (fun b hb j u hu => cell_later (hbel.alloc hbel.size _) (hz.olds b hb j u hu)) _ _ _ [.int .u16 (IntKind.u16.wrap (base + (k : Int)))] rfl rfl (cell_one_at _ _ _ _ (by simp)) (ints_oneCell .u16 [_]) (by omega) (by unfold maxLen; omega) (by omega) ?_))
            intro v' w1 hown' hgrow
            rw [IntKind.wrap_u16] at hown'
            have R1 := rel_miss_nil (B := w.heap.size) HM.out HN.out hown' (by have := hbel.size; simp; omega)
            have R2 : Below w.heap.size w w1 := (hbel.alloc hbel.size _).grown hgrow (by have := hbel.size; simp; omega) (fun g hg => by cases hg)
            have R0 := congrArg Prod.fst HM.out
            simp only [] at R0
            have HR : Hid _ := R0
            clear hown' hgrow hbel hd0 hd4 R0 HM HN hz
            go_wp2
            go_roundw
            case rel => exact ⟨k + 1, by omega, by go_num, by rw [HR.out], R2, .inr R1⟩
            case measure => simp [intOf]; omega
          · skip
            go_wp2_with (at_builtin; go_must (refine wpList_append_own _ rfl (.tmp 44) (.tmp 46) 23 rfl w.heap.size 22 i0 (.int .u16 0) 1 2 Try.underlying23 hi hz0 hz1 hz2 rfl (by decide) _ _ _ rfl (hown.alloc _) _ _ _ [.int .u16 (IntKind.u16.wrap (base + (k : Int)))] rfl rfl (cell_one_at _ _ _ _ (by simp)) (ints_oneCell .u16 [_]) (by unfold maxLen; omega) (by omega) (by have := hbel.size; simp; omega) ?_))
            intro v' w1 hown' hgrow _
            rw [IntKind.wrap_u16] at hown'
            have R1 := rel_miss_own HM.out hown'
            have R2 : Below w.heap.size w w1 := (hbel.alloc hbel.size _).grown hgrow (by have := hbel.size; simp; omega) (fun g hg => (hown.lt g hg).1)
            have R0 := congrArg Prod.fst HM.out
            simp only [] at R0
            have HR : Hid _ := R0
            clear hown' hgrow hown hbel hd0 hd4 R0 HM hz
            go_wp2
            go_roundw
            case rel => exact ⟨k + 1, by omega, by go_num, by rw [HR.out], R2, .inr R1⟩
            case measure => simp [intOf]; omega
      · have HM : Hid _ := twTo_miss base seqs k (fun h => by omega)
        have hdn : decide (((twTo base seqs k).1 : Int) < (nr : Int)) = false := by simp; omega
        clear hc0 hc1 hc4
        rcases hv with ⟨hnil, rfl⟩ | hown
        · have HN : Hid _ := hnil
          clear hnil
          go_wp2_with (at_builtin; go_must (refine wpList_append_grows _ rfl (.tmp 44) (.tmp 46) 23 rfl 22 i0 (.int .u16 0) 1 2 Try.underlying23 hi hz0 hz1 hz2 rfl (by decide) _ _ _ (zs.map (Value.int .u16)) rfl (fun h => ⟨hz.none h, hz.none h⟩) (by simp [hz.len]) (fun b hb j u hu => cell_later (hbel.alloc hbel.size _) (hz.olds b hb j u hu)) _ _ _ [.int .u16 (IntKind.u16.wrap (base + (k : Int)))] rfl rfl (cell_one_at _ _ _ _ (by simp)) (ints_oneCell .u16 [_]) (by omega) (by unfold maxLen; omega) (by omega) ?_))
          intro v' w1 hown' hgrow
          rw [IntKind.wrap_u16] at hown'
          have R1 := rel_miss_nil (B := w.heap.size) HM.out HN.out hown' (by have := hbel.size; simp; omega)
          have R2 : Below w.heap.size w w1 := (hbel.alloc hbel.size _).grown hgrow (by have := hbel.size; simp; omega) (fun g hg => by cases hg)
          have R0 := congrArg Prod.fst HM.out
          simp only [] at R0
          have HR : Hid _ := R0
          clear hown' hgrow hbel hd0 hd4 R0 HM HN hz
          go_wp2
          go_roundw
          case rel => exact ⟨k + 1, by omega, by go_num, by rw [HR.out], R2, .inr R1⟩
          case measure => simp [intOf]; omega
        · skip
          go_wp2_with (at_builtin; go_must (refine wpList_append_own _ rfl (.tmp 44) (.tmp 46) 23 rfl w.heap.size 22 i0 (.int .u16 0) 1 2 Try.underlying23 hi hz0 hz1 hz2 rfl (by decide) _ _ _ rfl (hown.alloc _) _ _ _ [.int .u16 (IntKind.u16.wrap (base + (k : Int)))] rfl rfl (cell_one_at _ _ _ _ (by simp)) (ints_oneCell .u16 [_]) (by unfold maxLen; omega) (by omega) (by have := hbel.size; simp; omega) ?_))
          intro v' w1 hown' hgrow _
          rw [IntKind.wrap_u16] at hown'
          have R1 := rel_miss_own HM.out hown'
          have R2 : Below w.heap.size w w1 := (hbel.alloc hbel.size _).grown hgrow (by have := hbel.size; simp; omega) (fun g hg => (hown.lt g hg).1)
          have R0 := congrArg Prod.fst HM.out
          simp only [] at R0
          have HR : Hid _ := R0
          clear hown' hgrow hown hbel hd0 hd4 R0 HM hz
          go_wp2
          go_roundw
          case rel => exact ⟨k + 1, by omega, by go_num, by rw [HR.out], R2, .inr R1⟩
          case measure => simp [intOf]; omega
    · obtain rfl : k = cnt := by omega
      rcases hv with ⟨hnil, rfl⟩ | hown
      · have HN : Hid _ := hnil
        clear hnil hc0 hc1 hc4
        go_wp2
        go_ret
        exact ⟨a, n, by rw [HN.out]; rfl, by rw [HN.out]; simpa using hz.later hbel, by rw [HN.out]; simp, hbel⟩
      · obtain ⟨a', cap', rfl⟩ := own_form hown
        clear hc0 hc1 hc4
        go_wp2
        go_ret
        exact ⟨a', cap', rfl, told_of_own hown, own_cap hown, hbel⟩
end Go.Proofs.Qxb6605156a
