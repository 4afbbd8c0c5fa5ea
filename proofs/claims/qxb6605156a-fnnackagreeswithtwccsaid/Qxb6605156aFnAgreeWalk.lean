import Derived.Test.Qxb6605156aNack
import Derived.Test.Qxb6605156aTw
import Derived.Test.Qxb6605156aEqual
import Derived.Test.Qxb6605156aAgreePlain
namespace Go.Proofs.Qxb6605156a
open Go.RowKit

theorem Try.info33 : (Try.prog.info? 33).map (fun i => (i.zero, i.size, i.bytes)) = some (some (.agg #[.int .u16 0, .int .i16 0, .bool false]), 3, 6) := by kernel_rfl

/-- the cells of packets of which the sequence number alone is set -/
def pk (seqs : List Int) : List Value := seqs.flatMap (fun s => [.int .u16 s, .int .i16 0, .bool false])

theorem pk_length (seqs : List Int) : (pk seqs).length = seqs.length * 3 := by
  induction seqs with
  | nil => rfl
  | cons s l ih => simp [pk] at ih ⊢; omega

theorem pk_append (l : List Int) (s : Int) : pk (l ++ [s]) = pk l ++ [.int .u16 s, .int .i16 0, .bool false] := by
  simp [pk]

theorem pk_at (seqs : List Int) : ∀ i, i < seqs.length → (pk seqs)[i * 3]? = some (.int .u16 (seqs.getD i 0)) := by
  induction seqs with
  | nil => intro i hi; simp at hi
  | cons s l ih =>
    intro i hi
    cases i with
    | zero => rfl
    | succ i =>
      have := ih i (by simpa using hi)
      rw [show (i + 1) * 3 = i * 3 + 1 + 1 + 1 by omega]
      simpa [pk] using this

theorem row3_of_own {w : World} {base : Nat} {a : Option Addr} {n cap : Nat} {seqs : List Int} {xs : List Value} (h : w.ownsRow base 33 3 (.slice a n cap) n xs) (hl : seqs.length = n)
    (hx : ∀ i, i < seqs.length → xs[i * 3]? = some (.int .u16 (seqs.getD i 0))) : Row3 w a seqs := by
  by_cases h0 : seqs = []
  · exact .inl h0
  · right
    have hpos : 0 < seqs.length := List.length_pos_iff.2 h0
    rcases h.2 with ⟨h', hn⟩ | ⟨g, cap', cur, h', _⟩
    · omega
    · simp only [Value.slice.injEq] at h'
      obtain ⟨rfl, _, rfl⟩ := h'
      refine ⟨g, 0, rfl, fun i hi => ?_⟩
      rw [Nat.zero_add, h.cellAt (i * 3) (by omega), hx i hi]

theorem Row3.later {w w' : World} {a : Option Addr} {seqs : List Int} (h : Row3 w a seqs) (hb : Below w.heap.size w w') : Row3 w' a seqs := by
  rcases h with h | ⟨b, off, hx, hc⟩
  · exact .inl h
  · exact .inr ⟨b, off, hx, fun i hi => cell_later hb (hc i hi)⟩

theorem bitTest0 (x k : Nat) (hk : k < 16) (hx : x < 65536) : (bits .and .u16 (x : Int) (IntKind.u16.wrap (2 ^ k)) == 0) = !x.testBit k := by
  have h := bitTest x k hk hx
  rw [← h]
  simp [bne]

/-- the cells of a new block -/
theorem cells_at (W : World) (cs : List Value) (t : TypeId) (g : Nat) (hg : g = W.heap.size) : ∀ j u, cs[j]? = some u → (W.alloc (.cells cs.toArray t)).cell? ((⟨g, 0, none⟩ : Addr).add j) = some u := by
  subst hg
  intro j u hu
  rw [Addr.add_lit, Nat.zero_add, cell_of_row _ _ _ cs.toArray t (0, 0) (heap_alloc_new W _)]
  simpa using hu

set_option maxHeartbeats 1000000 in
theorem agree_law (pid : Int) (blp : Nat) (w : World) (h0 : 0 ≤ pid) (h1 : pid < 65536) (hblp : blp < 65536) :
    Calls Try.prog 4 #[.int .u16 pid, .int .u16 blp] w fun e w' => e = .returned (.bool true) ∧ Below w.heap.size w w' := by
  obtain ⟨i0, hi, hz0, hz1, hz2⟩ := info_parts Try.info33
  go_enter Try.func4, Try.ntmps4
  go_wp2
  go_loopw [5, 6] (fun v d wr => ∃ k : Nat, k ≤ 16 ∧ d = .int .i64 ((k + 1 : Nat) : Int) ∧ wr.ownsRow w.heap.size 33 3 v (recvTo pid blp k).length (pk (recvTo pid blp k)) ∧ Below w.heap.size w wr)
    (fun _ d _ => 17 - (intOf d).toNat)
  case atStart => exact ⟨0, Nat.zero_le _, rfl, World.ownsRow_nil _ _ _ _, Below.refl _ _⟩
  case round =>
    obtain ⟨k, hk, rfl, hown, hbel⟩ := hrel
    have hll := recvTo_len pid blp k
    by_cases hlt : k < 16
    · have hbt := bitTest0 blp k hlt hblp
      cases hb : blp.testBit k
      · rw [hb] at hbt
        have HB : Hid _ := recvTo_yes pid blp k hb
        clear hb
        go_wp2_with (at_builtin; go_must (refine wpList_append_own _ rfl (.tmp 21) (.tmp 27) 30 rfl w.heap.size 33 i0 _ 3 6 Try.underlying30 hi hz0 hz1 hz2 rfl (by decide) _ _ _ rfl (hown.alloc _) _ _ _ [.int .u16 (IntKind.u16.wrap (pid + ((k : Int) + 1))), .int .i16 0, .bool false] rfl rfl (cells_at _ _ _ _ (by simp)) (by simp [Value.oneCell']) (by unfold maxLen; omega) (by omega) (by have := hbel.size; simp; omega) ?_))
        intro v' w1 hown' hgrow _
        have R1 : w1.ownsRow w.heap.size 33 3 v' (recvTo pid blp (k + 1)).length (pk (recvTo pid blp (k + 1))) := by
          rw [HB.out, pk_append]
          have e : IntKind.u16.wrap (pid + ((k : Int) + 1)) = (pid + (k : Int) + 1) % 65536 := by rw [IntKind.wrap_u16]; omega
          rw [e] at hown'
          simpa using hown'
        have R2 : Below w.heap.size w w1 := (hbel.alloc hbel.size _).grown hgrow (by have := hbel.size; simp; omega) (fun g hg => (hown.lt g hg).1)
        clear hown' hgrow hown hbel
        go_wp2
        go_roundw
        case rel => exact ⟨k + 1, by omega, by go_num, R1, R2⟩
        case measure => simp [intOf]; omega
      · rw [hb] at hbt
        go_wp2
        go_roundw
        case rel => exact ⟨k + 1, by omega, by go_num, by rw [recvTo_no pid blp k hb]; exact hown, hbel⟩
        case measure => simp [intOf]; omega
    · obtain rfl : k = 16 := by omega
      obtain ⟨a, cap, rfl⟩ := own_form hown
      have r3 := row3_of_own hown rfl (pk_at _)
      clear hown
      go_wp2_with fail
      refine (tw_any wr.heap.size 0 pid 17 a (recvTo pid blp 16).length cap (recvTo pid blp 16) none 0 [] _ (by omega) (by omega) (by omega) (by simp) (by simp) (by simp) (by simp) rfl (r3.later ((Below.refl _ _).alloc (Nat.le_refl _) _)) (.inl ⟨rfl, rfl, rfl⟩)).mono ?_
      rintro e w2 ⟨a2, cap2, rfl, t2, hbel2⟩
      have hbel2' : Below w.heap.size w w2 := (hbel.alloc hbel.size _).trans (hbel2.mono (by have := hbel.size; simp; omega))
      rw [agree pid blp h0 h1] at t2 ⊢
      rw [Nat.zero_add] at t2 ⊢
      rw [List.nil_append] at t2
      clear r3 hbel hbel2
      go_wp2_with fail
      refine (nack_any pid blp none 0 [] _ hblp (by omega) (fun _ => rfl) rfl (fun b hb => by cases hb)).mono ?_
      rintro e w3 ⟨v, rfl, hown3, hbel3⟩
      rw [Nat.zero_add, List.nil_append] at hown3
      obtain ⟨a3, cap3, rfl⟩ := own_form hown3
      have t3 := told_of_own hown3
      have t2' := t2.later hbel3
      have hbelz : Below w.heap.size w w3 := hbel2'.trans (hbel3.mono hbel2'.size)
      have HL : Hid _ := lostTo_length pid blp 16
      have hle : (lostTo pid blp 16).length ≤ 17 := by rw [lostTo_length]; have := popN_le 16 blp; omega
      clear t2 hown3 hbel2' hbel3
      go_wp2_with fail
      refine (pop_any blp _ hblp).mono ?_
      rintro e w4 ⟨rfl, rfl⟩
      have hpl := popN_le 16 blp
      have ht : ((((lostTo pid blp 16).length : Nat) : Int) == 1 + ((popN 16 blp : Nat) : Int)) = true := by rw [HL.out]; simp
      go_wp2_with fail
      refine (equal_same a3 a2 _ _ _ (lostTo pid blp 16) _ rfl (by omega) t3.row t2'.row).mono ?_
      rintro e w5 ⟨rfl, q, rfl⟩
      go_wp2
      go_ret
      exact ⟨rfl, below_drewN hbelz _⟩
end Go.Proofs.Qxb6605156a
