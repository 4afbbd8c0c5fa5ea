import Derived.Test.Qxb6605156aPlain
namespace Go.Proofs.Qxb6605156a

/-- the first k packets looked at: how many entries of Received are reached, and the lost numbers so far -/
def twTo (base : Int) (seqs : List Int) : Nat → Nat × List Int
  | 0 => (0, [])
  | k + 1 => let r := twTo base seqs k; if r.1 < seqs.length ∧ seqs.getD r.1 0 = (base + (k : Int)) % 65536 then (r.1 + 1, r.2) else (r.1, r.2 ++ [(base + (k : Int)) % 65536])

theorem twTo_hit (base : Int) (seqs : List Int) (k : Nat) (h1 : (twTo base seqs k).1 < seqs.length) (h2 : seqs.getD (twTo base seqs k).1 0 = (base + (k : Int)) % 65536) :
    twTo base seqs (k + 1) = ((twTo base seqs k).1 + 1, (twTo base seqs k).2) := by
  simp only [twTo]; rw [if_pos ⟨h1, h2⟩]
theorem twTo_miss (base : Int) (seqs : List Int) (k : Nat) (h : (twTo base seqs k).1 < seqs.length → seqs.getD (twTo base seqs k).1 0 ≠ (base + (k : Int)) % 65536) :
    twTo base seqs (k + 1) = ((twTo base seqs k).1, (twTo base seqs k).2 ++ [(base + (k : Int)) % 65536]) := by
  simp only [twTo]; rw [if_neg (fun hh => h hh.1 hh.2)]
theorem twTo_bd (base : Int) (seqs : List Int) (k : Nat) : (twTo base seqs k).1 ≤ seqs.length ∧ (twTo base seqs k).1 + (twTo base seqs k).2.length = k := by
  induction k with
  | zero => simp [twTo]
  | succ k ih =>
    by_cases h : (twTo base seqs k).1 < seqs.length ∧ seqs.getD (twTo base seqs k).1 0 = (base + (k : Int)) % 65536
    · rw [twTo_hit base seqs k h.1 h.2]; simp only []; omega
    · rw [twTo_miss base seqs k (fun h1 h2 => h ⟨h1, h2⟩)]; simp only [List.length_append, List.length_singleton]; omega
end Go.Proofs.Qxb6605156a
