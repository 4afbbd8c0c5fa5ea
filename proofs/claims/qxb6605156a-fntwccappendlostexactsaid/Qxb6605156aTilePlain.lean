import Derived.Test.Qxb6605156aTwPlain
namespace Go.Proofs.Qxb6605156a

/-- the distance of entry j from the base, wrapping -/
def dst16 (base : Int) (seqs : List Int) (j : Nat) : Int := (seqs.getD j 0 - base) % 65536

theorem dst16_bd (base : Int) (seqs : List Int) (j : Nat) : 0 ≤ dst16 base seqs j ∧ dst16 base seqs j < 65536 := by
  unfold dst16; omega

/-- entry j stands for the packet k: by numbers, by distances -/
theorem dst16_iff (base : Int) (seqs : List Int) (j k : Nat) (hs : 0 ≤ seqs.getD j 0 ∧ seqs.getD j 0 < 65536) (hk : k < 65536) : seqs.getD j 0 = (base + (k : Int)) % 65536 ↔ dst16 base seqs j = (k : Int) := by
  unfold dst16; omega

/-- the first k entries rise strictly, each below cnt, none past p -/
def Rise (base : Int) (seqs : List Int) (cnt k : Nat) (p : Int) : Prop :=
  (∀ i, i < k → dst16 base seqs i ≤ p) ∧ (∀ i j, i < j → j < k → dst16 base seqs i < dst16 base seqs j) ∧ ∀ i, i < k → dst16 base seqs i < (cnt : Int)

theorem Rise.zero (base : Int) (seqs : List Int) (cnt : Nat) : Rise base seqs cnt 0 (-1) := ⟨fun i h => by omega, fun i j _ h => by omega, fun i h => by omega⟩

theorem Rise.succ {base : Int} {seqs : List Int} {cnt k : Nat} {p : Int} (h : Rise base seqs cnt k p) (h1 : p < dst16 base seqs k) (h2 : dst16 base seqs k < (cnt : Int)) : Rise base seqs cnt (k + 1) (dst16 base seqs k) := by
  obtain ⟨a, b, c⟩ := h
  refine ⟨fun i hi => ?_, fun i j hij hj => ?_, fun i hi => ?_⟩
  · by_cases e : i = k
    · subst e; omega
    · have := a i (by omega); omega
  · by_cases e : j = k
    · subst e; have := a i hij; omega
    · exact b i j hij (by omega)
  · by_cases e : i = k
    · subst e; exact h2
    · exact c i (by omega)

theorem rise_to {base : Int} {seqs : List Int} {cnt : Nat} {p : Int} (hr : Rise base seqs cnt seqs.length p) (hs : ∀ j, j < seqs.length → 0 ≤ seqs.getD j 0 ∧ seqs.getD j 0 < 65536) (hc : cnt < 65536) :
    ∀ k, k ≤ cnt → (∀ j, j < (twTo base seqs k).1 → dst16 base seqs j < (k : Int)) ∧ ∀ j, (twTo base seqs k).1 ≤ j → j < seqs.length → (k : Int) ≤ dst16 base seqs j := by
  intro k
  induction k with
  | zero => intro _; exact ⟨fun j h => by simp [twTo] at h, fun j _ _ => (dst16_bd base seqs j).1⟩
  | succ k ih =>
    intro hk
    obtain ⟨h1, h2⟩ := ih (by omega)
    have hcast : ((k + 1 : Nat) : Int) = (k : Int) + 1 := by omega
    by_cases h : (twTo base seqs k).1 < seqs.length ∧ seqs.getD (twTo base seqs k).1 0 = (base + (k : Int)) % 65536
    · rw [twTo_hit base seqs k h.1 h.2]
      have hd := (dst16_iff base seqs _ k (hs _ h.1) (by omega)).1 h.2
      refine ⟨fun j hj => ?_, fun j hj hl => ?_⟩
      · by_cases e : j = (twTo base seqs k).1
        · subst e; omega
        · have := h1 j (by simp only [] at hj; omega); omega
      · have := hr.2.1 (twTo base seqs k).1 j (by simp only [] at hj; omega) hl
        omega
    · rw [twTo_miss base seqs k (fun a b => h ⟨a, b⟩)]
      refine ⟨fun j hj => ?_, fun j hj hl => ?_⟩
      · have := h1 j (by simpa using hj); omega
      · simp only [] at hj
        have hlt : (twTo base seqs k).1 < seqs.length := by omega
        have h3 := h2 (twTo base seqs k).1 (Nat.le_refl _) hlt
        have hne : dst16 base seqs (twTo base seqs k).1 ≠ (k : Int) := fun e => h ⟨hlt, (dst16_iff base seqs _ k (hs _ hlt) (by omega)).2 e⟩
        by_cases e : j = (twTo base seqs k).1
        · subst e; omega
        · have := hr.2.1 (twTo base seqs k).1 j (by omega) hl
          omega

/-- where the entries rise, all of them are reached -/
theorem rise_all {base : Int} {seqs : List Int} {cnt : Nat} {p : Int} (hr : Rise base seqs cnt seqs.length p) (hs : ∀ j, j < seqs.length → 0 ≤ seqs.getD j 0 ∧ seqs.getD j 0 < 65536) (hc : cnt < 65536) :
    (twTo base seqs cnt).1 = seqs.length := by
  have h := rise_to hr hs hc cnt (Nat.le_refl _)
  have hb := twTo_bd base seqs cnt
  by_cases e : (twTo base seqs cnt).1 < seqs.length
  · have h1 := h.2 _ (Nat.le_refl _) e
    have h2 := hr.2.2 _ e
    omega
  · omega

/-- the lost numbers so far open the lost numbers -/
theorem twTo_prefix (base : Int) (seqs : List Int) (k m : Nat) : ∃ r, (twTo base seqs (k + m)).2 = (twTo base seqs k).2 ++ r := by
  induction m with
  | zero => exact ⟨[], by simp⟩
  | succ m ih =>
    obtain ⟨r, hr⟩ := ih
    by_cases h : (twTo base seqs (k + m)).1 < seqs.length ∧ seqs.getD (twTo base seqs (k + m)).1 0 = (base + ((k + m : Nat) : Int)) % 65536
    · refine ⟨r, ?_⟩
      rw [← Nat.add_assoc, twTo_hit base seqs (k + m) h.1 h.2]; exact hr
    · refine ⟨r ++ [(base + ((k + m : Nat) : Int)) % 65536], ?_⟩
      rw [← Nat.add_assoc, twTo_miss base seqs (k + m) (fun a b => h ⟨a, b⟩)]
      simp [hr]

theorem twTo_at (base : Int) (seqs : List Int) (k cnt : Nat) (hk : k < cnt) (h : (twTo base seqs k).1 < seqs.length → seqs.getD (twTo base seqs k).1 0 ≠ (base + (k : Int)) % 65536) :
    (twTo base seqs k).2.length < (twTo base seqs cnt).2.length ∧ (twTo base seqs cnt).2.getD (twTo base seqs k).2.length 0 = (base + (k : Int)) % 65536 := by
  obtain ⟨r, hr⟩ := twTo_prefix base seqs (k + 1) (cnt - (k + 1))
  rw [show k + 1 + (cnt - (k + 1)) = cnt by omega, twTo_miss base seqs k h] at hr
  rw [hr]
  simp only [List.length_append, List.length_singleton, List.append_assoc]
  refine ⟨by omega, ?_⟩
  simp [List.getD]
end Go.Proofs.Qxb6605156a
