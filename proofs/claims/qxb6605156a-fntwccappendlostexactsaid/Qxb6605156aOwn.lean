import Derived.Test.Qxb6605156aZero
import Derived.Test.Qxb6605156aClone
namespace Go.Proofs.Qxb6605156a
open Go.RowKit

/-- What a function is told of a slice of integers that is read from its head: nil and empty, or its cells. -/
def Told (k : IntKind) (w : World) (a : Option Addr) (len : Nat) (zs : List Int) : Prop :=
  (a = none ∧ len = 0 ∧ zs = []) ∨ ∃ x, a = some x ∧ zs.length = len ∧ ∀ i, i < zs.length → w.cell? (x.add i) = some (.int k (zs.getD i 0))

theorem Told.len {k : IntKind} {w : World} {a : Option Addr} {len : Nat} {zs : List Int} (h : Told k w a len zs) : zs.length = len := by
  rcases h with ⟨_, rfl, rfl⟩ | ⟨_, _, h, _⟩
  · rfl
  · exact h

theorem told_of_own {w : World} {base : Nat} {e : TypeId} {k : IntKind} {a : Option Addr} {n cap : Nat} {zs : List Int} (h : w.ownsRow base e 1 (.slice a n cap) n (zs.map (Value.int k))) : Told k w a n zs := by
  have hl : zs.length = n := by simpa using h.1
  rcases h.2 with ⟨h', hn⟩ | ⟨g, cap', cur, h', _⟩
  · simp only [Value.slice.injEq] at h'
    obtain ⟨rfl, rfl, rfl⟩ := h'
    exact .inl ⟨rfl, rfl, List.eq_nil_of_length_eq_zero hl⟩
  · simp only [Value.slice.injEq] at h'
    obtain ⟨rfl, _, rfl⟩ := h'
    refine .inr ⟨_, rfl, hl, fun i hi => ?_⟩
    rw [Addr.add_lit, Nat.zero_add, h.cellAt i (by omega)]
    simp [List.getD, hi]

theorem Told.later {k : IntKind} {w w' : World} {a : Option Addr} {len : Nat} {zs : List Int} (h : Told k w a len zs) (hb : Below w.heap.size w w') : Told k w' a len zs := by
  rcases h with h | ⟨x, hx, hl, hc⟩
  · exact .inl h
  · exact .inr ⟨x, hx, hl, fun i hi => cell_later hb (hc i hi)⟩

theorem Told.none {k : IntKind} {w : World} {a : Option Addr} {len : Nat} {zs : List Int} (h : Told k w a len zs) : a = .none → len = 0 := by
  intro ha
  rcases h with ⟨_, h, _⟩ | ⟨x, hx, _⟩
  · exact h
  · rw [hx] at ha; cases ha

theorem Told.olds {k : IntKind} {w : World} {a : Option Addr} {len : Nat} {zs : List Int} (h : Told k w a len zs) :
    ∀ b, a = some b → ∀ j u, (zs.map (Value.int k))[j]? = some u → w.cell? (b.add j) = some u := by
  intro b hb
  rcases h with ⟨rfl, _, _⟩ | ⟨x, hx, _, hc⟩
  · cases hb
  · rw [hx] at hb
    obtain rfl := Option.some.inj hb
    exact src_cells (Below.refl _ _) hc

theorem Row.later {k : IntKind} {w w' : World} {a : Option Addr} {zs : List Int} (h : Row k w a zs) (hb : Below w.heap.size w w') : Row k w' a zs := by
  rcases h with h | ⟨b, off, hx, hc⟩
  · exact .inl h
  · exact .inr ⟨b, off, hx, fun i hi => cell_later hb (hc i hi)⟩

theorem own_mono {w : World} {base base' : Nat} {e : TypeId} {size n : Nat} {v : Value} {xs : List Value} (h : w.ownsRow base e size v n xs) (hb : base' ≤ base) : w.ownsRow base' e size v n xs := by
  obtain ⟨h1, h2⟩ := h
  refine ⟨h1, ?_⟩
  rcases h2 with h2 | ⟨g, cap, cur, hv, hg, r⟩
  · exact .inl h2
  · exact .inr ⟨g, cap, cur, hv, Nat.le_trans hb hg, r⟩

theorem own_form {w : World} {base : Nat} {e : TypeId} {size n : Nat} {v : Value} {xs : List Value} (h : w.ownsRow base e size v n xs) : ∃ a cap, v = .slice a n cap := by
  rcases h.2 with ⟨h', rfl⟩ | ⟨g, cap, cur, hv, _⟩
  · exact ⟨_, _, h'⟩
  · exact ⟨_, _, hv⟩

theorem cell_one_at (W : World) (v : Value) (t : TypeId) (g : Nat) (hg : g = W.heap.size) : ∀ j u, [v][j]? = some u → (W.alloc (.cells #[v] t)).cell? ((⟨g, 0, none⟩ : Addr).add j) = some u := by
  subst hg
  exact cell_one_new W v t

theorem ret_int {k : IntKind} {a b : Int} (h : a = b) : Ending.returned (.int k a) = .returned (.int k b) := by rw [h]
end Go.Proofs.Qxb6605156a
