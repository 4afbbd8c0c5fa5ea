import Derived.WalkKit
import Derived.WalkSpells
import Derived.WalkSmall
import Derived.OpenShut
namespace Go.Proofs.Qxb6605264a
open Go.RowKit

/-- WHAT A READER IS TOLD OF A SLICE OF INTEGERS: where it has an element, it begins at a plain address, and its elements lie there. -/
def Row (k : IntKind) (w : World) (a : Option Addr) (zs : List Int) : Prop :=
  zs = [] ∨ ∃ b off, a = some ⟨b, off, none⟩ ∧ ∀ i, i < zs.length → w.cell? ⟨b, off + i, none⟩ = some (.int k (zs.getD i 0))

/-! ### rows: from what is owned to what is read; cuts of rows -/
theorem row_of_own {w : World} {base : Nat} {e : TypeId} {k : IntKind} {a : Option Addr} {n cap : Nat} {zs : List Int} (h : w.ownsRow base e 1 (.slice a n cap) n (zs.map (Value.int k))) : Row k w a zs := by
  by_cases h0 : zs = []
  · exact .inl h0
  · right
    have hl : zs.length = n := by simpa using h.1
    have hpos : 0 < zs.length := List.length_pos_iff.2 h0
    rcases h.2 with ⟨h', hn⟩ | ⟨g, cap', cur, h', _⟩
    · omega
    · simp only [Value.slice.injEq] at h'
      obtain ⟨rfl, _, rfl⟩ := h'
      refine ⟨g, 0, rfl, fun i hi => ?_⟩
      rw [Nat.zero_add, h.cellAt i (by omega)]
      simp [List.getD, hi]

theorem Row.take {k : IntKind} {w : World} {a : Option Addr} {zs : List Int} (h : Row k w a zs) (m : Nat) : Row k w a (zs.take m) := by
  rcases h with rfl | ⟨b, off, rfl, hc⟩
  · left; simp
  · right
    refine ⟨b, off, rfl, fun i hi => ?_⟩
    rw [List.length_take] at hi
    rw [hc i (by omega)]
    simp [List.getD, show i < m by omega]

theorem Row.drop {k : IntKind} {w : World} {a : Option Addr} {zs : List Int} (h : Row k w a zs) (m : Nat) : Row k w (a.map (fun x => x.add m)) (zs.drop m) := by
  rcases h with rfl | ⟨b, off, rfl, hc⟩
  · left; simp
  · right
    refine ⟨b, off + m, by simp [Addr.add_lit], fun i hi => ?_⟩
    rw [List.length_drop] at hi
    rw [Nat.add_assoc, hc (m + i) (by omega)]
    simp [List.getD]

/-- The numbers of a slice that was there, as the cells of a later world. -/
theorem src_cells {w w1 : World} {x : Addr} {k : IntKind} {zs : List Int} (hb : Below w.heap.size w w1) (hc : ∀ i, i < zs.length → w.cell? (x.add i) = some (.int k (zs.getD i 0))) :
    ∀ j v, (zs.map (Value.int k))[j]? = some v → w1.cell? (x.add j) = some v := by
  intro j v hv
  have hj : j < zs.length := by
    have := (List.getElem?_eq_some_iff.1 hv).1
    simpa using this
  have h1 := hc j hj
  rw [hb.cell (World.block_lt_of_cell? w _ h1), h1, ← hv]
  simp [List.getD, hj]

/-- What a function is told of a slice of integers that is read from its head: nil and empty, or its cells. -/
def Told (k : IntKind) (w : World) (a : Option Addr) (len : Nat) (zs : List Int) : Prop :=
  (a = none ∧ len = 0 ∧ zs = []) ∨ ∃ x, a = some x ∧ zs.length = len ∧ ∀ i, i < zs.length → w.cell? (x.add i) = some (.int k (zs.getD i 0))

theorem Told.len {k : IntKind} {w : World} {a : Option Addr} {len : Nat} {zs : List Int} (h : Told k w a len zs) : zs.length = len := by
  rcases h with ⟨_, rfl, rfl⟩ | ⟨_, _, h, _⟩
  · rfl
  · exact h

theorem told_of_own {w : World} {base : Nat} {e : TypeId} {k : IntKind} {a : Option Addr} {n cap : Nat} {zs : List Int} (h : w.ownsRow base e 1 (.slice a n cap) n (zs.map (Value.int k))) : Told k w a n zs := by
  have hl : zs.length = n := by simpa using h.1
  rcases h.2 with ⟨h', hn⟩ | ⟨g, cap', cur, h', _⟩
  · simp only [Value.slice.injEq] at h'
    obtain ⟨rfl, rfl, rfl⟩ := h'
    exact .inl ⟨rfl, rfl, List.eq_nil_of_length_eq_zero hl⟩
  · simp only [Value.slice.injEq] at h'
    obtain ⟨rfl, _, rfl⟩ := h'
    refine .inr ⟨_, rfl, hl, fun i hi => ?_⟩
    rw [Addr.add_lit, Nat.zero_add, h.cellAt i (by omega)]
    simp [List.getD, hi]

theorem Told.later {k : IntKind} {w w' : World} {a : Option Addr} {len : Nat} {zs : List Int} (h : Told k w a len zs) (hb : Below w.heap.size w w') : Told k w' a len zs := by
  rcases h with h | ⟨x, hx, hl, hc⟩
  · exact .inl h
  · exact .inr ⟨x, hx, hl, fun i hi => cell_later hb (hc i hi)⟩

theorem Told.none {k : IntKind} {w : World} {a : Option Addr} {len : Nat} {zs : List Int} (h : Told k w a len zs) : a = .none → len = 0 := by
  intro ha
  rcases h with ⟨_, h, _⟩ | ⟨x, hx, _⟩
  · exact h
  · rw [hx] at ha; cases ha

theorem Told.olds {k : IntKind} {w : World} {a : Option Addr} {len : Nat} {zs : List Int} (h : Told k w a len zs) :
    ∀ b, a = some b → ∀ j u, (zs.map (Value.int k))[j]? = some u → w.cell? (b.add j) = some u := by
  intro b hb
  rcases h with ⟨rfl, _, _⟩ | ⟨x, hx, _, hc⟩
  · cases hb
  · rw [hx] at hb
    obtain rfl := Option.some.inj hb
    exact src_cells (Below.refl _ _) hc

theorem Row.later {k : IntKind} {w w' : World} {a : Option Addr} {zs : List Int} (h : Row k w a zs) (hb : Below w.heap.size w w') : Row k w' a zs := by
  rcases h with h | ⟨b, off, hx, hc⟩
  · exact .inl h
  · exact .inr ⟨b, off, hx, fun i hi => cell_later hb (hc i hi)⟩

theorem own_mono {w : World} {base base' : Nat} {e : TypeId} {size n : Nat} {v : Value} {xs : List Value} (h : w.ownsRow base e size v n xs) (hb : base' ≤ base) : w.ownsRow base' e size v n xs := by
  obtain ⟨h1, h2⟩ := h
  refine ⟨h1, ?_⟩
  rcases h2 with h2 | ⟨g, cap, cur, hv, hg, r⟩
  · exact .inl h2
  · exact .inr ⟨g, cap, cur, hv, Nat.le_trans hb hg, r⟩

theorem own_form {w : World} {base : Nat} {e : TypeId} {size n : Nat} {v : Value} {xs : List Value} (h : w.ownsRow base e size v n xs) : ∃ a cap, v = .slice a n cap := by
  rcases h.2 with ⟨h', rfl⟩ | ⟨g, cap, cur, hv, _⟩
  · exact ⟨_, _, h'⟩
  · exact ⟨_, _, hv⟩

theorem cell_one_at (W : World) (v : Value) (t : TypeId) (g : Nat) (hg : g = W.heap.size) : ∀ j u, [v][j]? = some u → (W.alloc (.cells #[v] t)).cell? ((⟨g, 0, none⟩ : Addr).add j) = some u := by
  subst hg
  exact cell_one_new W v t

theorem ret_int {k : IntKind} {a b : Int} (h : a = b) : Ending.returned (.int k a) = .returned (.int k b) := by rw [h]

theorem Told.row {k : IntKind} {w : World} {a : Option Addr} {len : Nat} {zs : List Int} (h : Told k w a len zs) : Row k w a zs := by
  rcases h with ⟨_, _, h⟩ | ⟨x, rfl, hl, hc⟩
  · exact .inl h
  · by_cases h0 : zs = []
    · exact .inl h0
    · obtain ⟨b, off, rfl, hc'⟩ := ints_at hc (List.length_pos_iff.2 h0)
      exact .inr ⟨b, off, rfl, hc'⟩

/-- the tail of a row from n on, at the address that the cut has -/
theorem row_tail {k : IntKind} {w : World} {a : Option Addr} {zs ls : List Int} {n cap m : Nat} (h : Row k w a (zs ++ ls)) (hz : zs.length = n) (hm : n + ls.length = m) (hc : m ≤ cap) :
    Row k w (if cap = n then a else a.map (fun x => x.add n)) ls := by
  split
  · left
    exact List.eq_nil_of_length_eq_zero (by omega)
  · have := h.drop n
    rwa [← hz, List.drop_left, hz] at this

theorem ret_bool {a b : Bool} (h : a = b) : Ending.returned (.bool a) = .returned (.bool b) := by rw [h]
end Go.Proofs.Qxb6605264a
