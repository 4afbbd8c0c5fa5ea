import Derived.Test.Qxb6605161aDoorField
import Derived.Test.Qxb6605161aDoorPlace
namespace Go.Proofs.Qxb6605161aDoor
open Go.RowKit

theorem ba_len (s : ByteArray) : s.data.toList.length = s.size := Array.length_toList
theorem ba_get? (s : ByteArray) (i : Nat) (h : i < s.size) : s.data.toList[i]? = some s[i] := by
  rw [List.getElem?_eq_getElem (by rw [ba_len]; exact h)]
  rfl

theorem ba_nil (s : ByteArray) (h : s.size = 0) : s = ⟨#[]⟩ := by
  obtain ⟨⟨l⟩⟩ := s
  have h1 : l.length = 0 := h
  rw [List.eq_nil_of_length_eq_zero h1]

theorem sub_at (s t : ByteArray) (X Z : List UInt8) (pos : Nat) (hX : X.length = pos) (hs : s.data.toList = X ++ (t.data.toList ++ Z)) (hle : pos + t.size ≤ s.size) : ∀ i (hi : i < t.size), s[pos + i] = t[i] := by
  intro i hi
  have h1 := ba_get? s (pos + i) (by omega)
  have h2 := ba_get? t i hi
  rw [hs, List.getElem?_append_right (by omega), show pos + i - X.length = i by omega, List.getElem?_append_left (by rw [ba_len]; exact hi), h2] at h1
  exact (Option.some.inj h1).symm

theorem hasAt_at (s t : ByteArray) (i : Int) (pos : Nat) (hi : i = (pos : Int)) (X Z : List UInt8) (hX : X.length = pos) (hs : s.data.toList = X ++ (t.data.toList ++ Z)) (w : World) (hsz : s.size ≤ 1073741824) :
    Calls Tryd.prog 7 #[.string s, .int .i64 i, .string t] w fun e w' => e = .returned (.bool true) ∧ ∃ q, w' = w.drewN q := by
  subst hi
  have hle : pos + t.size ≤ s.size := by
    have := congrArg List.length hs
    rw [ba_len, List.length_append, List.length_append, ba_len] at this
    omega
  exact hasAt_yes s t pos w hsz hle (sub_at s t X Z pos hX hs hle)

theorem want_any (n p : Int) (pre : ByteArray) (w : World) (hp : p = (pre.size : Int)) (hn : n ≤ 65536) (hps : pre.size ≤ 4096) :
    Calls Tryd.prog 6 #[.int .i64 n, .int .i64 p] w fun e w' => e = .returned (.int .i64 ((ph pre.data.toList n.toNat).length : Nat)) ∧ w' = w := by
  by_cases h0 : n ≤ 0
  · have e : n.toNat = 0 := by omega
    rw [e]
    exact want_neg n p w h0
  · obtain ⟨m, rfl⟩ := Int.eq_ofNat_of_zero_le (show 0 ≤ n by omega)
    rw [Int.toNat_natCast]
    by_cases hz : pre.size = 0
    · have e := ba_nil pre hz
      subst e
      have hp0 : p = 0 := hp
      subst hp0
      exact want_zero m w (by omega) (by omega)
    · subst hp
      exact want_pos m pre.size pre.data.toList w (by omega) (by omega) (ba_len pre) (by omega) hps

theorem field_any (s pre : ByteArray) (i kI : Int) (pos k : Nat) (hi : i = (pos : Int)) (hkI : kI = (k : Int)) (X : List UInt8) (hX : X.length = pos) (hs : s.data.toList = X ++ fieldB pre.data.toList k) (hk1 : 1 ≤ k) (hk : k ≤ 65536) (w : World) (hsz : s.size ≤ 1073741824) :
    Calls Tryd.prog 8 #[.string s, .int .i64 i, .string pre, .int .i64 kI] w fun e w' => e = .returned (.int .i64 (s.size : Nat)) ∧ ∃ q, w' = w.drewN q := by
  subst hi
  subst hkI
  have hlen := congrArg List.length hs
  rw [ba_len, List.length_append] at hlen
  by_cases hz : pre.size = 0
  · have e := ba_nil pre hz
    subst e
    have hf : fieldB (ByteArray.mk #[]).data.toList k = [63] := rfl
    rw [hf] at hs hlen
    have hl1 : s.size = pos + 1 := by rw [hlen, hX]; rfl
    have h63 : s[pos].toNat = 63 := by
      have h1 := ba_get? s pos (by omega)
      rw [hs, List.getElem?_append_right (by omega), show pos - X.length = 0 by omega] at h1
      have h2 : (63 : UInt8) = s[pos] := by simpa using h1
      rw [← h2]; rfl
    refine (field_empty s pos k w hsz (by omega) h63).mono ?_
    rintro e w' ⟨rfl, hq⟩
    exact ⟨by rw [hl1], hq⟩
  · have hne : pre.data.toList ≠ [] := by intro e; have := ba_len pre; rw [e] at this; simp at this; omega
    have hf : fieldB pre.data.toList k = pre.data.toList ++ Lib.decDigits k := by rw [fieldB, if_neg hne]
    rw [hf] at hs hlen
    rw [List.length_append, ba_len] at hlen
    have hd5 : (Lib.decDigits k).length ≤ 5 := by rw [Lib.decDigits_length]; exact nd_le k (by omega)
    have hd1 := dec_pos k
    refine field_pos s pre pos k (Lib.decDigits k).length w hsz hd5 hd1 rfl hk1 hk (by omega) (by omega) (by omega) (sub_at s pre X (Lib.decDigits k) pos hX hs (by omega)) ?_
    intro j hj
    have h1 := ba_get? s (pos + pre.size + j) (by omega)
    rw [hs, List.getElem?_append_right (by omega), show pos + pre.size + j - X.length = pre.size + j by omega, List.getElem?_append_right (by rw [ba_len]; omega), ba_len, show pre.size + j - pre.size = j by omega, List.getElem?_eq_getElem hj] at h1
    exact (Option.some.inj h1).symm
end Go.Proofs.Qxb6605161aDoor
