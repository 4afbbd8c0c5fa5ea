/- The shelf's contracts that the road needs, laid at this seat's dump in plain words by the guide's own tool (the two layings are the tool's text): strings.Builder's String, strconv.Itoa. -/
import Derived.Shelf.Strings.Builder1
import Derived.Shelf.LaysM
import Derived.Shelf.Strconv.Itoa3
import Derived.Lib.AppendIntMem
import Derived.Test.Qxb6605161aDoorRows
namespace Go.Proofs.Qxb6605161aDoor
open Go.Shelf Go.RowKit Go.Sort Go.Proofs
def Tryd.lays169_ren : Go.Shelf.Ren := ⟨fun | 169 => 12 | n => n, fun | 70 => 27 | 9 => 9 | 0 => 0 | 72 => 30 | 37 => 28 | 127 => 37 | 3 => 3 | 5 => 5 | n => n, fun | n => n⟩
theorem Tryd.lays169 : Go.Proofs.Lays.n169 Tryd.prog Tryd.lays169_ren := {
  mixed := by kernel_rfl
  f169 := Tryd.func12.trans (congrArg some (by kernel_rfl))
  t0 := Tryd.underlying0
  a0 := Tryd.isAgg0
  z0 := Tryd.sizeOf0
  v0 := Tryd.zeroValue0
  t3 := Tryd.underlying3
  a3 := Tryd.isAgg3
  z3 := Tryd.sizeOf3
  v3 := Tryd.zeroValue3
  t9 := Tryd.underlying9
  a9 := Tryd.isAgg9
  z9 := Tryd.sizeOf9
  v9 := Tryd.zeroValue9
  t37 := Tryd.underlying28
  a37 := Tryd.isAgg28
  z37 := Tryd.sizeOf28
  v37 := Tryd.zeroValue28
  t70 := Tryd.underlying27
  a70 := Tryd.isAgg27
  z70 := Tryd.sizeOf27
  v70 := Tryd.zeroValue27
  t72 := Tryd.underlying30
  a72 := Tryd.isAgg30
  z72 := Tryd.sizeOf30
  v72 := Tryd.zeroValue30
  t127 := Tryd.underlying37
  a127 := Tryd.isAgg37
  z127 := Tryd.sizeOf37
  v127 := Tryd.zeroValue37 }
theorem Tryd.Builder_Extra_169 : Builder.Extra Tryd.prog Tryd.lays169_ren := {
  sizeBuilder := by kernel_rfl
  liesBuilder := by kernel_rfl
  t5 := Tryd.underlying5
  a5 := Tryd.isAgg5
  z5 := Tryd.sizeOf5
  v5 := Tryd.zeroValue5
  infoByte := by kernel_rfl
  cellsByte := by kernel_rfl
  sizeByte := by kernel_rfl
  neB5 := by decide }
def Tryd.laysM171_ren : Go.Shelf.Ren := ⟨fun | 171 => 11 | 243 => 14 | 246 => 16 | 283 => 17 | 284 => 18 | 285 => 19 | 286 => 20 | 129 => 22 | 317 => 21 | 318 => 23 | 319 => 24 | 320 => 25 | 337 => 26 | 338 => 27 | n => n, fun | 3 => 3 | 9 => 9 | 2 => 2 | 4 => 4 | 171 => 41 | 0 => 0 | 53 => 42 | 37 => 28 | 5 => 5 | 173 => 45 | 212 => 49 | 51 => 50 | 20 => 20 | 213 => 51 | 46 => 53 | 232 => 56 | 233 => 57 | n => n, fun | 17 => 0 | 18 => 1 | 19 => 2 | n => n⟩
theorem Tryd.laysM171 : Go.Proofs.LaysM.n171 Tryd.prog Tryd.laysM171_ren := {
  mixed := by kernel_rfl
  f129 := Tryd.func22.trans (congrArg some (by kernel_rfl))
  f171 := Tryd.func11.trans (congrArg some (by kernel_rfl))
  f243 := Tryd.func14.trans (congrArg some (by kernel_rfl))
  f246 := Tryd.func16.trans (congrArg some (by kernel_rfl))
  f283 := Tryd.func17.trans (congrArg some (by kernel_rfl))
  f284 := Tryd.func18.trans (congrArg some (by kernel_rfl))
  f285 := Tryd.func19.trans (congrArg some (by kernel_rfl))
  f286 := Tryd.func20.trans (congrArg some (by kernel_rfl))
  f317 := Tryd.func21.trans (congrArg some (by kernel_rfl))
  f318 := Tryd.func23.trans (congrArg some (by kernel_rfl))
  f319 := Tryd.func24.trans (congrArg some (by kernel_rfl))
  f320 := Tryd.func25.trans (congrArg some (by kernel_rfl))
  f337 := Tryd.func26.trans (congrArg some (by kernel_rfl))
  f338 := Tryd.func27.trans (congrArg some (by kernel_rfl))
  t0 := Tryd.underlying0
  a0 := Tryd.isAgg0
  z0 := Tryd.sizeOf0
  v0 := Tryd.zeroValue0
  t2 := Tryd.underlying2
  a2 := Tryd.isAgg2
  z2 := Tryd.sizeOf2
  v2 := Tryd.zeroValue2
  t3 := Tryd.underlying3
  a3 := Tryd.isAgg3
  z3 := Tryd.sizeOf3
  v3 := Tryd.zeroValue3
  t4 := Tryd.underlying4
  a4 := Tryd.isAgg4
  z4 := Tryd.sizeOf4
  v4 := Tryd.zeroValue4
  t5 := Tryd.underlying5
  a5 := Tryd.isAgg5
  z5 := Tryd.sizeOf5
  v5 := Tryd.zeroValue5
  t9 := Tryd.underlying9
  a9 := Tryd.isAgg9
  z9 := Tryd.sizeOf9
  v9 := Tryd.zeroValue9
  t20 := Tryd.underlying20
  a20 := Tryd.isAgg20
  z20 := Tryd.sizeOf20
  v20 := Tryd.zeroValue20
  t37 := Tryd.underlying28
  a37 := Tryd.isAgg28
  z37 := Tryd.sizeOf28
  v37 := Tryd.zeroValue28
  t46 := Tryd.underlying53
  a46 := Tryd.isAgg53
  z46 := Tryd.sizeOf53
  v46 := Tryd.zeroValue53
  t51 := Tryd.underlying50
  a51 := Tryd.isAgg50
  z51 := Tryd.sizeOf50
  v51 := Tryd.zeroValue50
  t53 := Tryd.underlying42
  a53 := Tryd.isAgg42
  z53 := Tryd.sizeOf42
  v53 := Tryd.zeroValue42
  t171 := Tryd.underlying41
  a171 := Tryd.isAgg41
  z171 := Tryd.sizeOf41
  v171 := Tryd.zeroValue41
  t173 := Tryd.underlying45
  a173 := Tryd.isAgg45
  z173 := Tryd.sizeOf45
  v173 := Tryd.zeroValue45
  t212 := Tryd.underlying49
  a212 := Tryd.isAgg49
  z212 := Tryd.sizeOf49
  v212 := Tryd.zeroValue49
  t213 := Tryd.underlying51
  a213 := Tryd.isAgg51
  z213 := Tryd.sizeOf51
  t232 := Tryd.underlying56
  a232 := Tryd.isAgg56
  z232 := Tryd.sizeOf56
  v232 := Tryd.zeroValue56
  t233 := Tryd.underlying57
  a233 := Tryd.isAgg57
  z233 := Tryd.sizeOf57
  v233 := Tryd.zeroValue57
  g17 := by kernel_rfl
  g18 := by kernel_rfl
  g19 := by kernel_rfl
  i0 := by kernel_rfl
  i2 := by kernel_rfl
  i3 := by kernel_rfl
  i4 := by kernel_rfl
  i5 := by kernel_rfl
  i9 := by kernel_rfl
  i20 := by kernel_rfl
  i37 := by kernel_rfl
  i46 := by kernel_rfl
  i51 := by kernel_rfl
  i53 := by kernel_rfl
  i171 := by kernel_rfl
  i173 := by kernel_rfl
  i212 := by kernel_rfl
  i232 := by kernel_rfl
  i233 := by kernel_rfl
  m17 := by kernel_rfl
  m18 := by kernel_rfl
  m19 := by kernel_rfl }

/-- the name of the table of the powers of ten, off the row's own list -/
def powName : String := Rows.fnPlaceholdersLengthAndGrowthRow.named.getD 0 ""

theorem string_any (B b : Nat) (l : List UInt8) (w : World) (h : Lib.IsBuilder 30 5 B b (Lib.byteCells l) w) (hBw : B ≤ w.heap.size) :
    Calls Tryd.prog 12 #[.pointer (some ⟨b, 0, none⟩)] w fun e w' => e = .returned (.string ⟨l.toArray⟩) ∧ Below B w w' := Any.Builder_String_any Tryd.lays169 Tryd.Builder_Extra_169 B b l w h hBw

theorem itoa_any (n : Nat) (h1 : n ≤ 9223372036854775807) (w : World) (htab : Lib.TabIs Tryd.prog w powName .u64 Lib.pow10Tab) :
    Calls Tryd.prog 11 #[.int .i64 (n : Int)] w fun e w' => e = .returned (.string ⟨(Lib.decDigits n).toArray⟩) ∧ ∃ k os, w' = grow (w.drewN k) os := by
  have h := Any.strconv_Itoa Tryd.laysM171 (n : Int) (by omega) (by omega) w htab
  rw [Lib.itoa_nonneg] at h
  exact h
end Go.Proofs.Qxb6605161aDoor
