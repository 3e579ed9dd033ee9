/- bytes.growSlice: the library's contract laid at this program (what a tool of the kit prints). Condition: lengths are bounded. -/
import Derived.Test.YtnkjnlmghnomiaaDoorBufB
import Derived.Shelf.Bytes.GrowSlice
namespace Go.Proofs.YtnkjnlmghnomiaaDoor
open Go.ChangeShapes Go.WideShapes Go.ChangeAt Go.RowKit
open Go.Shelf

def laysGrow_ren : Go.Shelf.Ren := ⟨fun | 290 => 70 | 324 => 72 | n => n, fun | 37 => 27 | 3 => 3 | 0 => 0 | 4 => 4 | 20 => 20 | 75 => 77 | 5 => 5 | 80 => 115 | 9 => 9 | n => n, fun | 14 => 0 | n => n⟩
theorem laysGrow : Go.Proofs.LaysM.n290 Tryd.prog laysGrow_ren := {
  mixed := by kernel_rfl
  f290 := Tryd.func70.trans (congrArg some (by kernel_rfl))
  f324 := Tryd.func72.trans (congrArg some (by kernel_rfl))
  t0 := Tryd.underlying0
  a0 := Tryd.isAgg0
  z0 := Tryd.sizeOf0
  v0 := Tryd.zeroValue0
  t3 := Tryd.underlying3
  a3 := Tryd.isAgg3
  z3 := Tryd.sizeOf3
  v3 := Tryd.zeroValue3
  t4 := Tryd.underlying4
  a4 := Tryd.isAgg4
  z4 := Tryd.sizeOf4
  v4 := Tryd.zeroValue4
  t20 := Tryd.underlying20
  a20 := Tryd.isAgg20
  z20 := Tryd.sizeOf20
  v20 := Tryd.zeroValue20
  t37 := Tryd.underlying27
  a37 := Tryd.isAgg27
  z37 := Tryd.sizeOf27
  v37 := Tryd.zeroValue27
  t75 := Tryd.underlying77
  a75 := Tryd.isAgg77
  z75 := Tryd.sizeOf77
  v75 := Tryd.zeroValue77
  g14 := by kernel_rfl
  t5 := Tryd.underlying5
  a5 := Tryd.isAgg5
  z5 := Tryd.sizeOf5
  v5 := Tryd.zeroValue5
  t9 := Tryd.underlying9
  a9 := Tryd.isAgg9
  z9 := Tryd.sizeOf9
  v9 := Tryd.zeroValue9
  t80 := Tryd.underlying115
  a80 := Tryd.isAgg115
  z80 := Tryd.sizeOf115
  v80 := Tryd.zeroValue115
  i0 := by kernel_rfl
  i3 := by kernel_rfl
  i4 := by kernel_rfl
  i5 := by kernel_rfl
  i9 := by kernel_rfl
  i20 := by kernel_rfl
  i37 := by kernel_rfl
  i75 := by kernel_rfl
  i80 := by kernel_rfl
  m14 := by kernel_rfl }

theorem growOk : GrowOk := by
  refine ⟨fun g l c n cur w hg hcs hlc hn hl hc h1 => ?_, fun n w hn hl => ?_⟩
  · exact Any.bytes_growSlice_row laysGrow g l c n cur w hg hcs hlc hn (by omega) (by omega) h1
  · exact Any.bytes_growSlice_nil laysGrow n w hn (by omega)

end Go.Proofs.YtnkjnlmghnomiaaDoor
