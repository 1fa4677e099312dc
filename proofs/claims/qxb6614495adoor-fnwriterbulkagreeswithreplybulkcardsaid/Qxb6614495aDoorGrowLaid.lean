/-
  bytes.growSlice: the library's contract (Derived/Shelf/Bytes/GrowSlice.lean, imported), laid at this dump in plain words by the kit's tool lay-plain.mjs.
-/
import Derived.Shelf.Bytes.GrowSlice
import Derived.Test.Qxb6614495aDoorRows
namespace Go.Proofs.Qxb6614495aDoor
open Go.Shelf
def growRen : Go.Shelf.Ren := ⟨fun | 290 => 70 | 324 => 71 | n => n, fun | 37 => 24 | 3 => 3 | 0 => 0 | 4 => 4 | 20 => 20 | 75 => 48 | 5 => 5 | 80 => 96 | 9 => 9 | n => n, fun | 14 => 4 | n => n⟩
theorem growLays : Go.Proofs.LaysM.n290 Tryd.prog growRen := {
  mixed := by kernel_rfl
  f290 := Tryd.func70.trans (congrArg some (by kernel_rfl))
  f324 := Tryd.func71.trans (congrArg some (by kernel_rfl))
  t0 := Tryd.underlying0
  a0 := Tryd.isAgg0
  z0 := Tryd.sizeOf0
  v0 := Tryd.zeroValue0
  t3 := Tryd.underlying3
  a3 := Tryd.isAgg3
  z3 := Tryd.sizeOf3
  v3 := Tryd.zeroValue3
  t4 := Tryd.underlying4
  a4 := Tryd.isAgg4
  z4 := Tryd.sizeOf4
  v4 := Tryd.zeroValue4
  t20 := Tryd.underlying20
  a20 := Tryd.isAgg20
  z20 := Tryd.sizeOf20
  v20 := Tryd.zeroValue20
  t37 := Tryd.underlying24
  a37 := Tryd.isAgg24
  z37 := Tryd.sizeOf24
  v37 := Tryd.zeroValue24
  t75 := Tryd.underlying48
  a75 := Tryd.isAgg48
  z75 := Tryd.sizeOf48
  v75 := Tryd.zeroValue48
  g14 := by kernel_rfl
  t5 := Tryd.underlying5
  a5 := Tryd.isAgg5
  z5 := Tryd.sizeOf5
  v5 := Tryd.zeroValue5
  t9 := Tryd.underlying9
  a9 := Tryd.isAgg9
  z9 := Tryd.sizeOf9
  v9 := Tryd.zeroValue9
  t80 := Tryd.underlying96
  a80 := Tryd.isAgg96
  z80 := Tryd.sizeOf96
  v80 := Tryd.zeroValue96
  i0 := by kernel_rfl
  i3 := by kernel_rfl
  i4 := by kernel_rfl
  i5 := by kernel_rfl
  i9 := by kernel_rfl
  i20 := by kernel_rfl
  i37 := by kernel_rfl
  i75 := by kernel_rfl
  i80 := by kernel_rfl
  m14 := by kernel_rfl }

/-- bytes.growSlice, of a row. -/
theorem growSlice_row (g l c n : Nat) (cur : Array Value) (w : World) (hg : w.heap[g]? = some (.cells cur 5 (0, 0))) (hcs : cur.size = c) (hlc : l ≤ c) (hn : 1 ≤ n)
    (hlim : l + n ≤ 140737488355328) (hc2 : c ≤ 140737488355328) (h1 : ∀ v ∈ cur.toList.take l, v.oneCell' = true) :
    Calls Tryd.prog 70 #[.slice (some ⟨g, 0, none⟩) l c, .int .i64 n] w fun e w' => ∃ cap2 cells, e = .returned (.slice (some ⟨w.heap.size, 0, none⟩) l cap2) ∧ w'.heap[w.heap.size]? = some (.cells cells 5 (0, 0)) ∧
      cells.size = cap2 ∧ cells.toList.take l = cur.toList.take l ∧ l + n ≤ cap2 ∧ cap2 ≤ maxLen ∧ RowKit.Below w.heap.size w w' :=
  Any.bytes_growSlice_row growLays g l c n cur w hg hcs hlc hn hlim hc2 h1

/-- bytes.growSlice, of the nil slice. -/
theorem growSlice_nil (n : Nat) (w : World) (hn : 1 ≤ n) (hlim : n ≤ 140737488355328) :
    Calls Tryd.prog 70 #[.slice none 0 0, .int .i64 n] w fun e w' => ∃ cap2 cells, e = .returned (.slice (some ⟨w.heap.size, 0, none⟩) 0 cap2) ∧ w'.heap[w.heap.size]? = some (.cells cells 5 (0, 0)) ∧
      cells.size = cap2 ∧ n ≤ cap2 ∧ cap2 ≤ maxLen ∧ RowKit.Below w.heap.size w w' :=
  Any.bytes_growSlice_nil growLays n w hn hlim
end Go.Proofs.Qxb6614495aDoor
