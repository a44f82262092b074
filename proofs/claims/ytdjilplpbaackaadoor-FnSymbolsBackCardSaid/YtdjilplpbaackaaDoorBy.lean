/-
  bytes.Buffer: WriteByte and Bytes at this program, off the shelf (written by the kit's lay-shelf.mjs and lay-plain.mjs). Conditions: the buffer is one of the call's own.
-/
import Derived.Shelf.LaysM
import Derived.Shelf.Bytes.Bytes
import Derived.Shelf.Bytes.BufferK
import Derived.Test.YtdjilplpbaackaaDoorProg
namespace Go.Proofs.YtdjilplpbaackaaDoor
open Go.Shelf
def bufLays183_ren : Go.Shelf.Ren := ⟨fun | 183 => 26 | n => n, fun | 130 => 121 | 37 => 22 | 0 => 0 | 93 => 120 | 3 => 3 | 5 => 5 | 91 => 118 | n => n, fun | n => n⟩
theorem bufLays183 : Go.Proofs.LaysM.n183 Tryd.prog bufLays183_ren := {
  mixed := by kernel_rfl
  f183 := Tryd.func26.trans (congrArg some (by kernel_rfl))
  t0 := Tryd.underlying0
  a0 := Tryd.isAgg0
  z0 := Tryd.sizeOf0
  v0 := Tryd.zeroValue0
  t3 := Tryd.underlying3
  a3 := Tryd.isAgg3
  z3 := Tryd.sizeOf3
  v3 := Tryd.zeroValue3
  t37 := Tryd.underlying22
  a37 := Tryd.isAgg22
  z37 := Tryd.sizeOf22
  v37 := Tryd.zeroValue22
  t93 := Tryd.underlying120
  a93 := Tryd.isAgg120
  z93 := Tryd.sizeOf120
  v93 := Tryd.zeroValue120
  t130 := Tryd.underlying121
  a130 := Tryd.isAgg121
  z130 := Tryd.sizeOf121
  v130 := Tryd.zeroValue121
  t5 := Tryd.underlying5
  a5 := Tryd.isAgg5
  z5 := Tryd.sizeOf5
  v5 := Tryd.zeroValue5
  t91 := Tryd.underlying118
  a91 := Tryd.isAgg118
  z91 := Tryd.sizeOf118
  v91 := Tryd.zeroValue118
  i0 := by kernel_rfl
  i3 := by kernel_rfl
  i5 := by kernel_rfl
  i37 := by kernel_rfl
  i91 := by kernel_rfl
  i93 := by kernel_rfl
  i130 := by kernel_rfl }
open Go.RowKit in
/-- (*bytes.Buffer).Bytes: "Bytes returns a slice of length b.Len() holding the unread portion of the buffer. .. The slice aliases the buffer content at least until the next buffer modification": A SLICE THAT OWNS THE CELLS bs ('World.ownsRow': nil where nothing was ever written). The world is as it was but for the count of draws. (LAID: no walk: one application.) -/
theorem buffer_Bytes (B b : Nat) (bs : List Value) (w : World) (h : Lib.IsBuffer 120 5 B b bs w) :
    Calls Tryd.prog 26 #[.pointer (some ⟨b, 0, none⟩)] w fun e w' => ∃ v, e = .returned v ∧ w'.ownsRow B 5 1 v bs.length bs ∧ ∃ n, w' = w.drewN n := Any.Buffer_Bytes bufLays183 B b bs w h
def bufLays179_ren : Go.Shelf.Ren := ⟨fun | 179 => 71 | 251 => 73 | 252 => 74 | 181 => 75 | 184 => 69 | 290 => 76 | 324 => 77 | n => n, fun | 130 => 121 | 5 => 5 | 75 => 65 | 0 => 0 | 93 => 120 | 91 => 118 | 3 => 3 | 131 => 203 | 4 => 4 | 37 => 22 | 20 => 20 | 80 => 176 | 9 => 9 | n => n, fun | 14 => 3 | n => n⟩
theorem bufLays179 : Go.Proofs.LaysM.n179 Tryd.prog bufLays179_ren := {
  mixed := by kernel_rfl
  f179 := Tryd.func71.trans (congrArg some (by kernel_rfl))
  f181 := Tryd.func75.trans (congrArg some (by kernel_rfl))
  f184 := Tryd.func69.trans (congrArg some (by kernel_rfl))
  f251 := Tryd.func73.trans (congrArg some (by kernel_rfl))
  f252 := Tryd.func74.trans (congrArg some (by kernel_rfl))
  f290 := Tryd.func76.trans (congrArg some (by kernel_rfl))
  f324 := Tryd.func77.trans (congrArg some (by kernel_rfl))
  t0 := Tryd.underlying0
  a0 := Tryd.isAgg0
  z0 := Tryd.sizeOf0
  v0 := Tryd.zeroValue0
  t3 := Tryd.underlying3
  a3 := Tryd.isAgg3
  z3 := Tryd.sizeOf3
  v3 := Tryd.zeroValue3
  t4 := Tryd.underlying4
  a4 := Tryd.isAgg4
  z4 := Tryd.sizeOf4
  v4 := Tryd.zeroValue4
  t5 := Tryd.underlying5
  a5 := Tryd.isAgg5
  z5 := Tryd.sizeOf5
  v5 := Tryd.zeroValue5
  t20 := Tryd.underlying20
  a20 := Tryd.isAgg20
  z20 := Tryd.sizeOf20
  v20 := Tryd.zeroValue20
  t37 := Tryd.underlying22
  a37 := Tryd.isAgg22
  z37 := Tryd.sizeOf22
  v37 := Tryd.zeroValue22
  t75 := Tryd.underlying65
  a75 := Tryd.isAgg65
  z75 := Tryd.sizeOf65
  v75 := Tryd.zeroValue65
  t91 := Tryd.underlying118
  a91 := Tryd.isAgg118
  z91 := Tryd.sizeOf118
  v91 := Tryd.zeroValue118
  t93 := Tryd.underlying120
  a93 := Tryd.isAgg120
  z93 := Tryd.sizeOf120
  v93 := Tryd.zeroValue120
  t130 := Tryd.underlying121
  a130 := Tryd.isAgg121
  z130 := Tryd.sizeOf121
  v130 := Tryd.zeroValue121
  t131 := Tryd.underlying203
  a131 := Tryd.isAgg203
  z131 := Tryd.sizeOf203
  v131 := Tryd.zeroValue203
  g14 := by kernel_rfl
  t9 := Tryd.underlying9
  a9 := Tryd.isAgg9
  z9 := Tryd.sizeOf9
  v9 := Tryd.zeroValue9
  t80 := Tryd.underlying176
  a80 := Tryd.isAgg176
  z80 := Tryd.sizeOf176
  v80 := Tryd.zeroValue176
  i0 := by kernel_rfl
  i3 := by kernel_rfl
  i4 := by kernel_rfl
  i5 := by kernel_rfl
  i9 := by kernel_rfl
  i20 := by kernel_rfl
  i37 := by kernel_rfl
  i75 := by kernel_rfl
  i80 := by kernel_rfl
  i91 := by kernel_rfl
  i93 := by kernel_rfl
  i130 := by kernel_rfl
  i131 := by kernel_rfl
  m14 := by kernel_rfl }
open Go.RowKit in
theorem buffer_WriteByte_k (B b : Nat) (bs : List Value) (c : Int) (w : World) (h : Lib.IsBuffer 120 5 B b bs w) (hBw : B ≤ w.heap.size) (h1 : ∀ v ∈ bs, v.oneCell' = true) (hlim : bs.length + 1 ≤ 140737488355328) :
    Calls Tryd.prog 71 #[.pointer (some ⟨b, 0, none⟩), .int .u8 c] w fun e w' => e = .returned .nilIface ∧ Lib.IsBuffer 120 5 B b (bs ++ [.int .u8 c]) w' ∧ Below B w w' ∧ Lib.OthersKept 5 (some b) w w' := Any.Buffer_WriteByte_k bufLays179 B b bs c w h hBw h1 hlim
end Go.Proofs.YtdjilplpbaackaaDoor
