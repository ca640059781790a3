/-
  The shelf's contracts on bytes.Buffer in a field (Len, String, tryGrowByReslice) and bytes.growSlice, laid at this dump in plain words.
-/
import Derived.Shelf.LaysM
import Derived.Shelf.Bytes.LenAt
import Derived.Shelf.Bytes.StringAt
import Derived.Shelf.Bytes.TryGrowAt
import Derived.Shelf.Bytes.GrowSlice
import Derived.Test.YbulkdmkcDoorProg
namespace Go.Proofs
open Go.Shelf
def Ybad.laysM290_ren : Go.Shelf.Ren := ⟨fun | 290 => 28 | 324 => 41 | n => n, fun | 37 => 22 | 3 => 3 | 0 => 0 | 4 => 4 | 20 => 20 | 75 => 39 | 5 => 5 | 80 => 47 | 9 => 9 | n => n, fun | 14 => 0 | n => n⟩
theorem Ybad.laysM290 : Go.Proofs.LaysM.n290 Ybad.prog Ybad.laysM290_ren := {
  mixed := by kernel_rfl
  f290 := Ybad.func28.trans (congrArg some (by kernel_rfl))
  f324 := Ybad.func41.trans (congrArg some (by kernel_rfl))
  t0 := Ybad.underlying0
  a0 := Ybad.isAgg0
  z0 := Ybad.sizeOf0
  v0 := Ybad.zeroValue0
  t3 := Ybad.underlying3
  a3 := Ybad.isAgg3
  z3 := Ybad.sizeOf3
  v3 := Ybad.zeroValue3
  t4 := Ybad.underlying4
  a4 := Ybad.isAgg4
  z4 := Ybad.sizeOf4
  v4 := Ybad.zeroValue4
  t20 := Ybad.underlying20
  a20 := Ybad.isAgg20
  z20 := Ybad.sizeOf20
  v20 := Ybad.zeroValue20
  t37 := Ybad.underlying22
  a37 := Ybad.isAgg22
  z37 := Ybad.sizeOf22
  v37 := Ybad.zeroValue22
  t75 := Ybad.underlying39
  a75 := Ybad.isAgg39
  z75 := Ybad.sizeOf39
  v75 := Ybad.zeroValue39
  g14 := by kernel_rfl
  t5 := Ybad.underlying5
  a5 := Ybad.isAgg5
  z5 := Ybad.sizeOf5
  v5 := Ybad.zeroValue5
  t9 := Ybad.underlying9
  a9 := Ybad.isAgg9
  z9 := Ybad.sizeOf9
  v9 := Ybad.zeroValue9
  t80 := Ybad.underlying47
  a80 := Ybad.isAgg47
  z80 := Ybad.sizeOf47
  v80 := Ybad.zeroValue47
  i0 := by kernel_rfl
  i3 := by kernel_rfl
  i4 := by kernel_rfl
  i5 := by kernel_rfl
  i9 := by kernel_rfl
  i20 := by kernel_rfl
  i37 := by kernel_rfl
  i75 := by kernel_rfl
  i80 := by kernel_rfl
  m14 := by kernel_rfl }
open Go.RowKit in
/-- bytes.growSlice: growSlice grows b by n, preserving the original content of b.: OF A SLICE THAT LIES AT THE HEAD OF A ROW: a new row, number 'w.heap.size': it begins with b's l cells; its capacity has room for n more; whatever lay below is as it was. (LAID: no walk: one application.) -/
theorem Ybad.bytes_growSlice_row (g l c n : Nat) (cur : Array Value) (w : World) (hg : w.heap[g]? = some (.cells cur 5 (0, 0))) (hcs : cur.size = c) (hlc : l ≤ c) (hn : 1 ≤ n) (hlim : l + n ≤ 140737488355328) (hc2 : c ≤ 140737488355328) (h1 : ∀ v ∈ cur.toList.take l, v.oneCell' = true) :
    Calls Ybad.prog 28 #[.slice (some ⟨g, 0, none⟩) l c, .int .i64 n] w fun e w' => ∃ cap2 cells, e = .returned (.slice (some ⟨w.heap.size, 0, none⟩) l cap2) ∧ w'.heap[w.heap.size]? = some (.cells cells 5 (0, 0)) ∧
      cells.size = cap2 ∧ cells.toList.take l = cur.toList.take l ∧ l + n ≤ cap2 ∧ cap2 ≤ maxLen ∧ Below w.heap.size w w' := Any.bytes_growSlice_row Ybad.laysM290 g l c n cur w hg hcs hlc hn hlim hc2 h1
open Go.RowKit in
/-- .. OF THE NIL SLICE: a new row with room for n. (LAID: no walk: one application.) -/
theorem Ybad.bytes_growSlice_nil (n : Nat) (w : World) (hn : 1 ≤ n) (hlim : n ≤ 140737488355328) :
    Calls Ybad.prog 28 #[.slice none 0 0, .int .i64 n] w fun e w' => ∃ cap2 cells, e = .returned (.slice (some ⟨w.heap.size, 0, none⟩) 0 cap2) ∧ w'.heap[w.heap.size]? = some (.cells cells 5 (0, 0)) ∧
      cells.size = cap2 ∧ n ≤ cap2 ∧ cap2 ≤ maxLen ∧ Below w.heap.size w w' := Any.bytes_growSlice_nil Ybad.laysM290 n w hn hlim
def Ybad.laysM181_ren : Go.Shelf.Ren := ⟨fun | 181 => 11 | n => n, fun | 130 => 56 | 3 => 3 | 0 => 0 | 93 => 35 | 37 => 22 | 91 => 33 | 5 => 5 | n => n, fun | n => n⟩
theorem Ybad.laysM181 : Go.Proofs.LaysM.n181 Ybad.prog Ybad.laysM181_ren := {
  mixed := by kernel_rfl
  f181 := Ybad.func11.trans (congrArg some (by kernel_rfl))
  t0 := Ybad.underlying0
  a0 := Ybad.isAgg0
  z0 := Ybad.sizeOf0
  v0 := Ybad.zeroValue0
  t3 := Ybad.underlying3
  a3 := Ybad.isAgg3
  z3 := Ybad.sizeOf3
  v3 := Ybad.zeroValue3
  t37 := Ybad.underlying22
  a37 := Ybad.isAgg22
  z37 := Ybad.sizeOf22
  v37 := Ybad.zeroValue22
  t93 := Ybad.underlying35
  a93 := Ybad.isAgg35
  z93 := Ybad.sizeOf35
  v93 := Ybad.zeroValue35
  t130 := Ybad.underlying56
  a130 := Ybad.isAgg56
  z130 := Ybad.sizeOf56
  v130 := Ybad.zeroValue56
  t5 := Ybad.underlying5
  a5 := Ybad.isAgg5
  z5 := Ybad.sizeOf5
  v5 := Ybad.zeroValue5
  t91 := Ybad.underlying33
  a91 := Ybad.isAgg33
  z91 := Ybad.sizeOf33
  v91 := Ybad.zeroValue33
  i0 := by kernel_rfl
  i3 := by kernel_rfl
  i5 := by kernel_rfl
  i37 := by kernel_rfl
  i91 := by kernel_rfl
  i93 := by kernel_rfl
  i130 := by kernel_rfl }
open Go.RowKit in
/-- (*bytes.Buffer).Len: Len returns the number of bytes of the unread portion of the buffer; b.Len() == len(b.Bytes()).: the world is as it was but for the count of draws (the statement has two reads: its order is drawn). (LAID: no walk: one application.) -/
theorem Ybad.Buffer_Len_at (T : TypeId) (R : Nat → Option Value) (B b q : Nat) (bs : List Value) (w : World) (h : LibA.IsBuffer T R 5 B b q bs w) :
    Calls Ybad.prog 11 #[.pointer (some ⟨b, q, none⟩)] w fun e w' => e = .returned (.int .i64 bs.length) ∧ ∃ n, w' = w.drewN n := Any.Buffer_Len_at Ybad.laysM181 T R B b q bs w h
def Ybad.laysM182_ren : Go.Shelf.Ren := ⟨fun | 182 => 22 | n => n, fun | 130 => 56 | 9 => 9 | 4 => 4 | 0 => 0 | 93 => 35 | 37 => 22 | 3 => 3 | 91 => 33 | 5 => 5 | n => n, fun | n => n⟩
theorem Ybad.laysM182 : Go.Proofs.LaysM.n182 Ybad.prog Ybad.laysM182_ren := {
  mixed := by kernel_rfl
  f182 := Ybad.func22.trans (congrArg some (by kernel_rfl))
  t0 := Ybad.underlying0
  a0 := Ybad.isAgg0
  z0 := Ybad.sizeOf0
  v0 := Ybad.zeroValue0
  t3 := Ybad.underlying3
  a3 := Ybad.isAgg3
  z3 := Ybad.sizeOf3
  v3 := Ybad.zeroValue3
  t4 := Ybad.underlying4
  a4 := Ybad.isAgg4
  z4 := Ybad.sizeOf4
  v4 := Ybad.zeroValue4
  t9 := Ybad.underlying9
  a9 := Ybad.isAgg9
  z9 := Ybad.sizeOf9
  v9 := Ybad.zeroValue9
  t37 := Ybad.underlying22
  a37 := Ybad.isAgg22
  z37 := Ybad.sizeOf22
  v37 := Ybad.zeroValue22
  t93 := Ybad.underlying35
  a93 := Ybad.isAgg35
  z93 := Ybad.sizeOf35
  v93 := Ybad.zeroValue35
  t130 := Ybad.underlying56
  a130 := Ybad.isAgg56
  z130 := Ybad.sizeOf56
  v130 := Ybad.zeroValue56
  t5 := Ybad.underlying5
  a5 := Ybad.isAgg5
  z5 := Ybad.sizeOf5
  v5 := Ybad.zeroValue5
  t91 := Ybad.underlying33
  a91 := Ybad.isAgg33
  z91 := Ybad.sizeOf33
  v91 := Ybad.zeroValue33
  i0 := by kernel_rfl
  i3 := by kernel_rfl
  i4 := by kernel_rfl
  i5 := by kernel_rfl
  i9 := by kernel_rfl
  i37 := by kernel_rfl
  i91 := by kernel_rfl
  i93 := by kernel_rfl
  i130 := by kernel_rfl }
open Go.RowKit in
/-- (*bytes.Buffer).String: String returns the contents of the unread portion of the buffer as a string.: THE BYTES THAT WERE WRITTEN. The world is as it was but for the count of draws (the statement has two reads: its order is drawn). (LAID: no walk: one application.) -/
theorem Ybad.Buffer_String_at (T : TypeId) (R : Nat → Option Value) (B b q : Nat) (l : List UInt8) (w : World) (h : LibA.IsBuffer T R 5 B b q (Lib.byteCells l) w) :
    Calls Ybad.prog 22 #[.pointer (some ⟨b, q, none⟩)] w fun e w' => e = .returned (.string ⟨l.toArray⟩) ∧ ∃ n, w' = w.drewN n := Any.Buffer_String_at Ybad.laysM182 T R B b q l w h
def Ybad.laysM251_ren : Go.Shelf.Ren := ⟨fun | 251 => 17 | n => n, fun | 130 => 56 | 3 => 3 | 4 => 4 | 0 => 0 | 93 => 35 | 37 => 22 | 91 => 33 | 5 => 5 | n => n, fun | n => n⟩
theorem Ybad.laysM251 : Go.Proofs.LaysM.n251 Ybad.prog Ybad.laysM251_ren := {
  mixed := by kernel_rfl
  f251 := Ybad.func17.trans (congrArg some (by kernel_rfl))
  t0 := Ybad.underlying0
  a0 := Ybad.isAgg0
  z0 := Ybad.sizeOf0
  v0 := Ybad.zeroValue0
  t3 := Ybad.underlying3
  a3 := Ybad.isAgg3
  z3 := Ybad.sizeOf3
  v3 := Ybad.zeroValue3
  t4 := Ybad.underlying4
  a4 := Ybad.isAgg4
  z4 := Ybad.sizeOf4
  v4 := Ybad.zeroValue4
  t37 := Ybad.underlying22
  a37 := Ybad.isAgg22
  z37 := Ybad.sizeOf22
  v37 := Ybad.zeroValue22
  t93 := Ybad.underlying35
  a93 := Ybad.isAgg35
  z93 := Ybad.sizeOf35
  v93 := Ybad.zeroValue35
  t130 := Ybad.underlying56
  a130 := Ybad.isAgg56
  z130 := Ybad.sizeOf56
  v130 := Ybad.zeroValue56
  t5 := Ybad.underlying5
  a5 := Ybad.isAgg5
  z5 := Ybad.sizeOf5
  v5 := Ybad.zeroValue5
  t91 := Ybad.underlying33
  a91 := Ybad.isAgg33
  z91 := Ybad.sizeOf33
  v91 := Ybad.zeroValue33
  i0 := by kernel_rfl
  i3 := by kernel_rfl
  i4 := by kernel_rfl
  i5 := by kernel_rfl
  i37 := by kernel_rfl
  i91 := by kernel_rfl
  i93 := by kernel_rfl
  i130 := by kernel_rfl }
open Go.RowKit in
/-- (*bytes.Buffer).tryGrowByReslice: tryGrowByReslice is an inlineable version of grow for the fast-case where the internal buffer only needs to be resliced. It returns the index where bytes should be written and whether it succeeded.: THERE IS ROOM: 'buf' is resliced to l + n. (LAID: no walk: one application.) -/
theorem Ybad.Buffer_tryGrow_room_at (b q : Nat) (ao : Option Addr) (l cap n : Nat) (w : World) (c0 : w.cell? ⟨b, q, none⟩ = some (.slice ao l cap)) (f0 : w.frozen? ⟨b, q, none⟩ = false) (hlc : l ≤ cap) (hcap : cap ≤ maxLen) (hn : n ≤ cap - l) :
    Calls Ybad.prog 17 #[.pointer (some ⟨b, q, none⟩), .int .i64 n] w fun e w' => e = .returned (.tuple #[.int .i64 l, .bool true]) ∧ w' = w.setCell ⟨b, q, none⟩ (.slice ao (l + n) cap) := Any.Buffer_tryGrow_room_at Ybad.laysM251 b q ao l cap n w c0 f0 hlc hcap hn
open Go.RowKit in
/-- .. THERE IS NONE: nothing turns. (LAID: no walk: one application.) -/
theorem Ybad.Buffer_tryGrow_none_at (b q : Nat) (ao : Option Addr) (l cap n : Nat) (w : World) (c0 : w.cell? ⟨b, q, none⟩ = some (.slice ao l cap)) (hlc : l ≤ cap) (hcap : cap ≤ maxLen) (hn : cap - l < n) :
    Calls Ybad.prog 17 #[.pointer (some ⟨b, q, none⟩), .int .i64 n] w fun e w' => e = .returned (.tuple #[.int .i64 0, .bool false]) ∧ w' = w := Any.Buffer_tryGrow_none_at Ybad.laysM251 b q ao l cap n w c0 hlc hcap hn
end Go.Proofs
