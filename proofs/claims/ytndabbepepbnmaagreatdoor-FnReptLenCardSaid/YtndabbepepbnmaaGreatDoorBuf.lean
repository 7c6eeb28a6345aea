/-
  DERIVED: THE SHELF's CONTRACTS AT THIS DUMP, IN PLAIN WORDS (tools/lay-plain.mjs out of 'TryzShelf.lean', which tools/lay-shelf.mjs wrote): THE SAME DECLARATIONS UNDER THE SAME NAMES: 'import', 'namespace', 'open', 'def', 'theorem' AND NOTHING ELSE: no command of the shelf's: FOR A HAND-IN. Each laying: the table of numbers ('.._ren') and one theorem, a field a fact of the dump's own or the kernel's comparison; each contract: ONE APPLICATION.
-/
import Derived.Shelf.LaysM
import Derived.Shelf.Bytes.String
import Derived.Shelf.Bytes.BufferK
import Derived.Test.YtndabbepepbnmaaGreatDoorProg
namespace Go.Proofs
open Go.Shelf
def Tryz.laysM182_ren : Go.Shelf.Ren := ⟨fun | 182 => 168 | n => n, fun | 130 => 156 | 9 => 9 | 4 => 4 | 0 => 0 | 93 => 132 | 37 => 128 | 3 => 3 | 91 => 130 | 5 => 5 | n => n, fun | n => n⟩
theorem Tryz.laysM182 : Go.Proofs.LaysM.n182 Tryz.prog Tryz.laysM182_ren := {
  mixed := by kernel_rfl
  f182 := Tryz.func168.trans (congrArg some (by kernel_rfl))
  t0 := Tryz.underlying0
  a0 := Tryz.isAgg0
  z0 := Tryz.sizeOf0
  v0 := Tryz.zeroValue0
  t3 := Tryz.underlying3
  a3 := Tryz.isAgg3
  z3 := Tryz.sizeOf3
  v3 := Tryz.zeroValue3
  t4 := Tryz.underlying4
  a4 := Tryz.isAgg4
  z4 := Tryz.sizeOf4
  v4 := Tryz.zeroValue4
  t9 := Tryz.underlying9
  a9 := Tryz.isAgg9
  z9 := Tryz.sizeOf9
  v9 := Tryz.zeroValue9
  t37 := Tryz.underlying128
  a37 := Tryz.isAgg128
  z37 := Tryz.sizeOf128
  v37 := Tryz.zeroValue128
  t93 := Tryz.underlying132
  a93 := Tryz.isAgg132
  z93 := Tryz.sizeOf132
  v93 := Tryz.zeroValue132
  t130 := Tryz.underlying156
  a130 := Tryz.isAgg156
  z130 := Tryz.sizeOf156
  v130 := Tryz.zeroValue156
  t5 := Tryz.underlying5
  a5 := Tryz.isAgg5
  z5 := Tryz.sizeOf5
  v5 := Tryz.zeroValue5
  t91 := Tryz.underlying130
  a91 := Tryz.isAgg130
  z91 := Tryz.sizeOf130
  v91 := Tryz.zeroValue130
  i0 := by kernel_rfl
  i3 := by kernel_rfl
  i4 := by kernel_rfl
  i5 := by kernel_rfl
  i9 := by kernel_rfl
  i37 := by kernel_rfl
  i91 := by kernel_rfl
  i93 := by kernel_rfl
  i130 := by kernel_rfl }
open Go.RowKit in
/-- (*bytes.Buffer).String: "String returns the contents of the unread portion of the buffer as a string.": THE BYTES THAT WERE WRITTEN. The world is as it was but for the count of draws (the statement has two reads: its order is drawn). (LAID: no walk: one application.) -/
theorem Tryz.Buffer_String (B b : Nat) (l : List UInt8) (w : World) (h : Lib.IsBuffer 132 5 B b (Lib.byteCells l) w) :
    Calls Tryz.prog 168 #[.pointer (some ⟨b, 0, none⟩)] w fun e w' => e = .returned (.string ⟨l.toArray⟩) ∧ ∃ n, w' = w.drewN n := Any.Buffer_String Tryz.laysM182 B b l w h
def Tryz.laysM178_ren : Go.Shelf.Ren := ⟨fun | 178 => 167 | 251 => 194 | 252 => 195 | 181 => 215 | 184 => 216 | 290 => 217 | 324 => 242 | n => n, fun | 130 => 156 | 9 => 9 | 3 => 3 | 75 => 122 | 0 => 0 | 93 => 132 | 91 => 130 | 131 => 157 | 4 => 4 | 37 => 128 | 20 => 20 | 80 => 119 | 5 => 5 | n => n, fun | 14 => 1 | n => n⟩
theorem Tryz.laysM178 : Go.Proofs.LaysM.n178 Tryz.prog Tryz.laysM178_ren := {
  mixed := by kernel_rfl
  f178 := Tryz.func167.trans (congrArg some (by kernel_rfl))
  f181 := Tryz.func215.trans (congrArg some (by kernel_rfl))
  f184 := Tryz.func216.trans (congrArg some (by kernel_rfl))
  f251 := Tryz.func194.trans (congrArg some (by kernel_rfl))
  f252 := Tryz.func195.trans (congrArg some (by kernel_rfl))
  f290 := Tryz.func217.trans (congrArg some (by kernel_rfl))
  f324 := Tryz.func242.trans (congrArg some (by kernel_rfl))
  t0 := Tryz.underlying0
  a0 := Tryz.isAgg0
  z0 := Tryz.sizeOf0
  v0 := Tryz.zeroValue0
  t3 := Tryz.underlying3
  a3 := Tryz.isAgg3
  z3 := Tryz.sizeOf3
  v3 := Tryz.zeroValue3
  t4 := Tryz.underlying4
  a4 := Tryz.isAgg4
  z4 := Tryz.sizeOf4
  v4 := Tryz.zeroValue4
  t9 := Tryz.underlying9
  a9 := Tryz.isAgg9
  z9 := Tryz.sizeOf9
  v9 := Tryz.zeroValue9
  t20 := Tryz.underlying20
  a20 := Tryz.isAgg20
  z20 := Tryz.sizeOf20
  v20 := Tryz.zeroValue20
  t37 := Tryz.underlying128
  a37 := Tryz.isAgg128
  z37 := Tryz.sizeOf128
  v37 := Tryz.zeroValue128
  t75 := Tryz.underlying122
  a75 := Tryz.isAgg122
  z75 := Tryz.sizeOf122
  v75 := Tryz.zeroValue122
  t91 := Tryz.underlying130
  a91 := Tryz.isAgg130
  z91 := Tryz.sizeOf130
  v91 := Tryz.zeroValue130
  t93 := Tryz.underlying132
  a93 := Tryz.isAgg132
  z93 := Tryz.sizeOf132
  v93 := Tryz.zeroValue132
  t130 := Tryz.underlying156
  a130 := Tryz.isAgg156
  z130 := Tryz.sizeOf156
  v130 := Tryz.zeroValue156
  t131 := Tryz.underlying157
  a131 := Tryz.isAgg157
  z131 := Tryz.sizeOf157
  v131 := Tryz.zeroValue157
  g14 := by kernel_rfl
  t5 := Tryz.underlying5
  a5 := Tryz.isAgg5
  z5 := Tryz.sizeOf5
  v5 := Tryz.zeroValue5
  t80 := Tryz.underlying119
  a80 := Tryz.isAgg119
  z80 := Tryz.sizeOf119
  v80 := Tryz.zeroValue119
  i0 := by kernel_rfl
  i3 := by kernel_rfl
  i4 := by kernel_rfl
  i5 := by kernel_rfl
  i9 := by kernel_rfl
  i20 := by kernel_rfl
  i37 := by kernel_rfl
  i75 := by kernel_rfl
  i80 := by kernel_rfl
  i91 := by kernel_rfl
  i93 := by kernel_rfl
  i130 := by kernel_rfl
  i131 := by kernel_rfl
  m14 := by kernel_rfl }
open Go.RowKit in
theorem Tryz.Buffer_WriteString_k (B b : Nat) (bs : List Value) (s : ByteArray) (w : World) (h : Lib.IsBuffer 132 5 B b bs w) (hBw : B ≤ w.heap.size) (h1 : ∀ v ∈ bs, v.oneCell' = true) (hlim : bs.length + s.size ≤ 140737488355328) :
    Calls Tryz.prog 167 #[.pointer (some ⟨b, 0, none⟩), .string s] w fun e w' => e = .returned (.tuple #[.int .i64 s.size, .nilIface]) ∧ Lib.IsBuffer 132 5 B b (bs ++ Lib.byteCells s.data.toList) w' ∧ Below B w w' ∧ Lib.OthersKept 5 (some b) w w' := Any.Buffer_WriteString_k Tryz.laysM178 B b bs s w h hBw h1 hlim
end Go.Proofs
