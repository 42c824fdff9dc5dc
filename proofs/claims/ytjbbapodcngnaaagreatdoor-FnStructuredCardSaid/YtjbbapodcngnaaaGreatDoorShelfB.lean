/-
  DERIVED: THE SHELF's CONTRACTS AT THIS DUMP, IN PLAIN WORDS (tools/lay-plain.mjs out of 'TryzShelfU.lean', which tools/lay-shelf.mjs wrote): THE SAME DECLARATIONS UNDER THE SAME NAMES: 'import', 'namespace', 'open', 'def', 'theorem' AND NOTHING ELSE: no command of the shelf's: FOR A HAND-IN. Each laying: the table of numbers ('.._ren') and one theorem, a field a fact of the dump's own or the kernel's comparison; each contract: ONE APPLICATION.
-/
import Derived.Shelf.LaysM
import Derived.Shelf.Bytes.String
import Derived.Shelf.Bytes.WriteAny
import Derived.Test.YtjbbapodcngnaaaGreatDoorProg
namespace Go.Proofs
open Go.Shelf
def Tryz.laysM182_ren : Go.Shelf.Ren := ⟨fun | 182 => 57 | n => n, fun | 130 => 125 | 9 => 9 | 4 => 4 | 0 => 0 | 93 => 123 | 37 => 85 | 3 => 3 | 91 => 121 | 5 => 5 | n => n, fun | n => n⟩
theorem Tryz.laysM182 : Go.Proofs.LaysM.n182 Tryz.prog Tryz.laysM182_ren := {
  mixed := by kernel_rfl
  f182 := Tryz.func57.trans (congrArg some (by kernel_rfl))
  t0 := Tryz.underlying0
  a0 := Tryz.isAgg0
  z0 := Tryz.sizeOf0
  v0 := Tryz.zeroValue0
  t3 := Tryz.underlying3
  a3 := Tryz.isAgg3
  z3 := Tryz.sizeOf3
  v3 := Tryz.zeroValue3
  t4 := Tryz.underlying4
  a4 := Tryz.isAgg4
  z4 := Tryz.sizeOf4
  v4 := Tryz.zeroValue4
  t9 := Tryz.underlying9
  a9 := Tryz.isAgg9
  z9 := Tryz.sizeOf9
  v9 := Tryz.zeroValue9
  t37 := Tryz.underlying85
  a37 := Tryz.isAgg85
  z37 := Tryz.sizeOf85
  v37 := Tryz.zeroValue85
  t93 := Tryz.underlying123
  a93 := Tryz.isAgg123
  z93 := Tryz.sizeOf123
  v93 := Tryz.zeroValue123
  t130 := Tryz.underlying125
  a130 := Tryz.isAgg125
  z130 := Tryz.sizeOf125
  v130 := Tryz.zeroValue125
  t5 := Tryz.underlying5
  a5 := Tryz.isAgg5
  z5 := Tryz.sizeOf5
  v5 := Tryz.zeroValue5
  t91 := Tryz.underlying121
  a91 := Tryz.isAgg121
  z91 := Tryz.sizeOf121
  v91 := Tryz.zeroValue121
  i0 := by kernel_rfl
  i3 := by kernel_rfl
  i4 := by kernel_rfl
  i5 := by kernel_rfl
  i9 := by kernel_rfl
  i37 := by kernel_rfl
  i91 := by kernel_rfl
  i93 := by kernel_rfl
  i130 := by kernel_rfl }
open Go.RowKit in
/-- (*bytes.Buffer).String: "String returns the contents of the unread portion of the buffer as a string.": THE BYTES THAT WERE WRITTEN. The world is as it was but for the count of draws (the statement has two reads: its order is drawn). (LAID: no walk: one application.) -/
theorem Tryz.Buffer_String (B b : Nat) (l : List UInt8) (w : World) (h : Lib.IsBuffer 123 5 B b (Lib.byteCells l) w) :
    Calls Tryz.prog 57 #[.pointer (some ⟨b, 0, none⟩)] w fun e w' => e = .returned (.string ⟨l.toArray⟩) ∧ ∃ n, w' = w.drewN n := Any.Buffer_String Tryz.laysM182 B b l w h
def Tryz.laysM180_ren : Go.Shelf.Ren := ⟨fun | 180 => 240 | 251 => 242 | 252 => 243 | 181 => 236 | 184 => 239 | 290 => 244 | 324 => 245 | n => n, fun | 130 => 125 | 37 => 85 | 3 => 3 | 75 => 93 | 0 => 0 | 93 => 123 | 91 => 121 | 131 => 272 | 4 => 4 | 20 => 20 | 5 => 5 | 80 => 119 | 9 => 9 | n => n, fun | 14 => 14 | n => n⟩
theorem Tryz.laysM180 : Go.Proofs.LaysM.n180 Tryz.prog Tryz.laysM180_ren := {
  mixed := by kernel_rfl
  f180 := Tryz.func240.trans (congrArg some (by kernel_rfl))
  f181 := Tryz.func236.trans (congrArg some (by kernel_rfl))
  f184 := Tryz.func239.trans (congrArg some (by kernel_rfl))
  f251 := Tryz.func242.trans (congrArg some (by kernel_rfl))
  f252 := Tryz.func243.trans (congrArg some (by kernel_rfl))
  f290 := Tryz.func244.trans (congrArg some (by kernel_rfl))
  f324 := Tryz.func245.trans (congrArg some (by kernel_rfl))
  t0 := Tryz.underlying0
  a0 := Tryz.isAgg0
  z0 := Tryz.sizeOf0
  v0 := Tryz.zeroValue0
  t3 := Tryz.underlying3
  a3 := Tryz.isAgg3
  z3 := Tryz.sizeOf3
  v3 := Tryz.zeroValue3
  t4 := Tryz.underlying4
  a4 := Tryz.isAgg4
  z4 := Tryz.sizeOf4
  v4 := Tryz.zeroValue4
  t20 := Tryz.underlying20
  a20 := Tryz.isAgg20
  z20 := Tryz.sizeOf20
  v20 := Tryz.zeroValue20
  t37 := Tryz.underlying85
  a37 := Tryz.isAgg85
  z37 := Tryz.sizeOf85
  v37 := Tryz.zeroValue85
  t75 := Tryz.underlying93
  a75 := Tryz.isAgg93
  z75 := Tryz.sizeOf93
  v75 := Tryz.zeroValue93
  t91 := Tryz.underlying121
  a91 := Tryz.isAgg121
  z91 := Tryz.sizeOf121
  v91 := Tryz.zeroValue121
  t93 := Tryz.underlying123
  a93 := Tryz.isAgg123
  z93 := Tryz.sizeOf123
  v93 := Tryz.zeroValue123
  t130 := Tryz.underlying125
  a130 := Tryz.isAgg125
  z130 := Tryz.sizeOf125
  v130 := Tryz.zeroValue125
  t131 := Tryz.underlying272
  a131 := Tryz.isAgg272
  z131 := Tryz.sizeOf272
  v131 := Tryz.zeroValue272
  g14 := by kernel_rfl
  t5 := Tryz.underlying5
  a5 := Tryz.isAgg5
  z5 := Tryz.sizeOf5
  v5 := Tryz.zeroValue5
  t9 := Tryz.underlying9
  a9 := Tryz.isAgg9
  z9 := Tryz.sizeOf9
  v9 := Tryz.zeroValue9
  t80 := Tryz.underlying119
  a80 := Tryz.isAgg119
  z80 := Tryz.sizeOf119
  v80 := Tryz.zeroValue119
  i0 := by kernel_rfl
  i3 := by kernel_rfl
  i4 := by kernel_rfl
  i5 := by kernel_rfl
  i9 := by kernel_rfl
  i20 := by kernel_rfl
  i37 := by kernel_rfl
  i75 := by kernel_rfl
  i80 := by kernel_rfl
  i91 := by kernel_rfl
  i93 := by kernel_rfl
  i130 := by kernel_rfl
  i131 := by kernel_rfl
  m14 := by kernel_rfl }
open Go.RowKit in
/-- (*bytes.Buffer).Write: "Write appends the contents of p to the buffer, growing the buffer as needed. The return value n is the length of p; err is always nil." (LAID: no walk: one application.) -/
theorem Tryz.Buffer_Write_any (B b : Nat) (bs cs : List Value) (a : Addr) (n c : Nat) (w : World) (h : Lib.IsBuffer 123 5 B b bs w) (hBw : B ≤ w.heap.size) (h1 : ∀ v ∈ bs, v.oneCell' = true) (hn : cs.length = n) (hab : a.block ≠ b) (hsrc : ∀ j v, cs[j]? = some v → w.cell? (a.add j) = some v) (h1c : ∀ v ∈ cs, v.oneCell' = true) (hlim : bs.length + n ≤ 140737488355328) :
    Calls Tryz.prog 240 #[.pointer (some ⟨b, 0, none⟩), .slice (some a) n c] w fun e w' => e = .returned (.tuple #[.int .i64 n, .nilIface]) ∧ Lib.IsBuffer 123 5 B b (bs ++ cs) w' ∧ Below B w w' ∧ Lib.OthersKept 5 (some b) w w' := Any.Buffer_Write_any Tryz.laysM180 B b bs cs a n c w h hBw h1 hn hab hsrc h1c hlim
end Go.Proofs
