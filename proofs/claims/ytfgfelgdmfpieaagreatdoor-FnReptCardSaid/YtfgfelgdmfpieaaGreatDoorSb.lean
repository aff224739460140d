/-
  bytes.Buffer at this program, laid from the shelf's contracts.
-/
import Derived.Shelf.LaysM
import Derived.Shelf.Bytes.BufferK
import Derived.Shelf.Bytes.String
import Derived.Test.YtfgfelgdmfpieaaGreatDoorProg
namespace Go.Proofs
open Go.Shelf
def Tryz.laysM182_ren : Go.Shelf.Ren := ⟨fun | 182 => 43 | n => n, fun | 130 => 112 | 9 => 9 | 4 => 4 | 0 => 0 | 93 => 85 | 37 => 81 | 3 => 3 | 91 => 83 | 5 => 5 | n => n, fun | n => n⟩
theorem Tryz.laysM182 : Go.Proofs.LaysM.n182 Tryz.prog Tryz.laysM182_ren := {
  mixed := by kernel_rfl
  f182 := Tryz.func43.trans (congrArg some (by kernel_rfl))
  t0 := Tryz.underlying0
  a0 := Tryz.isAgg0
  z0 := Tryz.sizeOf0
  v0 := Tryz.zeroValue0
  t3 := Tryz.underlying3
  a3 := Tryz.isAgg3
  z3 := Tryz.sizeOf3
  v3 := Tryz.zeroValue3
  t4 := Tryz.underlying4
  a4 := Tryz.isAgg4
  z4 := Tryz.sizeOf4
  v4 := Tryz.zeroValue4
  t9 := Tryz.underlying9
  a9 := Tryz.isAgg9
  z9 := Tryz.sizeOf9
  v9 := Tryz.zeroValue9
  t37 := Tryz.underlying81
  a37 := Tryz.isAgg81
  z37 := Tryz.sizeOf81
  v37 := Tryz.zeroValue81
  t93 := Tryz.underlying85
  a93 := Tryz.isAgg85
  z93 := Tryz.sizeOf85
  v93 := Tryz.zeroValue85
  t130 := Tryz.underlying112
  a130 := Tryz.isAgg112
  z130 := Tryz.sizeOf112
  v130 := Tryz.zeroValue112
  t5 := Tryz.underlying5
  a5 := Tryz.isAgg5
  z5 := Tryz.sizeOf5
  v5 := Tryz.zeroValue5
  t91 := Tryz.underlying83
  a91 := Tryz.isAgg83
  z91 := Tryz.sizeOf83
  v91 := Tryz.zeroValue83
  i0 := by kernel_rfl
  i3 := by kernel_rfl
  i4 := by kernel_rfl
  i5 := by kernel_rfl
  i9 := by kernel_rfl
  i37 := by kernel_rfl
  i91 := by kernel_rfl
  i93 := by kernel_rfl
  i130 := by kernel_rfl }
def Tryz.laysM178_ren : Go.Shelf.Ren := ⟨fun | 178 => 41 | 251 => 117 | 252 => 118 | 181 => 206 | 184 => 207 | 290 => 208 | 324 => 225 | n => n, fun | 130 => 112 | 9 => 9 | 3 => 3 | 75 => 87 | 0 => 0 | 93 => 85 | 91 => 83 | 131 => 113 | 4 => 4 | 37 => 81 | 20 => 20 | 80 => 90 | 5 => 5 | n => n, fun | 14 => 0 | n => n⟩
theorem Tryz.laysM178 : Go.Proofs.LaysM.n178 Tryz.prog Tryz.laysM178_ren := {
  mixed := by kernel_rfl
  f178 := Tryz.func41.trans (congrArg some (by kernel_rfl))
  f181 := Tryz.func206.trans (congrArg some (by kernel_rfl))
  f184 := Tryz.func207.trans (congrArg some (by kernel_rfl))
  f251 := Tryz.func117.trans (congrArg some (by kernel_rfl))
  f252 := Tryz.func118.trans (congrArg some (by kernel_rfl))
  f290 := Tryz.func208.trans (congrArg some (by kernel_rfl))
  f324 := Tryz.func225.trans (congrArg some (by kernel_rfl))
  t0 := Tryz.underlying0
  a0 := Tryz.isAgg0
  z0 := Tryz.sizeOf0
  v0 := Tryz.zeroValue0
  t3 := Tryz.underlying3
  a3 := Tryz.isAgg3
  z3 := Tryz.sizeOf3
  v3 := Tryz.zeroValue3
  t4 := Tryz.underlying4
  a4 := Tryz.isAgg4
  z4 := Tryz.sizeOf4
  v4 := Tryz.zeroValue4
  t9 := Tryz.underlying9
  a9 := Tryz.isAgg9
  z9 := Tryz.sizeOf9
  v9 := Tryz.zeroValue9
  t20 := Tryz.underlying20
  a20 := Tryz.isAgg20
  z20 := Tryz.sizeOf20
  v20 := Tryz.zeroValue20
  t37 := Tryz.underlying81
  a37 := Tryz.isAgg81
  z37 := Tryz.sizeOf81
  v37 := Tryz.zeroValue81
  t75 := Tryz.underlying87
  a75 := Tryz.isAgg87
  z75 := Tryz.sizeOf87
  v75 := Tryz.zeroValue87
  t91 := Tryz.underlying83
  a91 := Tryz.isAgg83
  z91 := Tryz.sizeOf83
  v91 := Tryz.zeroValue83
  t93 := Tryz.underlying85
  a93 := Tryz.isAgg85
  z93 := Tryz.sizeOf85
  v93 := Tryz.zeroValue85
  t130 := Tryz.underlying112
  a130 := Tryz.isAgg112
  z130 := Tryz.sizeOf112
  v130 := Tryz.zeroValue112
  t131 := Tryz.underlying113
  a131 := Tryz.isAgg113
  z131 := Tryz.sizeOf113
  v131 := Tryz.zeroValue113
  g14 := by kernel_rfl
  t5 := Tryz.underlying5
  a5 := Tryz.isAgg5
  z5 := Tryz.sizeOf5
  v5 := Tryz.zeroValue5
  t80 := Tryz.underlying90
  a80 := Tryz.isAgg90
  z80 := Tryz.sizeOf90
  v80 := Tryz.zeroValue90
  i0 := by kernel_rfl
  i3 := by kernel_rfl
  i4 := by kernel_rfl
  i5 := by kernel_rfl
  i9 := by kernel_rfl
  i20 := by kernel_rfl
  i37 := by kernel_rfl
  i75 := by kernel_rfl
  i80 := by kernel_rfl
  i91 := by kernel_rfl
  i93 := by kernel_rfl
  i130 := by kernel_rfl
  i131 := by kernel_rfl
  m14 := by kernel_rfl }
open Go.RowKit in
/-- (*bytes.Buffer).String: "String returns the contents of the unread portion of the buffer as a string.": THE BYTES THAT WERE WRITTEN. The world is as it was but for the count of draws (the statement has two reads: its order is drawn). (LAID: no walk: one application.) -/
theorem Tryz.Buffer_String (B b : Nat) (l : List UInt8) (w : World) (h : Lib.IsBuffer 85 5 B b (Lib.byteCells l) w) :
    Calls Tryz.prog 43 #[.pointer (some ⟨b, 0, none⟩)] w fun e w' => e = .returned (.string ⟨l.toArray⟩) ∧ ∃ n, w' = w.drewN n := Any.Buffer_String Tryz.laysM182 B b l w h
open Go.RowKit in
theorem Tryz.Buffer_WriteString_k (B b : Nat) (bs : List Value) (s : ByteArray) (w : World) (h : Lib.IsBuffer 85 5 B b bs w) (hBw : B ≤ w.heap.size) (h1 : ∀ v ∈ bs, v.oneCell' = true) (hlim : bs.length + s.size ≤ 140737488355328) :
    Calls Tryz.prog 41 #[.pointer (some ⟨b, 0, none⟩), .string s] w fun e w' => e = .returned (.tuple #[.int .i64 s.size, .nilIface]) ∧ Lib.IsBuffer 85 5 B b (bs ++ Lib.byteCells s.data.toList) w' ∧ Below B w w' ∧ Lib.OthersKept 5 (some b) w w' := Any.Buffer_WriteString_k Tryz.laysM178 B b bs s w h hBw h1 hlim
end Go.Proofs
