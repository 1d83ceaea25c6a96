/- Own texts Shelf of this claim, cut to what the claim uses. -/
import Derived.Shelf.LaysM
import Derived.Shelf.Bytes.GrowSliceCatch
import Derived.Shelf.Bytes.GrowSlice
import Derived.Shelf.Bytes.LenAt
import Derived.Shelf.Bytes.StringAt
import Derived.Shelf.Bytes.TryGrowAt
import Derived.Shelf.Bytes.GrowRow0At
import Derived.Shelf.Bytes.GrowRowAt
import Derived.Shelf.Bytes.GrowNilAt
import Derived.Shelf.Bytes.GrowAt
import Derived.Shelf.Bytes.WriteAt
import Derived.Shelf.Unicode.Latin
import Derived.Shelf.Unicode.Props
import Derived.Shelf.Unicode.PropsLaid
import Derived.Shelf.Unicode.Is16White
import Derived.Shelf.Unicode.IsSpaceAny
import Derived.Shelf.Unicode.Is16Any
import Derived.Shelf.Unicode.Is32Any
import Derived.Shelf.Unicode.ExclAny
import Derived.Shelf.Unicode.PredsAny
import Derived.Shelf.Unicode.PredsPay
import Derived.Shelf.Spec.DecodeRune
import Derived.Test.YtmfihkgbfoapaaaDoorProg
namespace Go.Proofs
open Go.Shelf
def Tryd.laysM324_ren : Go.Shelf.Ren := ⟨fun | 324 => 114 | n => n, fun | 20 => 20 | 4 => 4 | 75 => 136 | 0 => 0 | 80 => 96 | 9 => 9 | n => n, fun | 14 => 6 | n => n⟩
theorem Tryd.laysM324 : Go.Proofs.LaysM.n324 Tryd.prog Tryd.laysM324_ren := {
  mixed := by kernel_rfl
  f324 := Tryd.func114.trans (congrArg some (by kernel_rfl))
  t0 := Tryd.underlying0
  a0 := Tryd.isAgg0
  z0 := Tryd.sizeOf0
  v0 := Tryd.zeroValue0
  t4 := Tryd.underlying4
  a4 := Tryd.isAgg4
  z4 := Tryd.sizeOf4
  v4 := Tryd.zeroValue4
  t20 := Tryd.underlying20
  a20 := Tryd.isAgg20
  z20 := Tryd.sizeOf20
  v20 := Tryd.zeroValue20
  t75 := Tryd.underlying136
  a75 := Tryd.isAgg136
  z75 := Tryd.sizeOf136
  v75 := Tryd.zeroValue136
  g14 := by kernel_rfl
  t9 := Tryd.underlying9
  a9 := Tryd.isAgg9
  z9 := Tryd.sizeOf9
  v9 := Tryd.zeroValue9
  t80 := Tryd.underlying96
  a80 := Tryd.isAgg96
  z80 := Tryd.sizeOf96
  v80 := Tryd.zeroValue96
  i0 := by kernel_rfl
  i4 := by kernel_rfl
  i9 := by kernel_rfl
  i20 := by kernel_rfl
  i75 := by kernel_rfl
  i80 := by kernel_rfl
  m14 := by kernel_rfl }
def Tryd.laysM181_ren : Go.Shelf.Ren := ⟨fun | 181 => 77 | n => n, fun | 130 => 145 | 3 => 3 | 0 => 0 | 93 => 104 | 37 => 22 | 91 => 102 | 5 => 5 | n => n, fun | n => n⟩
theorem Tryd.laysM181 : Go.Proofs.LaysM.n181 Tryd.prog Tryd.laysM181_ren := {
  mixed := by kernel_rfl
  f181 := Tryd.func77.trans (congrArg some (by kernel_rfl))
  t0 := Tryd.underlying0
  a0 := Tryd.isAgg0
  z0 := Tryd.sizeOf0
  v0 := Tryd.zeroValue0
  t3 := Tryd.underlying3
  a3 := Tryd.isAgg3
  z3 := Tryd.sizeOf3
  v3 := Tryd.zeroValue3
  t37 := Tryd.underlying22
  a37 := Tryd.isAgg22
  z37 := Tryd.sizeOf22
  v37 := Tryd.zeroValue22
  t93 := Tryd.underlying104
  a93 := Tryd.isAgg104
  z93 := Tryd.sizeOf104
  v93 := Tryd.zeroValue104
  t130 := Tryd.underlying145
  a130 := Tryd.isAgg145
  z130 := Tryd.sizeOf145
  v130 := Tryd.zeroValue145
  t5 := Tryd.underlying5
  a5 := Tryd.isAgg5
  z5 := Tryd.sizeOf5
  v5 := Tryd.zeroValue5
  t91 := Tryd.underlying102
  a91 := Tryd.isAgg102
  z91 := Tryd.sizeOf102
  v91 := Tryd.zeroValue102
  i0 := by kernel_rfl
  i3 := by kernel_rfl
  i5 := by kernel_rfl
  i37 := by kernel_rfl
  i91 := by kernel_rfl
  i93 := by kernel_rfl
  i130 := by kernel_rfl }
open Go.RowKit in
theorem Tryd.Buffer_Len_at (T : TypeId) (R : Nat → Option Value) (B b q : Nat) (bs : List Value) (w : World) (h : LibA.IsBuffer T R 5 B b q bs w) :
    Calls Tryd.prog 77 #[.pointer (some ⟨b, q, none⟩)] w fun e w' => e = .returned (.int .i64 bs.length) ∧ ∃ n, w' = w.drewN n := Any.Buffer_Len_at Tryd.laysM181 T R B b q bs w h
def Tryd.laysM182_ren : Go.Shelf.Ren := ⟨fun | 182 => 79 | n => n, fun | 130 => 145 | 9 => 9 | 4 => 4 | 0 => 0 | 93 => 104 | 37 => 22 | 3 => 3 | 91 => 102 | 5 => 5 | n => n, fun | n => n⟩
theorem Tryd.laysM182 : Go.Proofs.LaysM.n182 Tryd.prog Tryd.laysM182_ren := {
  mixed := by kernel_rfl
  f182 := Tryd.func79.trans (congrArg some (by kernel_rfl))
  t0 := Tryd.underlying0
  a0 := Tryd.isAgg0
  z0 := Tryd.sizeOf0
  v0 := Tryd.zeroValue0
  t3 := Tryd.underlying3
  a3 := Tryd.isAgg3
  z3 := Tryd.sizeOf3
  v3 := Tryd.zeroValue3
  t4 := Tryd.underlying4
  a4 := Tryd.isAgg4
  z4 := Tryd.sizeOf4
  v4 := Tryd.zeroValue4
  t9 := Tryd.underlying9
  a9 := Tryd.isAgg9
  z9 := Tryd.sizeOf9
  v9 := Tryd.zeroValue9
  t37 := Tryd.underlying22
  a37 := Tryd.isAgg22
  z37 := Tryd.sizeOf22
  v37 := Tryd.zeroValue22
  t93 := Tryd.underlying104
  a93 := Tryd.isAgg104
  z93 := Tryd.sizeOf104
  v93 := Tryd.zeroValue104
  t130 := Tryd.underlying145
  a130 := Tryd.isAgg145
  z130 := Tryd.sizeOf145
  v130 := Tryd.zeroValue145
  t5 := Tryd.underlying5
  a5 := Tryd.isAgg5
  z5 := Tryd.sizeOf5
  v5 := Tryd.zeroValue5
  t91 := Tryd.underlying102
  a91 := Tryd.isAgg102
  z91 := Tryd.sizeOf102
  v91 := Tryd.zeroValue102
  i0 := by kernel_rfl
  i3 := by kernel_rfl
  i4 := by kernel_rfl
  i5 := by kernel_rfl
  i9 := by kernel_rfl
  i37 := by kernel_rfl
  i91 := by kernel_rfl
  i93 := by kernel_rfl
  i130 := by kernel_rfl }
open Go.RowKit in
theorem Tryd.Buffer_String_at (T : TypeId) (R : Nat → Option Value) (B b q : Nat) (l : List UInt8) (w : World) (h : LibA.IsBuffer T R 5 B b q (Lib.byteCells l) w) :
    Calls Tryd.prog 79 #[.pointer (some ⟨b, q, none⟩)] w fun e w' => e = .returned (.string ⟨l.toArray⟩) ∧ ∃ n, w' = w.drewN n := Any.Buffer_String_at Tryd.laysM182 T R B b q l w h
def Tryd.laysM251_ren : Go.Shelf.Ren := ⟨fun | 251 => 99 | n => n, fun | 130 => 145 | 3 => 3 | 4 => 4 | 0 => 0 | 93 => 104 | 37 => 22 | 91 => 102 | 5 => 5 | n => n, fun | n => n⟩
theorem Tryd.laysM251 : Go.Proofs.LaysM.n251 Tryd.prog Tryd.laysM251_ren := {
  mixed := by kernel_rfl
  f251 := Tryd.func99.trans (congrArg some (by kernel_rfl))
  t0 := Tryd.underlying0
  a0 := Tryd.isAgg0
  z0 := Tryd.sizeOf0
  v0 := Tryd.zeroValue0
  t3 := Tryd.underlying3
  a3 := Tryd.isAgg3
  z3 := Tryd.sizeOf3
  v3 := Tryd.zeroValue3
  t4 := Tryd.underlying4
  a4 := Tryd.isAgg4
  z4 := Tryd.sizeOf4
  v4 := Tryd.zeroValue4
  t37 := Tryd.underlying22
  a37 := Tryd.isAgg22
  z37 := Tryd.sizeOf22
  v37 := Tryd.zeroValue22
  t93 := Tryd.underlying104
  a93 := Tryd.isAgg104
  z93 := Tryd.sizeOf104
  v93 := Tryd.zeroValue104
  t130 := Tryd.underlying145
  a130 := Tryd.isAgg145
  z130 := Tryd.sizeOf145
  v130 := Tryd.zeroValue145
  t5 := Tryd.underlying5
  a5 := Tryd.isAgg5
  z5 := Tryd.sizeOf5
  v5 := Tryd.zeroValue5
  t91 := Tryd.underlying102
  a91 := Tryd.isAgg102
  z91 := Tryd.sizeOf102
  v91 := Tryd.zeroValue102
  i0 := by kernel_rfl
  i3 := by kernel_rfl
  i4 := by kernel_rfl
  i5 := by kernel_rfl
  i37 := by kernel_rfl
  i91 := by kernel_rfl
  i93 := by kernel_rfl
  i130 := by kernel_rfl }
def Tryd.laysM252_ren : Go.Shelf.Ren := ⟨fun | 252 => 100 | 181 => 77 | 184 => 68 | 251 => 99 | 290 => 110 | 324 => 114 | n => n, fun | 130 => 145 | 3 => 3 | 4 => 4 | 0 => 0 | 93 => 104 | 131 => 127 | 37 => 22 | 75 => 136 | 91 => 102 | 20 => 20 | 5 => 5 | 80 => 96 | 9 => 9 | n => n, fun | 14 => 6 | n => n⟩
theorem Tryd.laysM252 : Go.Proofs.LaysM.n252 Tryd.prog Tryd.laysM252_ren := {
  mixed := by kernel_rfl
  f181 := Tryd.func77.trans (congrArg some (by kernel_rfl))
  f184 := Tryd.func68.trans (congrArg some (by kernel_rfl))
  f251 := Tryd.func99.trans (congrArg some (by kernel_rfl))
  f252 := Tryd.func100.trans (congrArg some (by kernel_rfl))
  f290 := Tryd.func110.trans (congrArg some (by kernel_rfl))
  f324 := Tryd.func114.trans (congrArg some (by kernel_rfl))
  t0 := Tryd.underlying0
  a0 := Tryd.isAgg0
  z0 := Tryd.sizeOf0
  v0 := Tryd.zeroValue0
  t3 := Tryd.underlying3
  a3 := Tryd.isAgg3
  z3 := Tryd.sizeOf3
  v3 := Tryd.zeroValue3
  t4 := Tryd.underlying4
  a4 := Tryd.isAgg4
  z4 := Tryd.sizeOf4
  v4 := Tryd.zeroValue4
  t20 := Tryd.underlying20
  a20 := Tryd.isAgg20
  z20 := Tryd.sizeOf20
  v20 := Tryd.zeroValue20
  t37 := Tryd.underlying22
  a37 := Tryd.isAgg22
  z37 := Tryd.sizeOf22
  v37 := Tryd.zeroValue22
  t75 := Tryd.underlying136
  a75 := Tryd.isAgg136
  z75 := Tryd.sizeOf136
  v75 := Tryd.zeroValue136
  t91 := Tryd.underlying102
  a91 := Tryd.isAgg102
  z91 := Tryd.sizeOf102
  v91 := Tryd.zeroValue102
  t93 := Tryd.underlying104
  a93 := Tryd.isAgg104
  z93 := Tryd.sizeOf104
  v93 := Tryd.zeroValue104
  t130 := Tryd.underlying145
  a130 := Tryd.isAgg145
  z130 := Tryd.sizeOf145
  v130 := Tryd.zeroValue145
  t131 := Tryd.underlying127
  a131 := Tryd.isAgg127
  z131 := Tryd.sizeOf127
  v131 := Tryd.zeroValue127
  g14 := by kernel_rfl
  t5 := Tryd.underlying5
  a5 := Tryd.isAgg5
  z5 := Tryd.sizeOf5
  v5 := Tryd.zeroValue5
  t9 := Tryd.underlying9
  a9 := Tryd.isAgg9
  z9 := Tryd.sizeOf9
  v9 := Tryd.zeroValue9
  t80 := Tryd.underlying96
  a80 := Tryd.isAgg96
  z80 := Tryd.sizeOf96
  v80 := Tryd.zeroValue96
  i0 := by kernel_rfl
  i3 := by kernel_rfl
  i4 := by kernel_rfl
  i5 := by kernel_rfl
  i9 := by kernel_rfl
  i20 := by kernel_rfl
  i37 := by kernel_rfl
  i75 := by kernel_rfl
  i80 := by kernel_rfl
  i91 := by kernel_rfl
  i93 := by kernel_rfl
  i130 := by kernel_rfl
  i131 := by kernel_rfl
  m14 := by kernel_rfl }
open Go.RowKit in
theorem Tryd.Buffer_tryGrow_at (T : TypeId) (R : Nat → Option Value) (B b q n : Nat) (bs : List Value) (w : World) (h : LibA.IsBuffer T R 5 B b q bs w) :
    Calls Tryd.prog 99 #[.pointer (some ⟨b, q, none⟩), .int .i64 n] w fun e w' =>
      (e = .returned (.tuple #[.int .i64 bs.length, .bool true]) ∧ ∃ xs, xs.length = n ∧ LibA.IsBuffer T R 5 B b q (bs ++ xs) w' ∧ Below B w w' ∧ Lib.OthersKept 5 (some b) w w' ∧ w.grownBy w' (some b)) ∨
      (e = .returned (.tuple #[.int .i64 0, .bool false]) ∧ w' = w ∧ LibA.NoRoom b q n w) := Any.Buffer_tryGrow_at Tryd.laysM251 T R B b q n bs w h
open Go.RowKit in
theorem Tryd.Buffer_grow_at (T : TypeId) (R : Nat → Option Value) (B b q n : Nat) (bs : List Value) (w : World) (h : LibA.IsBuffer T R 5 B b q bs w) (hnr : LibA.NoRoom b q n w) (hBw : B ≤ w.heap.size) (h1 : ∀ v ∈ bs, v.oneCell' = true) (hlim : bs.length + n ≤ 140737488355328) :
    Calls Tryd.prog 100 #[.pointer (some ⟨b, q, none⟩), .int .i64 n] w fun e w' => e = .returned (.int .i64 bs.length) ∧ ∃ xs, xs.length = n ∧ LibA.IsBuffer T R 5 B b q (bs ++ xs) w' ∧ Below B w w' ∧ Lib.OthersKept 5 (some b) w w' ∧ w.grownBy w' (some b) := Any.Buffer_grow_at Tryd.laysM252 T R B b q n bs w h hnr hBw h1 hlim
def Tryd.laysM180_ren : Go.Shelf.Ren := ⟨fun | 180 => 78 | 251 => 99 | 252 => 100 | 181 => 77 | 184 => 68 | 290 => 110 | 324 => 114 | n => n, fun | 130 => 145 | 37 => 22 | 3 => 3 | 75 => 136 | 0 => 0 | 93 => 104 | 91 => 102 | 131 => 127 | 4 => 4 | 20 => 20 | 5 => 5 | 80 => 96 | 9 => 9 | n => n, fun | 14 => 6 | n => n⟩
theorem Tryd.laysM180 : Go.Proofs.LaysM.n180 Tryd.prog Tryd.laysM180_ren := {
  mixed := by kernel_rfl
  f180 := Tryd.func78.trans (congrArg some (by kernel_rfl))
  f181 := Tryd.func77.trans (congrArg some (by kernel_rfl))
  f184 := Tryd.func68.trans (congrArg some (by kernel_rfl))
  f251 := Tryd.func99.trans (congrArg some (by kernel_rfl))
  f252 := Tryd.func100.trans (congrArg some (by kernel_rfl))
  f290 := Tryd.func110.trans (congrArg some (by kernel_rfl))
  f324 := Tryd.func114.trans (congrArg some (by kernel_rfl))
  t0 := Tryd.underlying0
  a0 := Tryd.isAgg0
  z0 := Tryd.sizeOf0
  v0 := Tryd.zeroValue0
  t3 := Tryd.underlying3
  a3 := Tryd.isAgg3
  z3 := Tryd.sizeOf3
  v3 := Tryd.zeroValue3
  t4 := Tryd.underlying4
  a4 := Tryd.isAgg4
  z4 := Tryd.sizeOf4
  v4 := Tryd.zeroValue4
  t20 := Tryd.underlying20
  a20 := Tryd.isAgg20
  z20 := Tryd.sizeOf20
  v20 := Tryd.zeroValue20
  t37 := Tryd.underlying22
  a37 := Tryd.isAgg22
  z37 := Tryd.sizeOf22
  v37 := Tryd.zeroValue22
  t75 := Tryd.underlying136
  a75 := Tryd.isAgg136
  z75 := Tryd.sizeOf136
  v75 := Tryd.zeroValue136
  t91 := Tryd.underlying102
  a91 := Tryd.isAgg102
  z91 := Tryd.sizeOf102
  v91 := Tryd.zeroValue102
  t93 := Tryd.underlying104
  a93 := Tryd.isAgg104
  z93 := Tryd.sizeOf104
  v93 := Tryd.zeroValue104
  t130 := Tryd.underlying145
  a130 := Tryd.isAgg145
  z130 := Tryd.sizeOf145
  v130 := Tryd.zeroValue145
  t131 := Tryd.underlying127
  a131 := Tryd.isAgg127
  z131 := Tryd.sizeOf127
  v131 := Tryd.zeroValue127
  g14 := by kernel_rfl
  t5 := Tryd.underlying5
  a5 := Tryd.isAgg5
  z5 := Tryd.sizeOf5
  v5 := Tryd.zeroValue5
  t9 := Tryd.underlying9
  a9 := Tryd.isAgg9
  z9 := Tryd.sizeOf9
  v9 := Tryd.zeroValue9
  t80 := Tryd.underlying96
  a80 := Tryd.isAgg96
  z80 := Tryd.sizeOf96
  v80 := Tryd.zeroValue96
  i0 := by kernel_rfl
  i3 := by kernel_rfl
  i4 := by kernel_rfl
  i5 := by kernel_rfl
  i9 := by kernel_rfl
  i20 := by kernel_rfl
  i37 := by kernel_rfl
  i75 := by kernel_rfl
  i80 := by kernel_rfl
  i91 := by kernel_rfl
  i93 := by kernel_rfl
  i130 := by kernel_rfl
  i131 := by kernel_rfl
  m14 := by kernel_rfl }
def Tryd.lays198_ren : Go.Shelf.Ren := ⟨fun | 198 => 86 | 261 => 101 | 311 => 111 | 312 => 112 | n => n, fun | 21 => 21 | 4 => 4 | 141 => 153 | 0 => 0 | 196 => 167 | 193 => 164 | 3 => 3 | 51 => 161 | 198 => 170 | 49 => 168 | 194 => 165 | 201 => 173 | 226 => 175 | 46 => 106 | 227 => 176 | n => n, fun | 5 => 1 | n => n⟩
theorem Tryd.lays198 : Go.Proofs.Lays.n198 Tryd.prog Tryd.lays198_ren := {
  mixed := by kernel_rfl
  f198 := Tryd.func86.trans (congrArg some (by kernel_rfl))
  f261 := Tryd.func101.trans (congrArg some (by kernel_rfl))
  f311 := Tryd.func111.trans (congrArg some (by kernel_rfl))
  f312 := Tryd.func112.trans (congrArg some (by kernel_rfl))
  t0 := Tryd.underlying0
  a0 := Tryd.isAgg0
  z0 := Tryd.sizeOf0
  v0 := Tryd.zeroValue0
  t3 := Tryd.underlying3
  a3 := Tryd.isAgg3
  z3 := Tryd.sizeOf3
  v3 := Tryd.zeroValue3
  t4 := Tryd.underlying4
  a4 := Tryd.isAgg4
  z4 := Tryd.sizeOf4
  v4 := Tryd.zeroValue4
  t21 := Tryd.underlying21
  a21 := Tryd.isAgg21
  z21 := Tryd.sizeOf21
  v21 := Tryd.zeroValue21
  t46 := Tryd.underlying106
  a46 := Tryd.isAgg106
  z46 := Tryd.sizeOf106
  v46 := Tryd.zeroValue106
  t49 := Tryd.underlying168
  a49 := Tryd.isAgg168
  z49 := Tryd.sizeOf168
  v49 := Tryd.zeroValue168
  t51 := Tryd.underlying161
  a51 := Tryd.isAgg161
  z51 := Tryd.sizeOf161
  v51 := Tryd.zeroValue161
  t141 := Tryd.underlying153
  a141 := Tryd.isAgg153
  z141 := Tryd.sizeOf153
  v141 := Tryd.zeroValue153
  t193 := Tryd.underlying164
  a193 := Tryd.isAgg164
  z193 := Tryd.sizeOf164
  v193 := Tryd.zeroValue164
  t194 := Tryd.underlying165
  a194 := Tryd.isAgg165
  z194 := Tryd.sizeOf165
  v194 := Tryd.zeroValue165
  t196 := Tryd.underlying167
  a196 := Tryd.isAgg167
  z196 := Tryd.sizeOf167
  v196 := Tryd.zeroValue167
  t198 := Tryd.underlying170
  a198 := Tryd.isAgg170
  z198 := Tryd.sizeOf170
  v198 := Tryd.zeroValue170
  t201 := Tryd.underlying173
  a201 := Tryd.isAgg173
  z201 := Tryd.sizeOf173
  v201 := Tryd.zeroValue173
  t226 := Tryd.underlying175
  a226 := Tryd.isAgg175
  z226 := Tryd.sizeOf175
  v226 := Tryd.zeroValue175
  t227 := Tryd.underlying176
  a227 := Tryd.isAgg176
  z227 := Tryd.sizeOf176
  v227 := Tryd.zeroValue176
  g5 := by kernel_rfl }
def Tryd.lays200_ren : Go.Shelf.Ren := ⟨fun | 200 => 92 | 261 => 101 | 311 => 111 | 312 => 112 | n => n, fun | 21 => 21 | 4 => 4 | 51 => 161 | 5 => 5 | 119 => 157 | 0 => 0 | 141 => 153 | 196 => 167 | 193 => 164 | 3 => 3 | 198 => 170 | 49 => 168 | 194 => 165 | 201 => 173 | 226 => 175 | 46 => 106 | 227 => 176 | n => n, fun | 7 => 4 | 8 => 5 | n => n⟩
theorem Tryd.lays200 : Go.Proofs.Lays.n200 Tryd.prog Tryd.lays200_ren := {
  mixed := by kernel_rfl
  f200 := Tryd.func92.trans (congrArg some (by kernel_rfl))
  f261 := Tryd.func101.trans (congrArg some (by kernel_rfl))
  f311 := Tryd.func111.trans (congrArg some (by kernel_rfl))
  f312 := Tryd.func112.trans (congrArg some (by kernel_rfl))
  t0 := Tryd.underlying0
  a0 := Tryd.isAgg0
  z0 := Tryd.sizeOf0
  v0 := Tryd.zeroValue0
  t3 := Tryd.underlying3
  a3 := Tryd.isAgg3
  z3 := Tryd.sizeOf3
  v3 := Tryd.zeroValue3
  t4 := Tryd.underlying4
  a4 := Tryd.isAgg4
  z4 := Tryd.sizeOf4
  v4 := Tryd.zeroValue4
  t5 := Tryd.underlying5
  a5 := Tryd.isAgg5
  z5 := Tryd.sizeOf5
  v5 := Tryd.zeroValue5
  t21 := Tryd.underlying21
  a21 := Tryd.isAgg21
  z21 := Tryd.sizeOf21
  v21 := Tryd.zeroValue21
  t46 := Tryd.underlying106
  a46 := Tryd.isAgg106
  z46 := Tryd.sizeOf106
  v46 := Tryd.zeroValue106
  t49 := Tryd.underlying168
  a49 := Tryd.isAgg168
  z49 := Tryd.sizeOf168
  v49 := Tryd.zeroValue168
  t51 := Tryd.underlying161
  a51 := Tryd.isAgg161
  z51 := Tryd.sizeOf161
  v51 := Tryd.zeroValue161
  t119 := Tryd.underlying157
  a119 := Tryd.isAgg157
  z119 := Tryd.sizeOf157
  t141 := Tryd.underlying153
  a141 := Tryd.isAgg153
  z141 := Tryd.sizeOf153
  v141 := Tryd.zeroValue153
  t193 := Tryd.underlying164
  a193 := Tryd.isAgg164
  z193 := Tryd.sizeOf164
  v193 := Tryd.zeroValue164
  t194 := Tryd.underlying165
  a194 := Tryd.isAgg165
  z194 := Tryd.sizeOf165
  v194 := Tryd.zeroValue165
  t196 := Tryd.underlying167
  a196 := Tryd.isAgg167
  z196 := Tryd.sizeOf167
  v196 := Tryd.zeroValue167
  t198 := Tryd.underlying170
  a198 := Tryd.isAgg170
  z198 := Tryd.sizeOf170
  v198 := Tryd.zeroValue170
  t201 := Tryd.underlying173
  a201 := Tryd.isAgg173
  z201 := Tryd.sizeOf173
  v201 := Tryd.zeroValue173
  t226 := Tryd.underlying175
  a226 := Tryd.isAgg175
  z226 := Tryd.sizeOf175
  v226 := Tryd.zeroValue175
  t227 := Tryd.underlying176
  a227 := Tryd.isAgg176
  z227 := Tryd.sizeOf176
  v227 := Tryd.zeroValue176
  g7 := by kernel_rfl
  g8 := by kernel_rfl }
open Go.RowKit Go.Lib in
theorem Tryd.unicode_IsLetter_all (r : Int) (w : World) (hlo : -2147483648 ≤ r) (hhi : r ≤ 2147483647) (htab : Lib.TabIs Tryd.prog w "unicode.properties" .u8 Lib.propertiesTab) (hV : RVar 5 letterT w) :
    Calls Tryd.prog 92 #[.int .i32 r] w fun e w' => e = .returned (.bool (isLetterU r)) ∧ Below w.heap.size w w' := Any.unicode_IsLetter_all Tryd.lays200 (by kernel_rfl) r w hlo hhi htab hV
open Go.RowKit Go.Lib in
theorem Tryd.unicode_IsDigit_all (r : Int) (w : World) (hlo : -2147483648 ≤ r) (hhi : r ≤ 2147483647) (hV : RVar 1 digitT w) :
    Calls Tryd.prog 86 #[.int .i32 r] w fun e w' => e = .returned (.bool (isDigitU r)) ∧ Below w.heap.size w w' := Any.unicode_IsDigit_all Tryd.lays198 r w hlo hhi hV
def Tryd.lays7n32_ren : Go.Shelf.Ren := ⟨fun | 32 => 91 | 49 => 107 | n => n, fun | 30 => 22 | 21 => 21 | 3 => 3 | 0 => 0 | 5 => 5 | 4 => 4 | 33 => 75 | 66 => 157 | 25 => 106 | 69 => 160 | 68 => 159 | n => n, fun | 2 => 2 | 3 => 3 | n => n⟩
theorem Tryd.lays7n32 : Go.Proofs.Lays7.n32 Tryd.prog Tryd.lays7n32_ren := {
  mixed := by kernel_rfl
  f32 := Tryd.func91.trans (congrArg some (by kernel_rfl))
  f49 := Tryd.func107.trans (congrArg some (by kernel_rfl))
  t0 := Tryd.underlying0
  a0 := Tryd.isAgg0
  z0 := Tryd.sizeOf0
  v0 := Tryd.zeroValue0
  i0 := by kernel_rfl
  t3 := Tryd.underlying3
  a3 := Tryd.isAgg3
  z3 := Tryd.sizeOf3
  v3 := Tryd.zeroValue3
  i3 := by kernel_rfl
  t4 := Tryd.underlying4
  a4 := Tryd.isAgg4
  z4 := Tryd.sizeOf4
  v4 := Tryd.zeroValue4
  i4 := by kernel_rfl
  t5 := Tryd.underlying5
  a5 := Tryd.isAgg5
  z5 := Tryd.sizeOf5
  v5 := Tryd.zeroValue5
  i5 := by kernel_rfl
  t21 := Tryd.underlying21
  a21 := Tryd.isAgg21
  z21 := Tryd.sizeOf21
  v21 := Tryd.zeroValue21
  i21 := by kernel_rfl
  t25 := Tryd.underlying106
  a25 := Tryd.isAgg106
  z25 := Tryd.sizeOf106
  v25 := Tryd.zeroValue106
  i25 := by kernel_rfl
  t30 := Tryd.underlying22
  a30 := Tryd.isAgg22
  z30 := Tryd.sizeOf22
  v30 := Tryd.zeroValue22
  i30 := by kernel_rfl
  t33 := Tryd.underlying75
  a33 := Tryd.isAgg75
  z33 := Tryd.sizeOf75
  v33 := Tryd.zeroValue75
  i33 := by kernel_rfl
  t66 := Tryd.underlying157
  a66 := Tryd.isAgg157
  z66 := Tryd.sizeOf157
  t68 := Tryd.underlying159
  a68 := Tryd.isAgg159
  z68 := Tryd.sizeOf159
  v68 := Tryd.zeroValue159
  i68 := by kernel_rfl
  t69 := Tryd.underlying160
  a69 := Tryd.isAgg160
  z69 := Tryd.sizeOf160
  v69 := Tryd.zeroValue160
  i69 := by kernel_rfl
  g2 := by kernel_rfl
  g3 := by kernel_rfl }
open Go.RowKit Go.Lib in
theorem Tryd.utf8_DecodeRune (s : ByteArray) (b off cap : Nat) (w : World) (hT : Lib.Utf8Tabs 2 3 w)
    (hp : ∀ j, j < s.size → w.cell? ⟨b, off + j, none⟩ = some (.int .u8 (s.get! j).toNat)) :
    Calls Tryd.prog 91 #[.slice (some ⟨b, off, none⟩) s.size cap] w fun e w' => e = .returned (.tuple #[.int .i32 (Lib.decodeGo s).1, .int .i64 (Lib.decodeGo s).2]) ∧ Below w.heap.size w w' := Any7.utf8_DecodeRune Tryd.lays7n32 s b off cap w hT hp
end Go.Proofs
