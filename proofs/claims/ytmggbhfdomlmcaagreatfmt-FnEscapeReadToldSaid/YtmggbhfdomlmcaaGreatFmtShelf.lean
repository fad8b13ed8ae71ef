/-
  What Go's own library answers where the program calls it: the contracts of the kit's shelf, laid at this translation.
-/
import Derived.Test.YtmggbhfdomlmcaaGreatFmtProg
import Derived.Shelf.Bytes.String
import Derived.Shelf.Wr.WriteRune
import Derived.Shelf.Bytes.BufferK
import Derived.Shelf.Bytes.WriteAny
import Derived.Shelf.Unicode.DecodeAny
import Derived.Shelf.Hex.DecodeOwns
import Derived.Ground.NamesProg
import Derived.Ground.MzProg
namespace Go.Proofs.YtmggbhfdomlmcaaGreatFmt
open Go.Shelf

def Tryz.laysM182_ren : Go.Shelf.Ren := ⟨fun | 182 => 28 | n => n, fun | 130 => 153 | 9 => 9 | 4 => 4 | 0 => 0 | 93 => 56 | 37 => 52 | 3 => 3 | 91 => 54 | 5 => 5 | n => n, fun | n => n⟩

theorem Tryz.laysM182 : Go.Proofs.LaysM.n182 Tryz.prog Tryz.laysM182_ren := {
  mixed := by kernel_rfl
  f182 := Tryz.func28.trans (congrArg some (by kernel_rfl))
  t0 := Tryz.underlying0
  a0 := Tryz.isAgg0
  z0 := Tryz.sizeOf0
  v0 := Tryz.zeroValue0
  t3 := Tryz.underlying3
  a3 := Tryz.isAgg3
  z3 := Tryz.sizeOf3
  v3 := Tryz.zeroValue3
  t4 := Tryz.underlying4
  a4 := Tryz.isAgg4
  z4 := Tryz.sizeOf4
  v4 := Tryz.zeroValue4
  t9 := Tryz.underlying9
  a9 := Tryz.isAgg9
  z9 := Tryz.sizeOf9
  v9 := Tryz.zeroValue9
  t37 := Tryz.underlying52
  a37 := Tryz.isAgg52
  z37 := Tryz.sizeOf52
  v37 := Tryz.zeroValue52
  t93 := Tryz.underlying56
  a93 := Tryz.isAgg56
  z93 := Tryz.sizeOf56
  v93 := Tryz.zeroValue56
  t130 := Tryz.underlying153
  a130 := Tryz.isAgg153
  z130 := Tryz.sizeOf153
  v130 := Tryz.zeroValue153
  t5 := Tryz.underlying5
  a5 := Tryz.isAgg5
  z5 := Tryz.sizeOf5
  v5 := Tryz.zeroValue5
  t91 := Tryz.underlying54
  a91 := Tryz.isAgg54
  z91 := Tryz.sizeOf54
  v91 := Tryz.zeroValue54
  i0 := by kernel_rfl
  i3 := by kernel_rfl
  i4 := by kernel_rfl
  i5 := by kernel_rfl
  i9 := by kernel_rfl
  i37 := by kernel_rfl
  i91 := by kernel_rfl
  i93 := by kernel_rfl
  i130 := by kernel_rfl }

open Go.RowKit in
theorem Tryz.Buffer_String (B b : Nat) (l : List UInt8) (w : World) (h : Lib.IsBuffer 56 5 B b (Lib.byteCells l) w) :
    Calls Tryz.prog 28 #[.pointer (some ⟨b, 0, none⟩)] w fun e w' => e = .returned (.string ⟨l.toArray⟩) ∧ ∃ n, w' = w.drewN n := Any.Buffer_String Tryz.laysM182 B b l w h

def Tryz.laysM178_ren : Go.Shelf.Ren := ⟨fun | 178 => 25 | 251 => 44 | 252 => 45 | 181 => 55 | 184 => 56 | 290 => 57 | 324 => 80 | n => n, fun | 130 => 153 | 9 => 9 | 3 => 3 | 75 => 46 | 0 => 0 | 93 => 56 | 91 => 54 | 131 => 156 | 4 => 4 | 37 => 52 | 20 => 20 | 80 => 64 | 5 => 5 | n => n, fun | 14 => 2 | n => n⟩

theorem Tryz.laysM178 : Go.Proofs.LaysM.n178 Tryz.prog Tryz.laysM178_ren := {
  mixed := by kernel_rfl
  f178 := Tryz.func25.trans (congrArg some (by kernel_rfl))
  f181 := Tryz.func55.trans (congrArg some (by kernel_rfl))
  f184 := Tryz.func56.trans (congrArg some (by kernel_rfl))
  f251 := Tryz.func44.trans (congrArg some (by kernel_rfl))
  f252 := Tryz.func45.trans (congrArg some (by kernel_rfl))
  f290 := Tryz.func57.trans (congrArg some (by kernel_rfl))
  f324 := Tryz.func80.trans (congrArg some (by kernel_rfl))
  t0 := Tryz.underlying0
  a0 := Tryz.isAgg0
  z0 := Tryz.sizeOf0
  v0 := Tryz.zeroValue0
  t3 := Tryz.underlying3
  a3 := Tryz.isAgg3
  z3 := Tryz.sizeOf3
  v3 := Tryz.zeroValue3
  t4 := Tryz.underlying4
  a4 := Tryz.isAgg4
  z4 := Tryz.sizeOf4
  v4 := Tryz.zeroValue4
  t9 := Tryz.underlying9
  a9 := Tryz.isAgg9
  z9 := Tryz.sizeOf9
  v9 := Tryz.zeroValue9
  t20 := Tryz.underlying20
  a20 := Tryz.isAgg20
  z20 := Tryz.sizeOf20
  v20 := Tryz.zeroValue20
  t37 := Tryz.underlying52
  a37 := Tryz.isAgg52
  z37 := Tryz.sizeOf52
  v37 := Tryz.zeroValue52
  t75 := Tryz.underlying46
  a75 := Tryz.isAgg46
  z75 := Tryz.sizeOf46
  v75 := Tryz.zeroValue46
  t91 := Tryz.underlying54
  a91 := Tryz.isAgg54
  z91 := Tryz.sizeOf54
  v91 := Tryz.zeroValue54
  t93 := Tryz.underlying56
  a93 := Tryz.isAgg56
  z93 := Tryz.sizeOf56
  v93 := Tryz.zeroValue56
  t130 := Tryz.underlying153
  a130 := Tryz.isAgg153
  z130 := Tryz.sizeOf153
  v130 := Tryz.zeroValue153
  t131 := Tryz.underlying156
  a131 := Tryz.isAgg156
  z131 := Tryz.sizeOf156
  v131 := Tryz.zeroValue156
  g14 := by kernel_rfl
  t5 := Tryz.underlying5
  a5 := Tryz.isAgg5
  z5 := Tryz.sizeOf5
  v5 := Tryz.zeroValue5
  t80 := Tryz.underlying64
  a80 := Tryz.isAgg64
  z80 := Tryz.sizeOf64
  v80 := Tryz.zeroValue64
  i0 := by kernel_rfl
  i3 := by kernel_rfl
  i4 := by kernel_rfl
  i5 := by kernel_rfl
  i9 := by kernel_rfl
  i20 := by kernel_rfl
  i37 := by kernel_rfl
  i75 := by kernel_rfl
  i80 := by kernel_rfl
  i91 := by kernel_rfl
  i93 := by kernel_rfl
  i130 := by kernel_rfl
  i131 := by kernel_rfl
  m14 := by kernel_rfl }

def Tryz.laysM180_ren : Go.Shelf.Ren := ⟨fun | 180 => 26 | 251 => 44 | 252 => 45 | 181 => 55 | 184 => 56 | 290 => 57 | 324 => 80 | n => n, fun | 130 => 153 | 37 => 52 | 3 => 3 | 75 => 46 | 0 => 0 | 93 => 56 | 91 => 54 | 131 => 156 | 4 => 4 | 20 => 20 | 5 => 5 | 80 => 64 | 9 => 9 | n => n, fun | 14 => 2 | n => n⟩

theorem Tryz.laysM180 : Go.Proofs.LaysM.n180 Tryz.prog Tryz.laysM180_ren := {
  mixed := by kernel_rfl
  f180 := Tryz.func26.trans (congrArg some (by kernel_rfl))
  f181 := Tryz.func55.trans (congrArg some (by kernel_rfl))
  f184 := Tryz.func56.trans (congrArg some (by kernel_rfl))
  f251 := Tryz.func44.trans (congrArg some (by kernel_rfl))
  f252 := Tryz.func45.trans (congrArg some (by kernel_rfl))
  f290 := Tryz.func57.trans (congrArg some (by kernel_rfl))
  f324 := Tryz.func80.trans (congrArg some (by kernel_rfl))
  t0 := Tryz.underlying0
  a0 := Tryz.isAgg0
  z0 := Tryz.sizeOf0
  v0 := Tryz.zeroValue0
  t3 := Tryz.underlying3
  a3 := Tryz.isAgg3
  z3 := Tryz.sizeOf3
  v3 := Tryz.zeroValue3
  t4 := Tryz.underlying4
  a4 := Tryz.isAgg4
  z4 := Tryz.sizeOf4
  v4 := Tryz.zeroValue4
  t20 := Tryz.underlying20
  a20 := Tryz.isAgg20
  z20 := Tryz.sizeOf20
  v20 := Tryz.zeroValue20
  t37 := Tryz.underlying52
  a37 := Tryz.isAgg52
  z37 := Tryz.sizeOf52
  v37 := Tryz.zeroValue52
  t75 := Tryz.underlying46
  a75 := Tryz.isAgg46
  z75 := Tryz.sizeOf46
  v75 := Tryz.zeroValue46
  t91 := Tryz.underlying54
  a91 := Tryz.isAgg54
  z91 := Tryz.sizeOf54
  v91 := Tryz.zeroValue54
  t93 := Tryz.underlying56
  a93 := Tryz.isAgg56
  z93 := Tryz.sizeOf56
  v93 := Tryz.zeroValue56
  t130 := Tryz.underlying153
  a130 := Tryz.isAgg153
  z130 := Tryz.sizeOf153
  v130 := Tryz.zeroValue153
  t131 := Tryz.underlying156
  a131 := Tryz.isAgg156
  z131 := Tryz.sizeOf156
  v131 := Tryz.zeroValue156
  g14 := by kernel_rfl
  t5 := Tryz.underlying5
  a5 := Tryz.isAgg5
  z5 := Tryz.sizeOf5
  v5 := Tryz.zeroValue5
  t9 := Tryz.underlying9
  a9 := Tryz.isAgg9
  z9 := Tryz.sizeOf9
  v9 := Tryz.zeroValue9
  t80 := Tryz.underlying64
  a80 := Tryz.isAgg64
  z80 := Tryz.sizeOf64
  v80 := Tryz.zeroValue64
  i0 := by kernel_rfl
  i3 := by kernel_rfl
  i4 := by kernel_rfl
  i5 := by kernel_rfl
  i9 := by kernel_rfl
  i20 := by kernel_rfl
  i37 := by kernel_rfl
  i75 := by kernel_rfl
  i80 := by kernel_rfl
  i91 := by kernel_rfl
  i93 := by kernel_rfl
  i130 := by kernel_rfl
  i131 := by kernel_rfl
  m14 := by kernel_rfl }

open Go.RowKit in
theorem Tryz.Buffer_WriteString_k (B b : Nat) (bs : List Value) (s : ByteArray) (w : World) (h : Lib.IsBuffer 56 5 B b bs w) (hBw : B ≤ w.heap.size) (h1 : ∀ v ∈ bs, v.oneCell' = true) (hlim : bs.length + s.size ≤ 140737488355328) :
    Calls Tryz.prog 25 #[.pointer (some ⟨b, 0, none⟩), .string s] w fun e w' => e = .returned (.tuple #[.int .i64 s.size, .nilIface]) ∧ Lib.IsBuffer 56 5 B b (bs ++ Lib.byteCells s.data.toList) w' ∧ Below B w w' ∧ Lib.OthersKept 5 (some b) w w' := Any.Buffer_WriteString_k Tryz.laysM178 B b bs s w h hBw h1 hlim

open Go.RowKit in
theorem Tryz.Buffer_Write_any (B b : Nat) (bs cs : List Value) (a : Addr) (n c : Nat) (w : World) (h : Lib.IsBuffer 56 5 B b bs w) (hBw : B ≤ w.heap.size) (h1 : ∀ v ∈ bs, v.oneCell' = true) (hn : cs.length = n) (hab : a.block ≠ b) (hsrc : ∀ j v, cs[j]? = some v → w.cell? (a.add j) = some v) (h1c : ∀ v ∈ cs, v.oneCell' = true) (hlim : bs.length + n ≤ 140737488355328) :
    Calls Tryz.prog 26 #[.pointer (some ⟨b, 0, none⟩), .slice (some a) n c] w fun e w' => e = .returned (.tuple #[.int .i64 n, .nilIface]) ∧ Lib.IsBuffer 56 5 B b (bs ++ cs) w' ∧ Below B w w' ∧ Lib.OthersKept 5 (some b) w w' := Any.Buffer_Write_any Tryz.laysM180 B b bs cs a n c w h hBw h1 hn hab hsrc h1c hlim

def Tryz.laysWr5_ren : Go.Shelf.Ren := ⟨fun | 5 => 24 | 7 => 43 | 8 => 44 | 9 => 45 | 10 => 46 | 11 => 55 | 12 => 56 | 13 => 57 | 14 => 58 | 15 => 80 | n => n, fun | 34 => 153 | 21 => 21 | 3 => 3 | 28 => 46 | 35 => 154 | 4 => 4 | 5 => 5 | 0 => 0 | 26 => 56 | 24 => 54 | 37 => 156 | 22 => 52 | 43 => 152 | 20 => 20 | 31 => 64 | 9 => 9 | n => n, fun | 0 => 2 | n => n⟩

theorem Tryz.laysWr5 : Go.Proofs.LaysWr.n5 Tryz.prog Tryz.laysWr5_ren := {
  mixed := by kernel_rfl
  f5 := Tryz.func24.trans (congrArg some (by kernel_rfl))
  f7 := Tryz.func43.trans (congrArg some (by kernel_rfl))
  f8 := Tryz.func44.trans (congrArg some (by kernel_rfl))
  f9 := Tryz.func45.trans (congrArg some (by kernel_rfl))
  f10 := Tryz.func46.trans (congrArg some (by kernel_rfl))
  f11 := Tryz.func55.trans (congrArg some (by kernel_rfl))
  f12 := Tryz.func56.trans (congrArg some (by kernel_rfl))
  f13 := Tryz.func57.trans (congrArg some (by kernel_rfl))
  f14 := Tryz.func58.trans (congrArg some (by kernel_rfl))
  f15 := Tryz.func80.trans (congrArg some (by kernel_rfl))
  t0 := Tryz.underlying0
  a0 := Tryz.isAgg0
  z0 := Tryz.sizeOf0
  v0 := Tryz.zeroValue0
  i0 := by kernel_rfl
  t3 := Tryz.underlying3
  a3 := Tryz.isAgg3
  z3 := Tryz.sizeOf3
  v3 := Tryz.zeroValue3
  i3 := by kernel_rfl
  t4 := Tryz.underlying4
  a4 := Tryz.isAgg4
  z4 := Tryz.sizeOf4
  v4 := Tryz.zeroValue4
  i4 := by kernel_rfl
  t5 := Tryz.underlying5
  a5 := Tryz.isAgg5
  z5 := Tryz.sizeOf5
  v5 := Tryz.zeroValue5
  i5 := by kernel_rfl
  t9 := Tryz.underlying9
  a9 := Tryz.isAgg9
  z9 := Tryz.sizeOf9
  v9 := Tryz.zeroValue9
  i9 := by kernel_rfl
  t20 := Tryz.underlying20
  a20 := Tryz.isAgg20
  z20 := Tryz.sizeOf20
  v20 := Tryz.zeroValue20
  i20 := by kernel_rfl
  t21 := Tryz.underlying21
  a21 := Tryz.isAgg21
  z21 := Tryz.sizeOf21
  v21 := Tryz.zeroValue21
  i21 := by kernel_rfl
  t22 := Tryz.underlying52
  a22 := Tryz.isAgg52
  z22 := Tryz.sizeOf52
  v22 := Tryz.zeroValue52
  i22 := by kernel_rfl
  t24 := Tryz.underlying54
  a24 := Tryz.isAgg54
  z24 := Tryz.sizeOf54
  v24 := Tryz.zeroValue54
  i24 := by kernel_rfl
  t26 := Tryz.underlying56
  a26 := Tryz.isAgg56
  z26 := Tryz.sizeOf56
  v26 := Tryz.zeroValue56
  i26 := by kernel_rfl
  t28 := Tryz.underlying46
  a28 := Tryz.isAgg46
  z28 := Tryz.sizeOf46
  v28 := Tryz.zeroValue46
  i28 := by kernel_rfl
  t31 := Tryz.underlying64
  a31 := Tryz.isAgg64
  z31 := Tryz.sizeOf64
  v31 := Tryz.zeroValue64
  i31 := by kernel_rfl
  t34 := Tryz.underlying153
  a34 := Tryz.isAgg153
  z34 := Tryz.sizeOf153
  v34 := Tryz.zeroValue153
  i34 := by kernel_rfl
  t35 := Tryz.underlying154
  a35 := Tryz.isAgg154
  z35 := Tryz.sizeOf154
  v35 := Tryz.zeroValue154
  i35 := by kernel_rfl
  t37 := Tryz.underlying156
  a37 := Tryz.isAgg156
  z37 := Tryz.sizeOf156
  v37 := Tryz.zeroValue156
  i37 := by kernel_rfl
  t43 := Tryz.underlying152
  a43 := Tryz.isAgg152
  z43 := Tryz.sizeOf152
  v43 := Tryz.zeroValue152
  i43 := by kernel_rfl
  g0 := by kernel_rfl
  m0 := by kernel_rfl }

open Go.RowKit in
theorem Tryz.Buffer_WriteRune_k (B b : Nat) (bs : List Value) (r : Int) (hr0 : -2147483648 ≤ r) (hr1 : r ≤ 2147483647) (w : World) (h : Lib.IsBuffer 56 5 B b bs w) (hBw : B ≤ w.heap.size) (h1 : ∀ v ∈ bs, v.oneCell' = true) (hlim : bs.length + 4 ≤ 140737488355328) :
    Calls Tryz.prog 24 #[.pointer (some ⟨b, 0, none⟩), .int .i32 r] w fun e w' => e = .returned (.tuple #[.int .i64 (Lib.runeCells r).length, .nilIface]) ∧ Lib.IsBuffer 56 5 B b (bs ++ Lib.runeCells r) w' ∧ Below B w w' ∧ Lib.OthersKept 5 (some b) w w' := Any.Buffer_WriteRune_k Tryz.laysWr5 B b bs r hr0 hr1 w h hBw h1 hlim

def Tryz.lays197_ren : Go.Shelf.Ren := ⟨fun | 197 => 23 | 260 => 42 | n => n, fun | 9 => 9 | 21 => 21 | 3 => 3 | 4 => 4 | 5 => 5 | 105 => 57 | 119 => 218 | 0 => 0 | 46 => 152 | 139 => 221 | 138 => 220 | n => n, fun | 3 => 0 | 4 => 1 | n => n⟩

theorem Tryz.lays197 : Go.Proofs.Lays.n197 Tryz.prog Tryz.lays197_ren := {
  mixed := by kernel_rfl
  f197 := Tryz.func23.trans (congrArg some (by kernel_rfl))
  f260 := Tryz.func42.trans (congrArg some (by kernel_rfl))
  t0 := Tryz.underlying0
  a0 := Tryz.isAgg0
  z0 := Tryz.sizeOf0
  v0 := Tryz.zeroValue0
  t3 := Tryz.underlying3
  a3 := Tryz.isAgg3
  z3 := Tryz.sizeOf3
  v3 := Tryz.zeroValue3
  t4 := Tryz.underlying4
  a4 := Tryz.isAgg4
  z4 := Tryz.sizeOf4
  v4 := Tryz.zeroValue4
  t5 := Tryz.underlying5
  a5 := Tryz.isAgg5
  z5 := Tryz.sizeOf5
  v5 := Tryz.zeroValue5
  t9 := Tryz.underlying9
  a9 := Tryz.isAgg9
  z9 := Tryz.sizeOf9
  v9 := Tryz.zeroValue9
  t21 := Tryz.underlying21
  a21 := Tryz.isAgg21
  z21 := Tryz.sizeOf21
  v21 := Tryz.zeroValue21
  t46 := Tryz.underlying152
  a46 := Tryz.isAgg152
  z46 := Tryz.sizeOf152
  v46 := Tryz.zeroValue152
  t105 := Tryz.underlying57
  a105 := Tryz.isAgg57
  z105 := Tryz.sizeOf57
  v105 := Tryz.zeroValue57
  t119 := Tryz.underlying218
  a119 := Tryz.isAgg218
  z119 := Tryz.sizeOf218
  t138 := Tryz.underlying220
  a138 := Tryz.isAgg220
  z138 := Tryz.sizeOf220
  v138 := Tryz.zeroValue220
  t139 := Tryz.underlying221
  a139 := Tryz.isAgg221
  z139 := Tryz.sizeOf221
  v139 := Tryz.zeroValue221
  g3 := by kernel_rfl
  g4 := by kernel_rfl }

open Go.RowKit Go.Lib in
theorem Tryz.utf8_DecodeRuneInString (s : ByteArray) (w : World) (hT : Lib.Utf8Tabs 0 1 w) :
    Calls Tryz.prog 23 #[.string s] w fun e w' => e = .returned (.tuple #[.int .i32 (Lib.decodeGo s).1, .int .i64 (Lib.decodeGo s).2]) ∧ Below w.heap.size w w' := Any.utf8_DecodeRuneInString Tryz.lays197 s w hT

def Tryz.laysPah43_ren : Go.Shelf.Ren := ⟨fun | 43 => 148 | 42 => 153 | 44 => 154 | n => n, fun | 9 => 9 | 30 => 52 | 35 => 46 | 3 => 3 | 38 => 59 | 4 => 4 | 0 => 0 | 5 => 5 | 47 => 373 | 46 => 152 | 45 => 64 | n => n, fun | 0 => 13 | n => n⟩

theorem Tryz.laysPah43 : Go.Proofs.Lays.ph43 Tryz.prog Tryz.laysPah43_ren := {
  mixed := by kernel_rfl
  f42 := Tryz.func153.trans (congrArg some (by kernel_rfl))
  f43 := Tryz.func148.trans (congrArg some (by kernel_rfl))
  f44 := Tryz.func154.trans (congrArg some (by kernel_rfl))
  t0 := Tryz.underlying0
  a0 := Tryz.isAgg0
  z0 := Tryz.sizeOf0
  v0 := Tryz.zeroValue0
  t3 := Tryz.underlying3
  a3 := Tryz.isAgg3
  z3 := Tryz.sizeOf3
  v3 := Tryz.zeroValue3
  t4 := Tryz.underlying4
  a4 := Tryz.isAgg4
  z4 := Tryz.sizeOf4
  v4 := Tryz.zeroValue4
  t5 := Tryz.underlying5
  a5 := Tryz.isAgg5
  z5 := Tryz.sizeOf5
  v5 := Tryz.zeroValue5
  t9 := Tryz.underlying9
  a9 := Tryz.isAgg9
  z9 := Tryz.sizeOf9
  v9 := Tryz.zeroValue9
  t30 := Tryz.underlying52
  a30 := Tryz.isAgg52
  z30 := Tryz.sizeOf52
  v30 := Tryz.zeroValue52
  t35 := Tryz.underlying46
  a35 := Tryz.isAgg46
  z35 := Tryz.sizeOf46
  v35 := Tryz.zeroValue46
  t38 := Tryz.underlying59
  a38 := Tryz.isAgg59
  z38 := Tryz.sizeOf59
  v38 := Tryz.zeroValue59
  t45 := Tryz.underlying64
  a45 := Tryz.isAgg64
  z45 := Tryz.sizeOf64
  v45 := Tryz.zeroValue64
  t46 := Tryz.underlying152
  a46 := Tryz.isAgg152
  z46 := Tryz.sizeOf152
  v46 := Tryz.zeroValue152
  t47 := Tryz.underlying373
  a47 := Tryz.isAgg373
  z47 := Tryz.sizeOf373
  v47 := Tryz.zeroValue373
  g0 := by kernel_rfl
  info5 := by kernel_rfl }

open Go.RowKit Go.Lib in
theorem Tryz.hex_DecodeString (s : ByteArray) (w : World) (ev : Value) (hE : w.cell? ⟨13, 0, none⟩ = some ev) (hbig : s.size ≤ 281474976710656) :
    Calls Tryz.prog 148 #[.string s] w fun e w' =>
      e = .returned (.tuple #[.slice (some ⟨w.heap.size, 0, none⟩) (Hx.decode s.data.toList).1.length (s.size / 2), Hx.errVal 373 ev (Hx.decode s.data.toList).2]) ∧
      w'.rowIs w.heap.size 5 (s.size / 2) (Hx.rowP (fun _ => .int .u8 0) 0 (Hx.decode s.data.toList).1) ∧ Below w.heap.size w w' := Any.hex_DecodeString Tryz.laysPah43 s w ev hE hbig

end Go.Proofs.YtmggbhfdomlmcaaGreatFmt
