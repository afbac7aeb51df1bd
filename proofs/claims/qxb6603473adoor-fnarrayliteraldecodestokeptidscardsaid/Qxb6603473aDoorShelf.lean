import Derived.Shelf.Strings.Builder1
import Derived.Shelf.Strings.Builder2
import Derived.Shelf.Strings.Prefix
import Derived.Shelf.LaysC
import Derived.Shelf.Strconv.ParseIntPublic10
import Derived.Shelf.Strconv.ErrVarParseInt
import Derived.Test.Qxb6603473aDoorRows
namespace Go.Proofs
open Go.Shelf
def Tryd.lays170_ren : Go.Shelf.Ren := ⟨fun | 170 => 17 | n => n, fun | 70 => 34 | 3 => 3 | 0 => 0 | 72 => 36 | 37 => 32 | 5 => 5 | n => n, fun | n => n⟩
theorem Tryd.lays170 : Go.Proofs.Lays.n170 Tryd.prog Tryd.lays170_ren := {
  mixed := by kernel_rfl
  f170 := Tryd.func17.trans (congrArg some (by kernel_rfl))
  t0 := Tryd.underlying0
  a0 := Tryd.isAgg0
  z0 := Tryd.sizeOf0
  v0 := Tryd.zeroValue0
  t3 := Tryd.underlying3
  a3 := Tryd.isAgg3
  z3 := Tryd.sizeOf3
  v3 := Tryd.zeroValue3
  t37 := Tryd.underlying32
  a37 := Tryd.isAgg32
  z37 := Tryd.sizeOf32
  v37 := Tryd.zeroValue32
  t70 := Tryd.underlying34
  a70 := Tryd.isAgg34
  z70 := Tryd.sizeOf34
  v70 := Tryd.zeroValue34
  t72 := Tryd.underlying36
  a72 := Tryd.isAgg36
  z72 := Tryd.sizeOf36
  v72 := Tryd.zeroValue36 }
def Tryd.lays169_ren : Go.Shelf.Ren := ⟨fun | 169 => 18 | n => n, fun | 70 => 34 | 9 => 9 | 0 => 0 | 72 => 36 | 37 => 32 | 127 => 46 | 3 => 3 | 5 => 5 | n => n, fun | n => n⟩
theorem Tryd.lays169 : Go.Proofs.Lays.n169 Tryd.prog Tryd.lays169_ren := {
  mixed := by kernel_rfl
  f169 := Tryd.func18.trans (congrArg some (by kernel_rfl))
  t0 := Tryd.underlying0
  a0 := Tryd.isAgg0
  z0 := Tryd.sizeOf0
  v0 := Tryd.zeroValue0
  t3 := Tryd.underlying3
  a3 := Tryd.isAgg3
  z3 := Tryd.sizeOf3
  v3 := Tryd.zeroValue3
  t9 := Tryd.underlying9
  a9 := Tryd.isAgg9
  z9 := Tryd.sizeOf9
  v9 := Tryd.zeroValue9
  t37 := Tryd.underlying32
  a37 := Tryd.isAgg32
  z37 := Tryd.sizeOf32
  v37 := Tryd.zeroValue32
  t70 := Tryd.underlying34
  a70 := Tryd.isAgg34
  z70 := Tryd.sizeOf34
  v70 := Tryd.zeroValue34
  t72 := Tryd.underlying36
  a72 := Tryd.isAgg36
  z72 := Tryd.sizeOf36
  v72 := Tryd.zeroValue36
  t127 := Tryd.underlying46
  a127 := Tryd.isAgg46
  z127 := Tryd.sizeOf46
  v127 := Tryd.zeroValue46 }
theorem Tryd.Builder_Extra_169 : Builder.Extra Tryd.prog Tryd.lays169_ren := {
  sizeBuilder := by kernel_rfl
  liesBuilder := by kernel_rfl
  t5 := Tryd.underlying5
  a5 := Tryd.isAgg5
  z5 := Tryd.sizeOf5
  v5 := Tryd.zeroValue5
  infoByte := by kernel_rfl
  cellsByte := by kernel_rfl
  sizeByte := by kernel_rfl
  neB5 := by decide }
def Tryd.lays165_ren : Go.Shelf.Ren := ⟨fun | 165 => 14 | 240 => 20 | 241 => 21 | 276 => 24 | 277 => 25 | n => n, fun | 70 => 34 | 3 => 3 | 0 => 0 | 4 => 4 | 9 => 9 | 20 => 20 | 72 => 36 | 37 => 32 | 164 => 47 | 5 => 5 | n => n, fun | n => n⟩
theorem Tryd.lays165 : Go.Proofs.Lays.n165 Tryd.prog Tryd.lays165_ren := {
  mixed := by kernel_rfl
  f165 := Tryd.func14.trans (congrArg some (by kernel_rfl))
  f240 := Tryd.func20.trans (congrArg some (by kernel_rfl))
  f241 := Tryd.func21.trans (congrArg some (by kernel_rfl))
  f276 := Tryd.func24.trans (congrArg some (by kernel_rfl))
  f277 := Tryd.func25.trans (congrArg some (by kernel_rfl))
  t0 := Tryd.underlying0
  a0 := Tryd.isAgg0
  z0 := Tryd.sizeOf0
  v0 := Tryd.zeroValue0
  t3 := Tryd.underlying3
  a3 := Tryd.isAgg3
  z3 := Tryd.sizeOf3
  v3 := Tryd.zeroValue3
  t4 := Tryd.underlying4
  a4 := Tryd.isAgg4
  z4 := Tryd.sizeOf4
  v4 := Tryd.zeroValue4
  t9 := Tryd.underlying9
  a9 := Tryd.isAgg9
  z9 := Tryd.sizeOf9
  v9 := Tryd.zeroValue9
  t20 := Tryd.underlying20
  a20 := Tryd.isAgg20
  z20 := Tryd.sizeOf20
  v20 := Tryd.zeroValue20
  t37 := Tryd.underlying32
  a37 := Tryd.isAgg32
  z37 := Tryd.sizeOf32
  v37 := Tryd.zeroValue32
  t70 := Tryd.underlying34
  a70 := Tryd.isAgg34
  z70 := Tryd.sizeOf34
  v70 := Tryd.zeroValue34
  t72 := Tryd.underlying36
  a72 := Tryd.isAgg36
  z72 := Tryd.sizeOf36
  v72 := Tryd.zeroValue36
  t164 := Tryd.underlying47
  a164 := Tryd.isAgg47
  z164 := Tryd.sizeOf47
  v164 := Tryd.zeroValue47 }
theorem Tryd.Builder_Extra_165 : Builder.Extra Tryd.prog Tryd.lays165_ren := {
  sizeBuilder := by kernel_rfl
  liesBuilder := by kernel_rfl
  t5 := Tryd.underlying5
  a5 := Tryd.isAgg5
  z5 := Tryd.sizeOf5
  v5 := Tryd.zeroValue5
  infoByte := by kernel_rfl
  cellsByte := by kernel_rfl
  sizeByte := by kernel_rfl
  neB5 := by decide }
def Tryd.laysC174_ren : Go.Shelf.Ren := ⟨fun | 174 => 22 | 247 => 26 | 245 => 27 | 287 => 29 | 279 => 30 | 280 => 31 | 281 => 32 | 282 => 33 | 321 => 35 | 322 => 36 | 316 => 37 | 171 => 39 | 205 => 38 | 243 => 40 | 246 => 41 | 283 => 42 | 284 => 43 | 285 => 44 | 286 => 45 | 129 => 47 | 317 => 46 | 318 => 48 | 319 => 49 | 320 => 50 | 337 => 51 | 338 => 52 | n => n, fun | 9 => 9 | 3 => 3 | 2 => 2 | 75 => 39 | 85 => 43 | 4 => 4 | 167 => 51 | 5 => 5 | 53 => 52 | 175 => 53 | 46 => 55 | 168 => 56 | 37 => 32 | 0 => 0 | 210 => 62 | 21 => 21 | 127 => 46 | 145 => 67 | 143 => 65 | 171 => 69 | 173 => 72 | 212 => 76 | 51 => 77 | 20 => 20 | 213 => 78 | 232 => 82 | 233 => 83 | 80 => 42 | n => n, fun | 15 => 1 | 16 => 2 | 17 => 3 | 18 => 4 | 19 => 5 | n => n⟩
theorem Tryd.laysC174 : Go.Proofs.LaysC.n174 Tryd.prog Tryd.laysC174_ren := {
  mixed := by kernel_rfl
  f129 := Tryd.func47.trans (congrArg some (by kernel_rfl))
  f171 := Tryd.func39.trans (congrArg some (by kernel_rfl))
  f174 := Tryd.func22.trans (congrArg some (by kernel_rfl))
  f205 := Tryd.func38.trans (congrArg some (by kernel_rfl))
  f243 := Tryd.func40.trans (congrArg some (by kernel_rfl))
  f245 := Tryd.func27.trans (congrArg some (by kernel_rfl))
  f246 := Tryd.func41.trans (congrArg some (by kernel_rfl))
  f247 := Tryd.func26.trans (congrArg some (by kernel_rfl))
  f279 := Tryd.func30.trans (congrArg some (by kernel_rfl))
  f280 := Tryd.func31.trans (congrArg some (by kernel_rfl))
  f281 := Tryd.func32.trans (congrArg some (by kernel_rfl))
  f282 := Tryd.func33.trans (congrArg some (by kernel_rfl))
  f283 := Tryd.func42.trans (congrArg some (by kernel_rfl))
  f284 := Tryd.func43.trans (congrArg some (by kernel_rfl))
  f285 := Tryd.func44.trans (congrArg some (by kernel_rfl))
  f286 := Tryd.func45.trans (congrArg some (by kernel_rfl))
  f287 := Tryd.func29.trans (congrArg some (by kernel_rfl))
  f316 := Tryd.func37.trans (congrArg some (by kernel_rfl))
  f317 := Tryd.func46.trans (congrArg some (by kernel_rfl))
  f318 := Tryd.func48.trans (congrArg some (by kernel_rfl))
  f319 := Tryd.func49.trans (congrArg some (by kernel_rfl))
  f320 := Tryd.func50.trans (congrArg some (by kernel_rfl))
  f321 := Tryd.func35.trans (congrArg some (by kernel_rfl))
  f322 := Tryd.func36.trans (congrArg some (by kernel_rfl))
  f337 := Tryd.func51.trans (congrArg some (by kernel_rfl))
  f338 := Tryd.func52.trans (congrArg some (by kernel_rfl))
  t0 := Tryd.underlying0
  a0 := Tryd.isAgg0
  z0 := Tryd.sizeOf0
  v0 := Tryd.zeroValue0
  t2 := Tryd.underlying2
  a2 := Tryd.isAgg2
  z2 := Tryd.sizeOf2
  v2 := Tryd.zeroValue2
  t3 := Tryd.underlying3
  a3 := Tryd.isAgg3
  z3 := Tryd.sizeOf3
  v3 := Tryd.zeroValue3
  t4 := Tryd.underlying4
  a4 := Tryd.isAgg4
  z4 := Tryd.sizeOf4
  v4 := Tryd.zeroValue4
  t5 := Tryd.underlying5
  a5 := Tryd.isAgg5
  z5 := Tryd.sizeOf5
  v5 := Tryd.zeroValue5
  t9 := Tryd.underlying9
  a9 := Tryd.isAgg9
  z9 := Tryd.sizeOf9
  v9 := Tryd.zeroValue9
  t20 := Tryd.underlying20
  a20 := Tryd.isAgg20
  z20 := Tryd.sizeOf20
  v20 := Tryd.zeroValue20
  t21 := Tryd.underlying21
  a21 := Tryd.isAgg21
  z21 := Tryd.sizeOf21
  v21 := Tryd.zeroValue21
  t37 := Tryd.underlying32
  a37 := Tryd.isAgg32
  z37 := Tryd.sizeOf32
  v37 := Tryd.zeroValue32
  t46 := Tryd.underlying55
  a46 := Tryd.isAgg55
  z46 := Tryd.sizeOf55
  v46 := Tryd.zeroValue55
  t51 := Tryd.underlying77
  a51 := Tryd.isAgg77
  z51 := Tryd.sizeOf77
  v51 := Tryd.zeroValue77
  t53 := Tryd.underlying52
  a53 := Tryd.isAgg52
  z53 := Tryd.sizeOf52
  v53 := Tryd.zeroValue52
  t75 := Tryd.underlying39
  a75 := Tryd.isAgg39
  z75 := Tryd.sizeOf39
  v75 := Tryd.zeroValue39
  t85 := Tryd.underlying43
  a85 := Tryd.isAgg43
  z85 := Tryd.sizeOf43
  v85 := Tryd.zeroValue43
  t127 := Tryd.underlying46
  a127 := Tryd.isAgg46
  z127 := Tryd.sizeOf46
  v127 := Tryd.zeroValue46
  t143 := Tryd.underlying65
  a143 := Tryd.isAgg65
  z143 := Tryd.sizeOf65
  v143 := Tryd.zeroValue65
  t145 := Tryd.underlying67
  a145 := Tryd.isAgg67
  z145 := Tryd.sizeOf67
  v145 := Tryd.zeroValue67
  t167 := Tryd.underlying51
  a167 := Tryd.isAgg51
  z167 := Tryd.sizeOf51
  v167 := Tryd.zeroValue51
  t168 := Tryd.underlying56
  a168 := Tryd.isAgg56
  z168 := Tryd.sizeOf56
  v168 := Tryd.zeroValue56
  t171 := Tryd.underlying69
  a171 := Tryd.isAgg69
  z171 := Tryd.sizeOf69
  v171 := Tryd.zeroValue69
  t173 := Tryd.underlying72
  a173 := Tryd.isAgg72
  z173 := Tryd.sizeOf72
  v173 := Tryd.zeroValue72
  t175 := Tryd.underlying53
  a175 := Tryd.isAgg53
  z175 := Tryd.sizeOf53
  v175 := Tryd.zeroValue53
  t210 := Tryd.underlying62
  a210 := Tryd.isAgg62
  z210 := Tryd.sizeOf62
  v210 := Tryd.zeroValue62
  t212 := Tryd.underlying76
  a212 := Tryd.isAgg76
  z212 := Tryd.sizeOf76
  v212 := Tryd.zeroValue76
  t213 := Tryd.underlying78
  a213 := Tryd.isAgg78
  z213 := Tryd.sizeOf78
  t232 := Tryd.underlying82
  a232 := Tryd.isAgg82
  z232 := Tryd.sizeOf82
  v232 := Tryd.zeroValue82
  t233 := Tryd.underlying83
  a233 := Tryd.isAgg83
  z233 := Tryd.sizeOf83
  v233 := Tryd.zeroValue83
  g15 := by kernel_rfl
  g16 := by kernel_rfl
  g17 := by kernel_rfl
  g18 := by kernel_rfl
  g19 := by kernel_rfl
  t80 := Tryd.underlying42
  a80 := Tryd.isAgg42
  z80 := Tryd.sizeOf42
  v80 := Tryd.zeroValue42
  i0 := by kernel_rfl
  i2 := by kernel_rfl
  i3 := by kernel_rfl
  i4 := by kernel_rfl
  i5 := by kernel_rfl
  i9 := by kernel_rfl
  i20 := by kernel_rfl
  i21 := by kernel_rfl
  i37 := by kernel_rfl
  i46 := by kernel_rfl
  i51 := by kernel_rfl
  i53 := by kernel_rfl
  i75 := by kernel_rfl
  i80 := by kernel_rfl
  i85 := by kernel_rfl
  i127 := by kernel_rfl
  i143 := by kernel_rfl
  i145 := by kernel_rfl
  i167 := by kernel_rfl
  i168 := by kernel_rfl
  i171 := by kernel_rfl
  i173 := by kernel_rfl
  i175 := by kernel_rfl
  i210 := by kernel_rfl
  i212 := by kernel_rfl
  i232 := by kernel_rfl
  i233 := by kernel_rfl
  m15 := by kernel_rfl
  m16 := by kernel_rfl
  m17 := by kernel_rfl
  m18 := by kernel_rfl
  m19 := by kernel_rfl
  c0 := by kernel_rfl
  c2 := by kernel_rfl
  c3 := by kernel_rfl
  c4 := by kernel_rfl
  c5 := by kernel_rfl
  c9 := by kernel_rfl
  c20 := by kernel_rfl
  c21 := by kernel_rfl
  c37 := by kernel_rfl
  c46 := by kernel_rfl
  c51 := by kernel_rfl
  c53 := by kernel_rfl
  c75 := by kernel_rfl
  c80 := by kernel_rfl
  c85 := by kernel_rfl
  c127 := by kernel_rfl
  c143 := by kernel_rfl
  c145 := by kernel_rfl
  c167 := by kernel_rfl
  c168 := by kernel_rfl
  c171 := by kernel_rfl
  c173 := by kernel_rfl
  c175 := by kernel_rfl
  c210 := by kernel_rfl
  c212 := by kernel_rfl
  c213 := by kernel_rfl
  c232 := by kernel_rfl
  c233 := by kernel_rfl }
def Tryd.lays101_ren : Go.Shelf.Ren := ⟨fun | 101 => 23 | 208 => 28 | 206 => 34 | n => n, fun | 9 => 9 | 4 => 4 | 3 => 3 | n => n, fun | n => n⟩
theorem Tryd.lays101 : Go.Proofs.Lays.n101 Tryd.prog Tryd.lays101_ren := {
  mixed := by kernel_rfl
  f101 := Tryd.func23.trans (congrArg some (by kernel_rfl))
  f206 := Tryd.func34.trans (congrArg some (by kernel_rfl))
  f208 := Tryd.func28.trans (congrArg some (by kernel_rfl))
  t3 := Tryd.underlying3
  a3 := Tryd.isAgg3
  z3 := Tryd.sizeOf3
  v3 := Tryd.zeroValue3
  t4 := Tryd.underlying4
  a4 := Tryd.isAgg4
  z4 := Tryd.sizeOf4
  v4 := Tryd.zeroValue4
  t9 := Tryd.underlying9
  a9 := Tryd.isAgg9
  z9 := Tryd.sizeOf9
  v9 := Tryd.zeroValue9 }
def Tryd.lays167_ren : Go.Shelf.Ren := ⟨fun | 167 => 15 | 240 => 20 | 276 => 24 | n => n, fun | 70 => 34 | 0 => 0 | 4 => 4 | 9 => 9 | 20 => 20 | 72 => 36 | 37 => 32 | 75 => 39 | 80 => 42 | 164 => 47 | 5 => 5 | n => n, fun | n => n⟩
theorem Tryd.lays167 : Go.Proofs.Lays.n167 Tryd.prog Tryd.lays167_ren := {
  mixed := by kernel_rfl
  f167 := Tryd.func15.trans (congrArg some (by kernel_rfl))
  f240 := Tryd.func20.trans (congrArg some (by kernel_rfl))
  f276 := Tryd.func24.trans (congrArg some (by kernel_rfl))
  t0 := Tryd.underlying0
  a0 := Tryd.isAgg0
  z0 := Tryd.sizeOf0
  v0 := Tryd.zeroValue0
  t4 := Tryd.underlying4
  a4 := Tryd.isAgg4
  z4 := Tryd.sizeOf4
  v4 := Tryd.zeroValue4
  t5 := Tryd.underlying5
  a5 := Tryd.isAgg5
  z5 := Tryd.sizeOf5
  v5 := Tryd.zeroValue5
  t9 := Tryd.underlying9
  a9 := Tryd.isAgg9
  z9 := Tryd.sizeOf9
  v9 := Tryd.zeroValue9
  t20 := Tryd.underlying20
  a20 := Tryd.isAgg20
  z20 := Tryd.sizeOf20
  v20 := Tryd.zeroValue20
  t37 := Tryd.underlying32
  a37 := Tryd.isAgg32
  z37 := Tryd.sizeOf32
  v37 := Tryd.zeroValue32
  t70 := Tryd.underlying34
  a70 := Tryd.isAgg34
  z70 := Tryd.sizeOf34
  v70 := Tryd.zeroValue34
  t72 := Tryd.underlying36
  a72 := Tryd.isAgg36
  z72 := Tryd.sizeOf36
  v72 := Tryd.zeroValue36
  t75 := Tryd.underlying39
  a75 := Tryd.isAgg39
  z75 := Tryd.sizeOf39
  v75 := Tryd.zeroValue39
  t164 := Tryd.underlying47
  a164 := Tryd.isAgg47
  z164 := Tryd.sizeOf47
  v164 := Tryd.zeroValue47 }
theorem Tryd.Builder_Extra_167 : Builder.Extra Tryd.prog Tryd.lays167_ren := {
  sizeBuilder := by kernel_rfl
  liesBuilder := by kernel_rfl
  t5 := Tryd.underlying5
  a5 := Tryd.isAgg5
  z5 := Tryd.sizeOf5
  v5 := Tryd.zeroValue5
  infoByte := by kernel_rfl
  cellsByte := by kernel_rfl
  sizeByte := by kernel_rfl
  neB5 := by decide }
open Go.RowKit
theorem Tryd.WriteByte (B b : Nat) (bs : List Value) (c : Int) (w : World) (h : Lib.IsBuilder 36 5 B b bs w) (hlen : bs.length + 1 ≤ 140737488355328) (hBw : B ≤ w.heap.size) :
    Calls Tryd.prog 15 #[.pointer (some ⟨b, 0, none⟩), .int .u8 c] w fun e w' => e = .returned .nilIface ∧ (Lib.BuilderAt 36 5 B b (.pointer (some ⟨b, 0, none⟩)) (bs ++ [.int .u8 c]) w' ∧ Below B w w') := Any.Builder_WriteByte Tryd.lays167 Tryd.Builder_Extra_167 B b bs c w h hlen hBw
theorem Tryd.BLen (B b : Nat) (bs : List Value) (w : World) (h : Lib.IsBuilder 36 5 B b bs w) :
    Calls Tryd.prog 17 #[.pointer (some ⟨b, 0, none⟩)] w fun e w' => e = .returned (.int .i64 bs.length) ∧ w' = w := Any.Builder_Len Tryd.lays170 B b bs w h
theorem Tryd.BString (B b : Nat) (l : List UInt8) (w : World) (h : Lib.IsBuilder 36 5 B b (Lib.byteCells l) w) (hBw : B ≤ w.heap.size) :
    Calls Tryd.prog 18 #[.pointer (some ⟨b, 0, none⟩)] w fun e w' => e = .returned (.string ⟨l.toArray⟩) ∧ Below B w w' := Any.Builder_String_any Tryd.lays169 Tryd.Builder_Extra_169 B b l w h hBw
theorem Tryd.BGrow (B b n : Nat) (w : World) (hB : B ≤ b) (hbk : w.heap[b]? = some (.cells #[.pointer none, .slice none 0 0] 36 (0, 0))) (hBw : B ≤ w.heap.size) (hn : n ≤ 281474976710656) :
    Calls Tryd.prog 14 #[.pointer (some ⟨b, 0, none⟩), .int .i64 n] w fun e w' => e = .returned (.tuple #[]) ∧ (Lib.BuilderAt 36 5 B b (.pointer (some ⟨b, 0, none⟩)) [] w' ∧ Below B w w') := Any.Builder_Grow_fresh Tryd.lays165 Tryd.Builder_Extra_165 B b n w hB hbk hBw hn
theorem Tryd.Trim (s p : ByteArray) (w : World) :
    Calls Tryd.prog 23 #[.string s, .string p] w fun e w' => e = .returned (.string ⟨(Lib.trimPrefix s.data.toList p.data.toList).toArray⟩) ∧ w' = w := Any.strings_TrimPrefix Tryd.lays101 s p w

/-- Does strconv.ParseInt take l, in base 10, as a number of 64 bits? -/
def parses (l : List UInt8) : Option Int := match Lib.parseIntB 64 l with
  | .ok v => some v
  | _ => none

def PIPost (l : List UInt8) (w : World) (e : Ending) (w' : World) : Prop :=
  ∃ v ev, e = .returned (.tuple #[.int .i64 v, ev]) ∧ (parses l = none → ∃ N : Nat, ev = .iface 56 (.pointer (some ⟨N, 0, none⟩))) ∧ (∀ v', parses l = some v' → ev = .nilIface) ∧ Below w.heap.size w w'

/-- strconv.ParseInt(s, 10, 64): a nil error where it takes s; an error that is not nil where it does not. -/
theorem Tryd.ParseInt (s : ByteArray) (hlim : s.size ≤ 281474976710656) (tp tq : TypeId) (p q : Value) (w : World)
    (hs : w.var? Tryd.prog "strconv.ErrSyntax" = some #[.iface tp p]) (hr : w.var? Tryd.prog "strconv.ErrRange" = some #[.iface tq q]) :
    Calls Tryd.prog 22 #[.string s, .int .i64 10, .int .i64 64] w (PIPost s.data.toList w) := by
  rcases h : Lib.parseIntB 64 s.data.toList with v | _ | _
  · refine (Any.strconv_ParseInt_10_at64_ok Tryd.laysC174 s (by omega) v h w).mono ?_
    rintro e w' ⟨rfl, hw⟩
    refine ⟨_, _, rfl, fun hn => by simp [parses, h] at hn, fun _ _ => rfl, ?_⟩
    rcases hw with rfl | ⟨t, rfl⟩
    · exact Below.refl _ _
    · exact Lib.bytesWorld_below _ _ _
  · refine (Any.strconv_ParseInt_10_at64_syntax_var Tryd.laysC174 s hlim h tp p w hs).mono ?_
    rintro e w' ⟨N, rfl, _, _, hb⟩
    exact ⟨_, _, rfl, fun _ => ⟨N, rfl⟩, fun v' hv => by simp [parses, h] at hv, hb⟩
  · refine (Any.strconv_ParseInt_10_at64_range_var Tryd.laysC174 s hlim h tq q w hr).mono ?_
    rintro e w' ⟨N, rfl, _, _, hb⟩
    exact ⟨_, _, rfl, fun _ => ⟨N, rfl⟩, fun v' hv => by simp [parses, h] at hv, hb⟩
end Go.Proofs
