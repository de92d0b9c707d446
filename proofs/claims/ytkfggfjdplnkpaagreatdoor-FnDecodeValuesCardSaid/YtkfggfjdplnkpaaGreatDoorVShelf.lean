/- A part of the proof that the law FnDecodeValues returns true; its conditions are those of the last part. -/
import Derived.Shelf.Small.Utf8
import Derived.Shelf.Strconv.Itoa0
import Derived.Shelf.Strconv.Itoa1
import Derived.Shelf.LaysM
import Derived.Shelf.Strconv.Itoa2
import Derived.Shelf.Strconv.Itoa3
import Derived.Shelf.Strconv.ParseIntEmpty
import Derived.Shelf.Strconv.Clone
import Derived.Shelf.Strconv.SyntaxError
import Derived.Shelf.LaysC
import Derived.Shelf.Strconv.ToError
import Derived.Shelf.Strconv.Lower
import Derived.Shelf.Strconv.ParseUint10
import Derived.Shelf.Strconv.ParseUint10Empty
import Derived.Shelf.Strconv.ParseUint10Any
import Derived.Shelf.Strconv.ParseInt10
import Derived.Shelf.Strconv.RangeError
import Derived.Shelf.Strconv.ToErrorRange
import Derived.Shelf.Strconv.ParseUintEmpty
import Derived.Shelf.Strconv.ParseUint10b64
import Derived.Shelf.Strconv.ParseUint10b32
import Derived.Shelf.Strconv.ParseUint10b16
import Derived.Shelf.Strconv.ParseUint10b8
import Derived.Shelf.Strconv.ParseUint10At
import Derived.Shelf.Strconv.ParseInt10At64
import Derived.Shelf.Strconv.ParseInt10At32
import Derived.Shelf.Strconv.ParseInt10At16
import Derived.Shelf.Strconv.ParseInt10At8
import Derived.Shelf.Strconv.ParseInt10All
import Derived.Shelf.Strconv.ParseIntPublic10
import Derived.Shelf.Strconv.ErrVarParseInt
import Derived.Ground.MpProg
import Derived.Shelf.Pu.ParseUintPublic10
import Derived.Shelf.Pu.ErrVarParseUint
import Derived.Shelf.Bits.Mul64
import Derived.Test.YtkfggfjdplnkpaaGreatDoorProg
import Derived.Test.YtkfggfjdplnkpaaGreatDoorVShift
import Derived.Test.YtkfggfjdplnkpaaGreatDoorVUOk
import GoSem.PinnedTables
set_option maxRecDepth 100000
set_option linter.unusedVariables false
set_option linter.unusedSimpArgs false
section
namespace Go.Proofs
open Go.Shelf
def Tryz.lays129_ren:Go.Shelf.Ren:=⟨fun | 129=>192 | n=>n,fun | 53=>32 | 3=>3 | 4=>4 | 46=>193 | 5=>5 | 9=>9 | n=>n,fun | n=>n⟩
theorem Tryz.lays129:Go.Proofs.Lays.n129 Tryz.prog Tryz.lays129_ren:={
 mixed:=by kernel_rfl
 f129:=Tryz.func192.trans (congrArg some (by kernel_rfl))
 t3:=Tryz.underlying3
 a3:=Tryz.isAgg3
 z3:=Tryz.sizeOf3
 v3:=Tryz.zeroValue3
 t4:=Tryz.underlying4
 a4:=Tryz.isAgg4
 z4:=Tryz.sizeOf4
 v4:=Tryz.zeroValue4
 t5:=Tryz.underlying5
 a5:=Tryz.isAgg5
 z5:=Tryz.sizeOf5
 v5:=Tryz.zeroValue5
 t9:=Tryz.underlying9
 a9:=Tryz.isAgg9
 z9:=Tryz.sizeOf9
 v9:=Tryz.zeroValue9
 t46:=Tryz.underlying193
 a46:=Tryz.isAgg193
 z46:=Tryz.sizeOf193
 v46:=Tryz.zeroValue193
 t53:=Tryz.underlying32
 a53:=Tryz.isAgg32
 z53:=Tryz.sizeOf32
 v53:=Tryz.zeroValue32 }
theorem Tryz.bits_Len64 (x:Int) (w:World) (h0:0≤x) (h1:x≤18446744073709551615) :
  Calls Tryz.prog 192 #[.int .u64 x] w fun e w'=>e=.returned (.int .i64 (Lib.bitLen x.toNat))∧w'=w:=Any.bits_Len64 Tryz.lays129 x w h0 h1
def Tryz.laysC245_ren:Go.Shelf.Ren:=⟨fun | 245=>150 | 279=>158 | 280=>159 | 281=>160 | 282=>161 | 316=>168 | 171=>169 | 205=>51 | 243=>185 | 246=>203 | 283=>211 | 284=>212 | 285=>213 | 286=>214 | 129=>192 | 317=>217 | 318=>196 | 319=>218 | 320=>219 | 337=>220 | 338=>221 | n=>n,fun | 9=>9 | 3=>3 | 75=>48 | 167=>215 | 4=>4 | 168=>183 | 210=>186 | 37=>54 | 0=>0 | 127=>251 | 145=>169 | 143=>167 | 2=>2 | 171=>281 | 53=>32 | 5=>5 | 173=>283 | 212=>290 | 51=>235 | 20=>20 | 213=>291 | 46=>193 | 232=>294 | 233=>295 | 80=>160 | n=>n,fun | 15=>8 | 16=>1 | 17=>22 | 18=>23 | 19=>24 | n=>n⟩
theorem Tryz.laysC245:Go.Proofs.LaysC.n245 Tryz.prog Tryz.laysC245_ren:={
 mixed:=by kernel_rfl
 f129:=Tryz.func192.trans (congrArg some (by kernel_rfl))
 f171:=Tryz.func169.trans (congrArg some (by kernel_rfl))
 f205:=Tryz.func51.trans (congrArg some (by kernel_rfl))
 f243:=Tryz.func185.trans (congrArg some (by kernel_rfl))
 f245:=Tryz.func150.trans (congrArg some (by kernel_rfl))
 f246:=Tryz.func203.trans (congrArg some (by kernel_rfl))
 f279:=Tryz.func158.trans (congrArg some (by kernel_rfl))
 f280:=Tryz.func159.trans (congrArg some (by kernel_rfl))
 f281:=Tryz.func160.trans (congrArg some (by kernel_rfl))
 f282:=Tryz.func161.trans (congrArg some (by kernel_rfl))
 f283:=Tryz.func211.trans (congrArg some (by kernel_rfl))
 f284:=Tryz.func212.trans (congrArg some (by kernel_rfl))
 f285:=Tryz.func213.trans (congrArg some (by kernel_rfl))
 f286:=Tryz.func214.trans (congrArg some (by kernel_rfl))
 f316:=Tryz.func168.trans (congrArg some (by kernel_rfl))
 f317:=Tryz.func217.trans (congrArg some (by kernel_rfl))
 f318:=Tryz.func196.trans (congrArg some (by kernel_rfl))
 f319:=Tryz.func218.trans (congrArg some (by kernel_rfl))
 f320:=Tryz.func219.trans (congrArg some (by kernel_rfl))
 f337:=Tryz.func220.trans (congrArg some (by kernel_rfl))
 f338:=Tryz.func221.trans (congrArg some (by kernel_rfl))
 t0:=Tryz.underlying0
 a0:=Tryz.isAgg0
 z0:=Tryz.sizeOf0
 v0:=Tryz.zeroValue0
 t2:=Tryz.underlying2
 a2:=Tryz.isAgg2
 z2:=Tryz.sizeOf2
 v2:=Tryz.zeroValue2
 t3:=Tryz.underlying3
 a3:=Tryz.isAgg3
 z3:=Tryz.sizeOf3
 v3:=Tryz.zeroValue3
 t4:=Tryz.underlying4
 a4:=Tryz.isAgg4
 z4:=Tryz.sizeOf4
 v4:=Tryz.zeroValue4
 t5:=Tryz.underlying5
 a5:=Tryz.isAgg5
 z5:=Tryz.sizeOf5
 v5:=Tryz.zeroValue5
 t9:=Tryz.underlying9
 a9:=Tryz.isAgg9
 z9:=Tryz.sizeOf9
 v9:=Tryz.zeroValue9
 t20:=Tryz.underlying20
 a20:=Tryz.isAgg20
 z20:=Tryz.sizeOf20
 v20:=Tryz.zeroValue20
 t37:=Tryz.underlying54
 a37:=Tryz.isAgg54
 z37:=Tryz.sizeOf54
 v37:=Tryz.zeroValue54
 t46:=Tryz.underlying193
 a46:=Tryz.isAgg193
 z46:=Tryz.sizeOf193
 v46:=Tryz.zeroValue193
 t51:=Tryz.underlying235
 a51:=Tryz.isAgg235
 z51:=Tryz.sizeOf235
 v51:=Tryz.zeroValue235
 t53:=Tryz.underlying32
 a53:=Tryz.isAgg32
 z53:=Tryz.sizeOf32
 v53:=Tryz.zeroValue32
 t75:=Tryz.underlying48
 a75:=Tryz.isAgg48
 z75:=Tryz.sizeOf48
 v75:=Tryz.zeroValue48
 t127:=Tryz.underlying251
 a127:=Tryz.isAgg251
 z127:=Tryz.sizeOf251
 v127:=Tryz.zeroValue251
 t143:=Tryz.underlying167
 a143:=Tryz.isAgg167
 z143:=Tryz.sizeOf167
 v143:=Tryz.zeroValue167
 t145:=Tryz.underlying169
 a145:=Tryz.isAgg169
 z145:=Tryz.sizeOf169
 v145:=Tryz.zeroValue169
 t167:=Tryz.underlying215
 a167:=Tryz.isAgg215
 z167:=Tryz.sizeOf215
 v167:=Tryz.zeroValue215
 t168:=Tryz.underlying183
 a168:=Tryz.isAgg183
 z168:=Tryz.sizeOf183
 v168:=Tryz.zeroValue183
 t171:=Tryz.underlying281
 a171:=Tryz.isAgg281
 z171:=Tryz.sizeOf281
 v171:=Tryz.zeroValue281
 t173:=Tryz.underlying283
 a173:=Tryz.isAgg283
 z173:=Tryz.sizeOf283
 v173:=Tryz.zeroValue283
 t210:=Tryz.underlying186
 a210:=Tryz.isAgg186
 z210:=Tryz.sizeOf186
 v210:=Tryz.zeroValue186
 t212:=Tryz.underlying290
 a212:=Tryz.isAgg290
 z212:=Tryz.sizeOf290
 v212:=Tryz.zeroValue290
 t213:=Tryz.underlying291
 a213:=Tryz.isAgg291
 z213:=Tryz.sizeOf291
 t232:=Tryz.underlying294
 a232:=Tryz.isAgg294
 z232:=Tryz.sizeOf294
 v232:=Tryz.zeroValue294
 t233:=Tryz.underlying295
 a233:=Tryz.isAgg295
 z233:=Tryz.sizeOf295
 v233:=Tryz.zeroValue295
 g15:=by kernel_rfl
 g16:=by kernel_rfl
 g17:=by kernel_rfl
 g18:=by kernel_rfl
 g19:=by kernel_rfl
 t80:=Tryz.underlying160
 a80:=Tryz.isAgg160
 z80:=Tryz.sizeOf160
 v80:=Tryz.zeroValue160
 i0:=by kernel_rfl
 i2:=by kernel_rfl
 i3:=by kernel_rfl
 i4:=by kernel_rfl
 i5:=by kernel_rfl
 i9:=by kernel_rfl
 i20:=by kernel_rfl
 i37:=by kernel_rfl
 i46:=by kernel_rfl
 i51:=by kernel_rfl
 i53:=by kernel_rfl
 i75:=by kernel_rfl
 i80:=by kernel_rfl
 i127:=by kernel_rfl
 i143:=by kernel_rfl
 i145:=by kernel_rfl
 i167:=by kernel_rfl
 i168:=by kernel_rfl
 i171:=by kernel_rfl
 i173:=by kernel_rfl
 i210:=by kernel_rfl
 i212:=by kernel_rfl
 i232:=by kernel_rfl
 i233:=by kernel_rfl
 m15:=by kernel_rfl
 m16:=by kernel_rfl
 m17:=by kernel_rfl
 m18:=by kernel_rfl
 m19:=by kernel_rfl
 c0:=by kernel_rfl
 c2:=by kernel_rfl
 c3:=by kernel_rfl
 c4:=by kernel_rfl
 c5:=by kernel_rfl
 c9:=by kernel_rfl
 c20:=by kernel_rfl
 c37:=by kernel_rfl
 c46:=by kernel_rfl
 c51:=by kernel_rfl
 c53:=by kernel_rfl
 c75:=by kernel_rfl
 c80:=by kernel_rfl
 c127:=by kernel_rfl
 c143:=by kernel_rfl
 c145:=by kernel_rfl
 c167:=by kernel_rfl
 c168:=by kernel_rfl
 c171:=by kernel_rfl
 c173:=by kernel_rfl
 c210:=by kernel_rfl
 c212:=by kernel_rfl
 c213:=by kernel_rfl
 c232:=by kernel_rfl
 c233:=by kernel_rfl }
open Go.RowKit in
theorem Tryz.strconv_toError_syntax (fn s:ByteArray) (base bits:Int) (ev:Value) (w:World) (hlim:s.size≤281474976710656) (hv:w.cell? ⟨8,0,none⟩=some ev) (hev:ev=.nilIface∨∃ te pe,ev=.iface te pe) :
  Calls Tryz.prog 150 #[.string fn,.string s,.int .i64 base,.int .i64 bits,.iface 215 (.int .i64 2)] w fun e w'=>∃ N,e=.returned (.iface 183 (.pointer (some ⟨N,0,none⟩)))∧w.heap.size≤N∧w'.heap[N]?=some (.cells #[.string fn,.string s,ev] 186 (0,0))∧Below w.heap.size w w':=Any.strconv_toError_syntax Tryz.laysC245 fn s base bits ev w hlim hv hev
open Go.RowKit in
theorem Tryz.strconv_toError_range (fn s:ByteArray) (base bits:Int) (ev:Value) (w:World) (hlim:s.size≤281474976710656) (hv:w.cell? ⟨1,0,none⟩=some ev) (hev:ev=.nilIface∨∃ te pe,ev=.iface te pe) :
  Calls Tryz.prog 150 #[.string fn,.string s,.int .i64 base,.int .i64 bits,.iface 215 (.int .i64 1)] w fun e w'=>∃ N,e=.returned (.iface 183 (.pointer (some ⟨N,0,none⟩)))∧w.heap.size≤N∧w'.heap[N]?=some (.cells #[.string fn,.string s,ev] 186 (0,0))∧Below w.heap.size w w':=Any.strconv_toError_range Tryz.laysC245 fn s base bits ev w hlim hv hev
def Tryz.laysC174_ren:Go.Shelf.Ren:=⟨fun | 174=>126 | 247=>151 | 245=>150 | 287=>152 | 279=>158 | 280=>159 | 281=>160 | 282=>161 | 321=>162 | 322=>163 | 316=>168 | 171=>169 | 205=>51 | 243=>185 | 246=>203 | 283=>211 | 284=>212 | 285=>213 | 286=>214 | 129=>192 | 317=>217 | 318=>196 | 319=>218 | 320=>219 | 337=>220 | 338=>221 | n=>n,fun | 9=>9 | 3=>3 | 2=>2 | 75=>48 | 85=>76 | 4=>4 | 167=>215 | 5=>5 | 53=>32 | 175=>150 | 46=>193 | 168=>183 | 37=>54 | 0=>0 | 210=>186 | 21=>21 | 127=>251 | 145=>169 | 143=>167 | 171=>281 | 173=>283 | 212=>290 | 51=>235 | 20=>20 | 213=>291 | 232=>294 | 233=>295 | 80=>160 | n=>n,fun | 15=>8 | 16=>1 | 17=>22 | 18=>23 | 19=>24 | n=>n⟩
theorem Tryz.laysC174:Go.Proofs.LaysC.n174 Tryz.prog Tryz.laysC174_ren:={
 mixed:=by kernel_rfl
 f129:=Tryz.func192.trans (congrArg some (by kernel_rfl))
 f171:=Tryz.func169.trans (congrArg some (by kernel_rfl))
 f174:=Tryz.func126.trans (congrArg some (by kernel_rfl))
 f205:=Tryz.func51.trans (congrArg some (by kernel_rfl))
 f243:=Tryz.func185.trans (congrArg some (by kernel_rfl))
 f245:=Tryz.func150.trans (congrArg some (by kernel_rfl))
 f246:=Tryz.func203.trans (congrArg some (by kernel_rfl))
 f247:=Tryz.func151.trans (congrArg some (by kernel_rfl))
 f279:=Tryz.func158.trans (congrArg some (by kernel_rfl))
 f280:=Tryz.func159.trans (congrArg some (by kernel_rfl))
 f281:=Tryz.func160.trans (congrArg some (by kernel_rfl))
 f282:=Tryz.func161.trans (congrArg some (by kernel_rfl))
 f283:=Tryz.func211.trans (congrArg some (by kernel_rfl))
 f284:=Tryz.func212.trans (congrArg some (by kernel_rfl))
 f285:=Tryz.func213.trans (congrArg some (by kernel_rfl))
 f286:=Tryz.func214.trans (congrArg some (by kernel_rfl))
 f287:=Tryz.func152.trans (congrArg some (by kernel_rfl))
 f316:=Tryz.func168.trans (congrArg some (by kernel_rfl))
 f317:=Tryz.func217.trans (congrArg some (by kernel_rfl))
 f318:=Tryz.func196.trans (congrArg some (by kernel_rfl))
 f319:=Tryz.func218.trans (congrArg some (by kernel_rfl))
 f320:=Tryz.func219.trans (congrArg some (by kernel_rfl))
 f321:=Tryz.func162.trans (congrArg some (by kernel_rfl))
 f322:=Tryz.func163.trans (congrArg some (by kernel_rfl))
 f337:=Tryz.func220.trans (congrArg some (by kernel_rfl))
 f338:=Tryz.func221.trans (congrArg some (by kernel_rfl))
 t0:=Tryz.underlying0
 a0:=Tryz.isAgg0
 z0:=Tryz.sizeOf0
 v0:=Tryz.zeroValue0
 t2:=Tryz.underlying2
 a2:=Tryz.isAgg2
 z2:=Tryz.sizeOf2
 v2:=Tryz.zeroValue2
 t3:=Tryz.underlying3
 a3:=Tryz.isAgg3
 z3:=Tryz.sizeOf3
 v3:=Tryz.zeroValue3
 t4:=Tryz.underlying4
 a4:=Tryz.isAgg4
 z4:=Tryz.sizeOf4
 v4:=Tryz.zeroValue4
 t5:=Tryz.underlying5
 a5:=Tryz.isAgg5
 z5:=Tryz.sizeOf5
 v5:=Tryz.zeroValue5
 t9:=Tryz.underlying9
 a9:=Tryz.isAgg9
 z9:=Tryz.sizeOf9
 v9:=Tryz.zeroValue9
 t20:=Tryz.underlying20
 a20:=Tryz.isAgg20
 z20:=Tryz.sizeOf20
 v20:=Tryz.zeroValue20
 t21:=Tryz.underlying21
 a21:=Tryz.isAgg21
 z21:=Tryz.sizeOf21
 v21:=Tryz.zeroValue21
 t37:=Tryz.underlying54
 a37:=Tryz.isAgg54
 z37:=Tryz.sizeOf54
 v37:=Tryz.zeroValue54
 t46:=Tryz.underlying193
 a46:=Tryz.isAgg193
 z46:=Tryz.sizeOf193
 v46:=Tryz.zeroValue193
 t51:=Tryz.underlying235
 a51:=Tryz.isAgg235
 z51:=Tryz.sizeOf235
 v51:=Tryz.zeroValue235
 t53:=Tryz.underlying32
 a53:=Tryz.isAgg32
 z53:=Tryz.sizeOf32
 v53:=Tryz.zeroValue32
 t75:=Tryz.underlying48
 a75:=Tryz.isAgg48
 z75:=Tryz.sizeOf48
 v75:=Tryz.zeroValue48
 t85:=Tryz.underlying76
 a85:=Tryz.isAgg76
 z85:=Tryz.sizeOf76
 v85:=Tryz.zeroValue76
 t127:=Tryz.underlying251
 a127:=Tryz.isAgg251
 z127:=Tryz.sizeOf251
 v127:=Tryz.zeroValue251
 t143:=Tryz.underlying167
 a143:=Tryz.isAgg167
 z143:=Tryz.sizeOf167
 v143:=Tryz.zeroValue167
 t145:=Tryz.underlying169
 a145:=Tryz.isAgg169
 z145:=Tryz.sizeOf169
 v145:=Tryz.zeroValue169
 t167:=Tryz.underlying215
 a167:=Tryz.isAgg215
 z167:=Tryz.sizeOf215
 v167:=Tryz.zeroValue215
 t168:=Tryz.underlying183
 a168:=Tryz.isAgg183
 z168:=Tryz.sizeOf183
 v168:=Tryz.zeroValue183
 t171:=Tryz.underlying281
 a171:=Tryz.isAgg281
 z171:=Tryz.sizeOf281
 v171:=Tryz.zeroValue281
 t173:=Tryz.underlying283
 a173:=Tryz.isAgg283
 z173:=Tryz.sizeOf283
 v173:=Tryz.zeroValue283
 t175:=Tryz.underlying150
 a175:=Tryz.isAgg150
 z175:=Tryz.sizeOf150
 v175:=Tryz.zeroValue150
 t210:=Tryz.underlying186
 a210:=Tryz.isAgg186
 z210:=Tryz.sizeOf186
 v210:=Tryz.zeroValue186
 t212:=Tryz.underlying290
 a212:=Tryz.isAgg290
 z212:=Tryz.sizeOf290
 v212:=Tryz.zeroValue290
 t213:=Tryz.underlying291
 a213:=Tryz.isAgg291
 z213:=Tryz.sizeOf291
 t232:=Tryz.underlying294
 a232:=Tryz.isAgg294
 z232:=Tryz.sizeOf294
 v232:=Tryz.zeroValue294
 t233:=Tryz.underlying295
 a233:=Tryz.isAgg295
 z233:=Tryz.sizeOf295
 v233:=Tryz.zeroValue295
 g15:=by kernel_rfl
 g16:=by kernel_rfl
 g17:=by kernel_rfl
 g18:=by kernel_rfl
 g19:=by kernel_rfl
 t80:=Tryz.underlying160
 a80:=Tryz.isAgg160
 z80:=Tryz.sizeOf160
 v80:=Tryz.zeroValue160
 i0:=by kernel_rfl
 i2:=by kernel_rfl
 i3:=by kernel_rfl
 i4:=by kernel_rfl
 i5:=by kernel_rfl
 i9:=by kernel_rfl
 i20:=by kernel_rfl
 i21:=by kernel_rfl
 i37:=by kernel_rfl
 i46:=by kernel_rfl
 i51:=by kernel_rfl
 i53:=by kernel_rfl
 i75:=by kernel_rfl
 i80:=by kernel_rfl
 i85:=by kernel_rfl
 i127:=by kernel_rfl
 i143:=by kernel_rfl
 i145:=by kernel_rfl
 i167:=by kernel_rfl
 i168:=by kernel_rfl
 i171:=by kernel_rfl
 i173:=by kernel_rfl
 i175:=by kernel_rfl
 i210:=by kernel_rfl
 i212:=by kernel_rfl
 i232:=by kernel_rfl
 i233:=by kernel_rfl
 m15:=by kernel_rfl
 m16:=by kernel_rfl
 m17:=by kernel_rfl
 m18:=by kernel_rfl
 m19:=by kernel_rfl
 c0:=by kernel_rfl
 c2:=by kernel_rfl
 c3:=by kernel_rfl
 c4:=by kernel_rfl
 c5:=by kernel_rfl
 c9:=by kernel_rfl
 c20:=by kernel_rfl
 c21:=by kernel_rfl
 c37:=by kernel_rfl
 c46:=by kernel_rfl
 c51:=by kernel_rfl
 c53:=by kernel_rfl
 c75:=by kernel_rfl
 c80:=by kernel_rfl
 c85:=by kernel_rfl
 c127:=by kernel_rfl
 c143:=by kernel_rfl
 c145:=by kernel_rfl
 c167:=by kernel_rfl
 c168:=by kernel_rfl
 c171:=by kernel_rfl
 c173:=by kernel_rfl
 c175:=by kernel_rfl
 c210:=by kernel_rfl
 c212:=by kernel_rfl
 c213:=by kernel_rfl
 c232:=by kernel_rfl
 c233:=by kernel_rfl }
open Go.RowKit in
theorem Tryz.strconv_ParseInt_10_at64_ok (s:ByteArray) (hmax:s.size≤9223372036854775806) (v:Int) (h:Lib.parseIntB 64 s.data.toList=.ok v) (w:World) :
  Calls Tryz.prog 126 #[.string s,.int .i64 10,.int .i64 64] w fun e w'=>e=.returned (.tuple #[.int .i64 v,.nilIface])∧(w'=w∨∃ t,w'=Lib.bytesWorld w 5 t):=Any.strconv_ParseInt_10_at64_ok Tryz.laysC174 s hmax v h w
open Go.RowKit in
theorem Tryz.strconv_ParseInt_10_at64_syntax_var (s:ByteArray) (hlim:s.size≤281474976710656) (h:Lib.parseIntB 64 s.data.toList=Lib.parseIntB 64 []) (tp:TypeId) (p:Value) (w:World) (hvar:w.var? Tryz.prog "strconv.ErrSyntax"=some #[.iface tp p]) :
  Calls Tryz.prog 126 #[.string s,.int .i64 10,.int .i64 64] w fun e w'=>∃ N,e=.returned (.tuple #[.int .i64 (0),.iface 183 (.pointer (some ⟨N,0,none⟩))])∧w.heap.size≤N∧w'.heap[N]?=some (.cells #[.string ⟨#[80,97,114,115,101,73,110,116]⟩,.string s,.iface tp p] 186 (0,0))∧Below w.heap.size w w':=Any.strconv_ParseInt_10_at64_syntax_var Tryz.laysC174 s hlim h tp p w hvar
open Go.RowKit in
theorem Tryz.strconv_ParseInt_10_at64_range_var (s:ByteArray) (hlim:s.size≤281474976710656) (h:Lib.parseIntB 64 s.data.toList=.range) (tp:TypeId) (p:Value) (w:World) (hvar:w.var? Tryz.prog "strconv.ErrRange"=some #[.iface tp p]) :
  Calls Tryz.prog 126 #[.string s,.int .i64 10,.int .i64 64] w fun e w'=>∃ N,e=.returned (.tuple #[.int .i64 (Lib.intSat 64 s.data.toList),.iface 183 (.pointer (some ⟨N,0,none⟩))])∧w.heap.size≤N∧w'.heap[N]?=some (.cells #[.string ⟨#[80,97,114,115,101,73,110,116]⟩,.string s,.iface tp p] 186 (0,0))∧Below w.heap.size w w':=Any.strconv_ParseInt_10_at64_range_var Tryz.laysC174 s hlim h tp p w hvar
def Tryz.laysPu14_ren:Go.Shelf.Ren:=⟨fun | 14=>127 | 16=>152 | 17=>150 | 19=>162 | 20=>163 | 21=>158 | 22=>159 | 23=>160 | 24=>161 | 25=>168 | 27=>169 | 26=>51 | 28=>185 | 29=>203 | 30=>211 | 31=>212 | 32=>213 | 33=>214 | 35=>192 | 34=>217 | 36=>196 | 37=>218 | 38=>219 | 39=>220 | 40=>221 | n=>n,fun | 9=>9 | 3=>3 | 22=>32 | 24=>48 | 25=>150 | 4=>4 | 34=>215 | 5=>5 | 36=>193 | 37=>54 | 0=>0 | 39=>183 | 21=>21 | 44=>186 | 47=>251 | 50=>169 | 48=>167 | 2=>2 | 52=>281 | 55=>283 | 59=>290 | 60=>235 | 20=>20 | 61=>291 | 65=>294 | 66=>295 | 67=>160 | n=>n,fun | 0=>8 | 1=>1 | 2=>22 | 3=>23 | 4=>24 | n=>n⟩
theorem Tryz.laysPu14:Go.Proofs.LaysPu.n14 Tryz.prog Tryz.laysPu14_ren:={
 mixed:=by kernel_rfl
 f14:=Tryz.func127.trans (congrArg some (by kernel_rfl))
 f16:=Tryz.func152.trans (congrArg some (by kernel_rfl))
 f17:=Tryz.func150.trans (congrArg some (by kernel_rfl))
 f19:=Tryz.func162.trans (congrArg some (by kernel_rfl))
 f20:=Tryz.func163.trans (congrArg some (by kernel_rfl))
 f21:=Tryz.func158.trans (congrArg some (by kernel_rfl))
 f22:=Tryz.func159.trans (congrArg some (by kernel_rfl))
 f23:=Tryz.func160.trans (congrArg some (by kernel_rfl))
 f24:=Tryz.func161.trans (congrArg some (by kernel_rfl))
 f25:=Tryz.func168.trans (congrArg some (by kernel_rfl))
 f26:=Tryz.func51.trans (congrArg some (by kernel_rfl))
 f27:=Tryz.func169.trans (congrArg some (by kernel_rfl))
 f28:=Tryz.func185.trans (congrArg some (by kernel_rfl))
 f29:=Tryz.func203.trans (congrArg some (by kernel_rfl))
 f30:=Tryz.func211.trans (congrArg some (by kernel_rfl))
 f31:=Tryz.func212.trans (congrArg some (by kernel_rfl))
 f32:=Tryz.func213.trans (congrArg some (by kernel_rfl))
 f33:=Tryz.func214.trans (congrArg some (by kernel_rfl))
 f34:=Tryz.func217.trans (congrArg some (by kernel_rfl))
 f35:=Tryz.func192.trans (congrArg some (by kernel_rfl))
 f36:=Tryz.func196.trans (congrArg some (by kernel_rfl))
 f37:=Tryz.func218.trans (congrArg some (by kernel_rfl))
 f38:=Tryz.func219.trans (congrArg some (by kernel_rfl))
 f39:=Tryz.func220.trans (congrArg some (by kernel_rfl))
 f40:=Tryz.func221.trans (congrArg some (by kernel_rfl))
 t0:=Tryz.underlying0
 a0:=Tryz.isAgg0
 z0:=Tryz.sizeOf0
 v0:=Tryz.zeroValue0
 i0:=by kernel_rfl
 t2:=Tryz.underlying2
 a2:=Tryz.isAgg2
 z2:=Tryz.sizeOf2
 v2:=Tryz.zeroValue2
 i2:=by kernel_rfl
 t3:=Tryz.underlying3
 a3:=Tryz.isAgg3
 z3:=Tryz.sizeOf3
 v3:=Tryz.zeroValue3
 i3:=by kernel_rfl
 t4:=Tryz.underlying4
 a4:=Tryz.isAgg4
 z4:=Tryz.sizeOf4
 v4:=Tryz.zeroValue4
 i4:=by kernel_rfl
 t5:=Tryz.underlying5
 a5:=Tryz.isAgg5
 z5:=Tryz.sizeOf5
 v5:=Tryz.zeroValue5
 i5:=by kernel_rfl
 t9:=Tryz.underlying9
 a9:=Tryz.isAgg9
 z9:=Tryz.sizeOf9
 v9:=Tryz.zeroValue9
 i9:=by kernel_rfl
 t20:=Tryz.underlying20
 a20:=Tryz.isAgg20
 z20:=Tryz.sizeOf20
 v20:=Tryz.zeroValue20
 i20:=by kernel_rfl
 t21:=Tryz.underlying21
 a21:=Tryz.isAgg21
 z21:=Tryz.sizeOf21
 v21:=Tryz.zeroValue21
 i21:=by kernel_rfl
 t22:=Tryz.underlying32
 a22:=Tryz.isAgg32
 z22:=Tryz.sizeOf32
 v22:=Tryz.zeroValue32
 i22:=by kernel_rfl
 t24:=Tryz.underlying48
 a24:=Tryz.isAgg48
 z24:=Tryz.sizeOf48
 v24:=Tryz.zeroValue48
 i24:=by kernel_rfl
 t25:=Tryz.underlying150
 a25:=Tryz.isAgg150
 z25:=Tryz.sizeOf150
 v25:=Tryz.zeroValue150
 i25:=by kernel_rfl
 t34:=Tryz.underlying215
 a34:=Tryz.isAgg215
 z34:=Tryz.sizeOf215
 v34:=Tryz.zeroValue215
 i34:=by kernel_rfl
 c34:=by kernel_rfl
 t36:=Tryz.underlying193
 a36:=Tryz.isAgg193
 z36:=Tryz.sizeOf193
 v36:=Tryz.zeroValue193
 i36:=by kernel_rfl
 t37:=Tryz.underlying54
 a37:=Tryz.isAgg54
 z37:=Tryz.sizeOf54
 v37:=Tryz.zeroValue54
 i37:=by kernel_rfl
 t39:=Tryz.underlying183
 a39:=Tryz.isAgg183
 z39:=Tryz.sizeOf183
 v39:=Tryz.zeroValue183
 i39:=by kernel_rfl
 t44:=Tryz.underlying186
 a44:=Tryz.isAgg186
 z44:=Tryz.sizeOf186
 v44:=Tryz.zeroValue186
 i44:=by kernel_rfl
 t47:=Tryz.underlying251
 a47:=Tryz.isAgg251
 z47:=Tryz.sizeOf251
 v47:=Tryz.zeroValue251
 i47:=by kernel_rfl
 t48:=Tryz.underlying167
 a48:=Tryz.isAgg167
 z48:=Tryz.sizeOf167
 v48:=Tryz.zeroValue167
 i48:=by kernel_rfl
 t50:=Tryz.underlying169
 a50:=Tryz.isAgg169
 z50:=Tryz.sizeOf169
 v50:=Tryz.zeroValue169
 i50:=by kernel_rfl
 t52:=Tryz.underlying281
 a52:=Tryz.isAgg281
 z52:=Tryz.sizeOf281
 v52:=Tryz.zeroValue281
 i52:=by kernel_rfl
 t55:=Tryz.underlying283
 a55:=Tryz.isAgg283
 z55:=Tryz.sizeOf283
 v55:=Tryz.zeroValue283
 i55:=by kernel_rfl
 t59:=Tryz.underlying290
 a59:=Tryz.isAgg290
 z59:=Tryz.sizeOf290
 v59:=Tryz.zeroValue290
 i59:=by kernel_rfl
 t60:=Tryz.underlying235
 a60:=Tryz.isAgg235
 z60:=Tryz.sizeOf235
 v60:=Tryz.zeroValue235
 i60:=by kernel_rfl
 t61:=Tryz.underlying291
 a61:=Tryz.isAgg291
 z61:=Tryz.sizeOf291
 t65:=Tryz.underlying294
 a65:=Tryz.isAgg294
 z65:=Tryz.sizeOf294
 v65:=Tryz.zeroValue294
 i65:=by kernel_rfl
 t66:=Tryz.underlying295
 a66:=Tryz.isAgg295
 z66:=Tryz.sizeOf295
 v66:=Tryz.zeroValue295
 i66:=by kernel_rfl
 t67:=Tryz.underlying160
 a67:=Tryz.isAgg160
 z67:=Tryz.sizeOf160
 v67:=Tryz.zeroValue160
 i67:=by kernel_rfl
 g0:=by kernel_rfl
 m0:=by kernel_rfl
 g1:=by kernel_rfl
 m1:=by kernel_rfl
 g2:=by kernel_rfl
 m2:=by kernel_rfl
 g3:=by kernel_rfl
 m3:=by kernel_rfl
 g4:=by kernel_rfl
 m4:=by kernel_rfl }
open Go.RowKit in
theorem Tryz.strconv_ParseUint_10_at64_ok (s:ByteArray) (hmax:s.size≤9223372036854775806) (u:Nat) (h:Lib.parseUintB 64 s.data.toList=.ok u) (w:World) :
  Calls Tryz.prog 127 #[.string s,.int .i64 10,.int .i64 64] w fun e w'=>e=.returned (.tuple #[.int .u64 u,.nilIface])∧(w'=w∨w'=Lib.bytesWorld w 5 s):=Any.strconv_ParseUint_10_at64_ok Tryz.laysPu14 s hmax u h w
open Go.RowKit in
theorem Tryz.strconv_ParseUint_10_at64_syntax_var (s:ByteArray) (hlim:s.size≤281474976710656) (h:Lib.parseUintB 64 s.data.toList=Lib.parseUintB 64 []) (tp:TypeId) (p:Value) (w:World) (hvar:w.var? Tryz.prog "strconv.ErrSyntax"=some #[.iface tp p]) :
  Calls Tryz.prog 127 #[.string s,.int .i64 10,.int .i64 64] w fun e w'=>∃ N,e=.returned (.tuple #[.int .u64 0,.iface 183 (.pointer (some ⟨N,0,none⟩))])∧w.heap.size≤N∧w'.heap[N]?=some (.cells #[.string ⟨#[80,97,114,115,101,85,105,110,116]⟩,.string s,.iface tp p] 186 (0,0))∧Below w.heap.size w w':=Any.strconv_ParseUint_10_at64_syntax_var Tryz.laysPu14 s hlim h tp p w hvar
open Go.RowKit in
theorem Tryz.strconv_ParseUint_10_at64_range_var (s:ByteArray) (hlim:s.size≤281474976710656) (h:Lib.parseUintB 64 s.data.toList=.range) (tp:TypeId) (p:Value) (w:World) (hvar:w.var? Tryz.prog "strconv.ErrRange"=some #[.iface tp p]) :
  Calls Tryz.prog 127 #[.string s,.int .i64 10,.int .i64 64] w fun e w'=>∃ N,e=.returned (.tuple #[.int .u64 18446744073709551615,.iface 183 (.pointer (some ⟨N,0,none⟩))])∧w.heap.size≤N∧w'.heap[N]?=some (.cells #[.string ⟨#[80,97,114,115,101,85,105,110,116]⟩,.string s,.iface tp p] 186 (0,0))∧Below w.heap.size w w':=Any.strconv_ParseUint_10_at64_range_var Tryz.laysPu14 s hlim h tp p w hvar
def Tryz.lays264_ren:Go.Shelf.Ren:=⟨fun | 264=>207 | n=>n,fun | 53=>32 | 46=>193 | n=>n,fun | n=>n⟩
theorem Tryz.lays264:Go.Proofs.Lays.n264 Tryz.prog Tryz.lays264_ren:={
 mixed:=by kernel_rfl
 f264:=Tryz.func207.trans (congrArg some (by kernel_rfl))
 t46:=Tryz.underlying193
 a46:=Tryz.isAgg193
 z46:=Tryz.sizeOf193
 v46:=Tryz.zeroValue193
 t53:=Tryz.underlying32
 a53:=Tryz.isAgg32
 z53:=Tryz.sizeOf32
 v53:=Tryz.zeroValue32 }
open Go.RowKit Go.Lib in
theorem Tryz.bits_Mul64 (x y:Nat) (hx:x<18446744073709551616) (hy:y<18446744073709551616) (w:World) :
  Calls Tryz.prog 207 #[.int .u64 x,.int .u64 y] w fun e w'=>e=.returned (.tuple #[.int .u64 ((x*y/18446744073709551616:Nat):Int),.int .u64 ((x*y % 18446744073709551616:Nat):Int)])∧w'=w:=Any.bits_Mul64 Tryz.lays264 x y hx hy w
end Go.Proofs
end
section
namespace Go.Proofs.YtkfggfjdplnkpaaGreatDoor
open Go.RowKit
def Quiet (w:World) (v:Value) (e:Ending) (w':World):Prop:=e=.returned v∧∃ m,w'=w.drewN m
set_option maxHeartbeats 8000000 in
theorem roundUp_det (D:DS) (ng:Bool) (ho:D.Ok) (k:Int) (hk:-1000000≤k∧k≤1000000) :
  ∃ b:Bool,∀ w g,DecS w g D ng→Calls Tryz.prog 210 #[.pointer (some ⟨g,0,none⟩),.int .i64 k] w (Quiet w (.bool b)):=by
 by_cases h1:k<0
 ·refine ⟨false,fun w g h=>?_⟩
  clear h
  go_enter Tryz.func210,Tryz.ntmps210
  go_wp2_with fail
  go_ret
  exact ⟨rfl,0,rfl⟩
 by_cases h2:(D.nd:Int)≤k
 ·refine ⟨false,fun w g h=>?_⟩
  have c8:=DecB.c800 h
  clear h
  go_enter Tryz.func210,Tryz.ntmps210
  go_wp2_with fail
  go_ret
  exact ⟨rfl,0,rfl⟩
 obtain ⟨q,hq⟩:∃ q:Nat,(q:Int)=k:=⟨k.toNat,by omega⟩
 subst hq
 have hle:=ho.le
 have hqn:q<D.nd:=by omega
 have hdq:=ho.digs q hqn
 obtain ⟨x,hx⟩:∃ x,D.f q=x:=⟨_,rfl⟩
 rw [hx] at hdq
 have h800:(q:Int)<800:=by omega
 have hcell:∀ w g,DecS w g D ng→w.cell? ⟨g,q,none⟩=some (.int .u8 (x:Int)):=fun w g h=>by rw [←hx];exact DecB.d h q (by omega)
 obtain ⟨nd,hnd⟩:∃ nd,D.nd=nd:=⟨_,rfl⟩
 have hc8:∀ w g,DecS w g D ng→w.cell? ⟨g,800,none⟩=some (.int .i64 (nd:Int)):=fun w g h=>by rw [←hnd];exact DecB.c800 h
 obtain ⟨tr,htr⟩:∃ tr,D.tr=tr:=⟨_,rfl⟩
 have hct:∀ w g,DecS w g D ng→w.cell? ⟨g,803,none⟩=some (.bool tr):=fun w g h=>by rw [←htr];exact DecB.c803 h
 rw [hnd] at h2
 have HX:=Lib.hid hx
 have WS:IntKind.i64.wrap ((q:Int)+1)=(q:Int)+1:=IntWalk.i64_in _ (by omega)
 have HC:=Lib.hid hcell
 have HC8:=Lib.hid hc8
 have HCT:=Lib.hid hct
 clear hx hcell hc8 hct htr
 by_cases h3:x=53
 ·subst h3
  by_cases h4:q+1=nd
  ·have h4':(nd:Int)=(q:Int)+1:=by omega
   cases tr with
   | true=>
    refine ⟨true,fun w g h=>?_⟩
    have c8:=HC8.out w g h
    have cd:=HC.out w g h
    have ct:=HCT.out w g h
    clear h
    go_enter Tryz.func210,Tryz.ntmps210
    go_wp2
    go_ret
    exact ⟨rfl,0,rfl⟩
   | false=>
    by_cases h5:q=0
    ·refine ⟨false,fun w g h=>?_⟩
     subst h5
     have h4':(nd:Int)=1:=by omega
     clear h4
     have c8:=HC8.out w g h
     have cd:=HC.out w g h
     have ct:=HCT.out w g h
     clear h
     go_enter Tryz.func210,Tryz.ntmps210
     go_wp2
     go_ret
     exact ⟨rfl,0,rfl⟩
    ·obtain ⟨p,hp⟩:∃ p,q=p+1:=⟨q-1,by omega⟩
     subst hp
     have hd1:=ho.digs p (by omega)
     obtain ⟨y,hy⟩:∃ y,D.f p=y:=⟨_,rfl⟩
     rw [hy] at hd1
     have hb:(p:Int)<800:=by omega
     have WP:IntKind.i64.wrap (((p+1:Nat):Int)-1)=(p:Int):=by rw [IntWalk.i64_in _ (by omega)];omega
     have HP:Hid (∀ w g,DecS w g D ng→w.cell? ⟨g,p,none⟩=some (.int .u8 (y:Int))):=Lib.hid fun w g h=>by rw [←hy];exact DecB.d h p (by omega)
     clear hy
     have hb48:(48:Int)≤(y:Int)∧(y:Int)≤57:=by omega
     by_cases hpar:(y-48) % 2=0
     ·have WT:((y:Int)-48).tmod 2=0:=by rw [Int.tmod_eq_emod_of_nonneg (by omega)];omega
      refine ⟨false,fun w g h=>?_⟩
      have c8:=HC8.out w g h
      have cd:=HC.out w g h
      have ct:=HCT.out w g h
      have cp:=HP.out w g h
      clear h h4 hpar
      go_enter Tryz.func210,Tryz.ntmps210
      go_wp2
      go_ret
      exact ⟨rfl,0,rfl⟩
     ·have WT:((y:Int)-48).tmod 2=1:=by rw [Int.tmod_eq_emod_of_nonneg (by omega)];omega
      refine ⟨true,fun w g h=>?_⟩
      have c8:=HC8.out w g h
      have cd:=HC.out w g h
      have ct:=HCT.out w g h
      have cp:=HP.out w g h
      clear h h4 hpar
      go_enter Tryz.func210,Tryz.ntmps210
      go_wp2
      go_ret
      exact ⟨rfl,0,rfl⟩
  ·have h4':¬(q:Int)+1=(nd:Int):=by omega
   refine ⟨true,fun w g h=>?_⟩
   have c8:=HC8.out w g h
   have cd:=HC.out w g h
   clear h
   go_enter Tryz.func210,Tryz.ntmps210
   go_wp2
   go_ret
   exact ⟨rfl,0,rfl⟩
 ·have h3':¬(x:Int)=53:=by omega
  refine ⟨decide ((53:Int)≤(x:Int)),fun w g h=>?_⟩
  have c8:=HC8.out w g h
  have cd:=HC.out w g h
  clear h
  go_enter Tryz.func210,Tryz.ntmps210
  go_wp2
  go_ret
  exact ⟨rfl,0,rfl⟩
def riA (f:Nat→Nat):Nat→Int
 | 0=>0
 | j+1=>IntKind.u64.wrap (IntKind.u64.wrap (riA f j*10)+((f j:Int)-48))
def riB (n:Int):Nat→Int
 | 0=>n
 | j+1=>IntKind.u64.wrap (riB n j*10)
set_option maxHeartbeats 8000000 in
theorem rounded_det (D:DS) (ng:Bool) (ho:D.Ok) (hk:-1000000≤D.dp∧D.dp≤1000000) :
  ∃ r:Int,∀ w g,DecS w g D ng→Calls Tryz.prog 201 #[.pointer (some ⟨g,0,none⟩)] w (Quiet w (.int .u64 r)):=by
 by_cases h1:20<D.dp
 ·refine ⟨18446744073709551615,fun w g h=>?_⟩
  have c1:=DecB.c801 h
  clear h
  go_enter Tryz.func201,Tryz.ntmps201
  go_wp2_with fail
  go_ret
  exact ⟨rfl,0,rfl⟩
 obtain ⟨b,hb⟩:=roundUp_det D ng ho D.dp hk
 have HB:=Lib.hid hb
 clear hb
 obtain ⟨m,hm⟩:∃ m:Nat,(if D.dp<(D.nd:Int) then D.dp.toNat else D.nd)=m:=⟨_,rfl⟩
 obtain ⟨l,hl⟩:∃ l:Nat,D.dp.toNat=l:=⟨_,rfl⟩
 have hml:m≤l:=by rw [←hm,←hl]; split <;> omega
 have hmn:m≤D.nd:=by rw [←hm]; split <;> omega
 have hend:¬((m:Int)<D.dp∧m<D.nd):=by
  rintro ⟨a,c⟩
  rw [←hm] at a c
  split at a <;> split at c <;> omega
 have hl20:l≤20:=by omega
 have hld:(l:Int)=D.dp∨(l=0∧D.dp≤0):=by omega
 have ho':=Lib.hid ho
 have HX:=Lib.hid (And.intro hml (And.intro hmn (And.intro hend (And.intro hl20 hld))))
 obtain ⟨r,hr⟩:∃ r:Int,(if b then IntKind.u64.wrap (riB (riA D.f m) (l-m)+1) else riB (riA D.f m) (l-m))=r:=⟨_,rfl⟩
 have HR:=Lib.hid hr
 clear hr
 refine ⟨r,fun w g h=>?_⟩
 have HH:=Lib.hid h
 have c1:=DecB.c801 h
 have c8:=DecB.c800 h
 clear h hm hl hml hmn hend hl20 hld ho
 obtain ⟨dp,hdp⟩:∃ dp,D.dp=dp:=⟨_,rfl⟩
 obtain ⟨nd,hnd⟩:∃ nd,D.nd=nd:=⟨_,rfl⟩
 rw [hdp] at c1 HX HB h1 hk
 rw [hnd] at c8 HX
 have HND:=Lib.hid hnd
 clear hdp hnd
 have b0:dp≤20:=by omega
 go_enter Tryz.func201,Tryz.ntmps201
 go_wp2_with fail
 go_loopg [3,4] m (fun mq v3 v4 wr=>∃ j:Nat,mq+j=m∧v3=.int .i64 (j:Int)∧v4=.int .u64 (riA D.f j)∧wr=w)
 case atStart=>exact ⟨0,by omega,rfl,rfl,rfl⟩
 case round=>
  obtain ⟨j,h1,rfl,rfl,rfl⟩:=hrel
  by_cases hj:j<m
  ·have hx:=HX.out
   have hjd:(j:Int)<dp:=by omega
   have hjn:(j:Int)<(nd:Int):=by omega
   have hnd8:=ho'.out.le
   rw [HND.out] at hnd8
   have cd:=DecB.d HH.out j (by omega)
   have hdj:=ho'.out.digs j (by rw [HND.out];omega)
   obtain ⟨x,hx2⟩:∃ x,D.f j=x:=⟨_,rfl⟩
   rw [hx2] at cd hdj
   have hj8:(j:Int)<800:=by omega
   have hj20:(j:Int)≤20:=by omega
   have HJ:=Lib.hid (And.intro h1 (And.intro hj hx2))
   have hx48:(48:Int)≤(x:Int)∧(x:Int)≤57:=by omega
   obtain ⟨v,hv⟩:∃ v,riA D.f j=v:=⟨_,rfl⟩
   rw [hv]
   have HVv:=Lib.hid hv
   clear h1 hj hx2 hx hv
   go_wp2
   go_roundg (m-(j+1))
   case measure=>have:=HJ.out;omega
   case rel=>
    obtain ⟨h1,hj,hx2⟩:=HJ.out
    refine ⟨j+1,by omega,rfl,?_,rfl⟩
    show _=Value.int .u64 (IntKind.u64.wrap (IntKind.u64.wrap (riA D.f j*10)+((D.f j:Int)-48)))
    rw [HVv.out,hx2]
  ·have hjm:j=m:=by omega
   subst hjm
   have hx:=HX.out.2.2.1
   clear h1 hj
   by_cases hjd:(j:Int)<dp
   ·have hjn:¬(j:Int)<(nd:Int):=by omega
    clear hx
    go_wp2
    go_loopg [3,4] (l-j) (fun mq v3 v4 wr2=>∃ i:Nat,mq+i=l∧j≤i∧v3=.int .i64 (i:Int)∧v4=.int .u64 (riB (riA D.f j) (i-j))∧wr2=wr)
    case atStart=>exact ⟨j,by have:=HX.out;omega,Nat.le_refl _,rfl,by rw [Nat.sub_self];rfl,rfl⟩
    case round=>
     obtain ⟨i,h1,hji,rfl,rfl,rfl⟩:=hrel
     by_cases hi:i<l
     ·have hid:(i:Int)<dp:=by have:=HX.out;omega
      have hi20:(i:Int)≤20:=by have:=HX.out;omega
      obtain ⟨v,hv⟩:∃ v,riB (riA D.f j) (i-j)=v:=⟨_,rfl⟩
      rw [hv]
      have HI:=Lib.hid (And.intro h1 (And.intro hji (And.intro hi hv)))
      clear h1 hji hi hv
      go_wp2
      go_roundg (l-(i+1))
      case measure=>have:=HI.out;omega
      case rel=>
       obtain ⟨h1,hji,hi,hv⟩:=HI.out
       refine ⟨i+1,by omega,by omega,rfl,?_,rfl⟩
       rw [show i+1-j=(i-j)+1 by omega]
       show Value.int .u64 (IntKind.u64.wrap (v*10))=.int .u64 (IntKind.u64.wrap (riB (riA D.f j) (i-j)*10))
       rw [hv]
     ·have hid:¬(i:Int)<dp:=by have:=HX.out;omega
      have hil:i=l:=by omega
      subst hil
      obtain ⟨v,hv⟩:∃ v,riB (riA D.f j) (i-j)=v:=⟨_,rfl⟩
      rw [hv]
      have HVv:=Lib.hid hv
      clear h1 hji hi hv
      go_wp2_with fail
      refine (HB.out _ _ HH.out).mono ?_
      rintro e w9 ⟨rfl,k9,rfl⟩
      cases b with
      | true=>
       go_wp2_with fail
       go_ret
       exact ⟨by rw [←HR.out,HVv.out];rfl,k9,rfl⟩
      | false=>
       go_wp2_with fail
       go_ret
       exact ⟨by rw [←HR.out,HVv.out];rfl,k9,rfl⟩
   ·clear hx
    go_wp2
    go_loopg [3,4] (l-j) (fun mq v3 v4 wr2=>∃ i:Nat,mq+i=l∧j≤i∧v3=.int .i64 (i:Int)∧v4=.int .u64 (riB (riA D.f j) (i-j))∧wr2=wr)
    case atStart=>exact ⟨j,by have:=HX.out;omega,Nat.le_refl _,rfl,by rw [Nat.sub_self];rfl,rfl⟩
    case round=>
     obtain ⟨i,h1,hji,rfl,rfl,rfl⟩:=hrel
     by_cases hi:i<l
     ·have hid:(i:Int)<dp:=by have:=HX.out;omega
      have hi20:(i:Int)≤20:=by have:=HX.out;omega
      obtain ⟨v,hv⟩:∃ v,riB (riA D.f j) (i-j)=v:=⟨_,rfl⟩
      rw [hv]
      have HI:=Lib.hid (And.intro h1 (And.intro hji (And.intro hi hv)))
      clear h1 hji hi hv
      go_wp2
      go_roundg (l-(i+1))
      case measure=>have:=HI.out;omega
      case rel=>
       obtain ⟨h1,hji,hi,hv⟩:=HI.out
       refine ⟨i+1,by omega,by omega,rfl,?_,rfl⟩
       rw [show i+1-j=(i-j)+1 by omega]
       show Value.int .u64 (IntKind.u64.wrap (v*10))=.int .u64 (IntKind.u64.wrap (riB (riA D.f j) (i-j)*10))
       rw [hv]
     ·have hid:¬(i:Int)<dp:=by have:=HX.out;omega
      have hil:i=l:=by omega
      subst hil
      obtain ⟨v,hv⟩:∃ v,riB (riA D.f j) (i-j)=v:=⟨_,rfl⟩
      rw [hv]
      have HVv:=Lib.hid hv
      clear h1 hji hi hv
      go_wp2_with fail
      refine (HB.out _ _ HH.out).mono ?_
      rintro e w9 ⟨rfl,k9,rfl⟩
      cases b with
      | true=>
       go_wp2_with fail
       go_ret
       exact ⟨by rw [←HR.out,HVv.out];rfl,k9,rfl⟩
      | false=>
       go_wp2_with fail
       go_ret
       exact ⟨by rw [←HR.out,HVv.out];rfl,k9,rfl⟩
end Go.Proofs.YtkfggfjdplnkpaaGreatDoor
end
section
namespace Go.Proofs.YtkfggfjdplnkpaaGreatDoor
open Go Go.RowKit
theorem and63 (s:Int):0≤bits .and .i64 s 63∧bits .and .i64 s 63≤63:=by
 have h:(BitVec.ofInt 64 s &&& BitVec.ofInt 64 63).toNat≤63:=by
  rw [BitVec.toNat_and]
  exact Nat.le_trans (Nat.and_le_right) (by decide)
 have e:bits .and .i64 s 63=IntKind.i64.wrap ((BitVec.ofInt 64 s &&& BitVec.ofInt 64 63).toNat:Int):=rfl
 rw [e]
 generalize (BitVec.ofInt 64 s &&& BitVec.ofInt 64 63).toNat=n at h
 rw [IntWalk.i64_in _ (by omega)]
 omega
theorem bitLenAux_le:∀ f x:Nat,Lib.bitLenAux f x≤f
 | 0,x=>Nat.le_refl _
 | f+1,x=>by
  unfold Lib.bitLenAux
  split
  ·omega
  ·have:=bitLenAux_le f (x/2)
   omega
theorem bitLen_le (x:Nat):Lib.bitLen x≤64:=bitLenAux_le 64 x
def l2p (p:Int):Int:=wrap64 (p*108853)/32768
theorem l2p_spec (p:Int) (w:World):Calls Tryz.prog 193 #[.int .i64 p] w fun e w'=>e=.returned (.int .i64 (l2p p))∧w'=w:=by
 go_enter Tryz.func193,Tryz.ntmps193
 go_wp2
 go_ret
 exact ⟨rfl,rfl⟩
def b2 (b:Bool):Int:=if b=true then 1 else 0
theorem b2i_spec (b:Bool) (w:World):Calls Tryz.prog 196 #[.bool b] w fun e w'=>e=.returned (.int .i64 (b2 b))∧w'=w:=by
 go_enter Tryz.func196,Tryz.ntmps196
 cases b with
 | true=>go_wp2;go_ret;exact ⟨rfl,rfl⟩
 | false=>go_wp2;go_ret;exact ⟨rfl,rfl⟩
theorem b2u_spec (b:Bool) (w:World):Calls Tryz.prog 181 #[.bool b] w fun e w'=>e=.returned (.int .u64 (b2 b))∧w'=w:=by
 go_enter Tryz.func181,Tryz.ntmps181
 cases b with
 | true=>go_wp2;go_ret;exact ⟨rfl,rfl⟩
 | false=>go_wp2;go_ret;exact ⟨rfl,rfl⟩
def umin (x:Int):Int:=IntKind.u64.wrap (IntKind.u64.wrap (x*4)-2)
theorem umin_spec (x:Int) (w:World):Calls Tryz.prog 197 #[.int .u64 x] w fun e w'=>e=.returned (.int .u64 (umin x))∧w'=w:=by
 go_enter Tryz.func197,Tryz.ntmps197
 go_wp2
 go_ret
 exact ⟨rfl,rfl⟩
def rnd (x:Int):Int:=IntKind.u64.wrap (IntKind.u64.wrap (x+1)+bits .and .u64 (x/4) 1)/4
theorem rnd_spec (x:Int) (w:World):Calls Tryz.prog 199 #[.int .u64 x] w fun e w'=>e=.returned (.int .u64 (rnd x))∧w'=w:=by
 go_enter Tryz.func199,Tryz.ntmps199
 go_wp2
 go_ret
 exact ⟨rfl,rfl⟩
def errR (b:Bool):Value:=match b with
 | true=>.iface 215 (.int .i64 1)
 | false=>.nilIface
def packR (x y:Int):Nat × Bool:=
 if bits .and .u64 x 4503599627370496=0 then (x.toNat,false)
 else if 972≤y then ((bits .or .u64 (bits .and .u64 x 9223372036854775808) 9218868437227405312).toNat,true)
 else ((bits .or .u64 (bits .andNot .u64 x 4503599627370496) (IntKind.u64.wrap (IntKind.u64.wrap (wrap64 (1075+y))*4503599627370496))).toNat,false)
def fpair (r:Nat × Bool):Value:=.tuple #[.float .f64 r.1,errR r.2]
theorem pack_spec (x y:Int) (w:World):Calls Tryz.prog 202 #[.int .u64 x,.int .i64 y] w fun e w'=>e=.returned (fpair (packR x y))∧w'=w:=by
 obtain ⟨R,hR⟩:∃ R,packR x y=R:=⟨_,rfl⟩
 rw [hR]
 have HR:=Lib.hid hR
 clear hR
 have hf:=run_frombits
 obtain ⟨c,hc⟩:∃ c,bits .and .u64 x 4503599627370496=c:=⟨_,rfl⟩
 have HC:=Lib.hid hc
 go_enter Tryz.func202,Tryz.ntmps202
 by_cases h1:c=0
 ·have HE:Hid (R=(x.toNat,false)):=Lib.hid (by rw [←HR.out];unfold packR;rw [HC.out,if_pos h1])
  subst h1
  go_wp2
  refine bodyPost_ret (results_tmp2 rfl _ _ _) rfl ?_
  rw [HE.out]
  exact ⟨rfl,rfl⟩
 ·by_cases h2:972≤y
  ·have HE:Hid (R=((bits .or .u64 (bits .and .u64 x 9223372036854775808) 9218868437227405312).toNat,true)):=Lib.hid (by rw [←HR.out];unfold packR;rw [HC.out,if_neg h1,if_pos h2])
   go_wp2
   refine bodyPost_ret (results_tmp2 rfl _ _ _) rfl ?_
   rw [HE.out]
   exact ⟨rfl,rfl⟩
  ·have HE:Hid (R=((bits .or .u64 (bits .andNot .u64 x 4503599627370496) (IntKind.u64.wrap (IntKind.u64.wrap (wrap64 (1075+y))*4503599627370496))).toNat,false)):=Lib.hid (by rw [←HR.out];unfold packR;rw [HC.out,if_neg h1,if_neg h2])
   go_wp2
   refine bodyPost_ret (results_tmp2 rfl _ _ _) rfl ?_
   rw [HE.out]
   exact ⟨rfl,rfl⟩
def hiT (i:Nat):Nat:=(Pinned.pow10Rows.getD i (0,0)).1
def loT (i:Nat):Nat:=(Pinned.pow10Rows.getD i (0,0)).2
structure PTab (w:World):Prop where
 at_:∀ i,i<696→w.cell? ⟨20,i*2,none⟩=some (.int .u64 (hiT i:Int))∧w.cell? ⟨20,i*2+1,none⟩=some (.int .u64 (loT i:Int))∧hiT i<18446744073709551616∧loT i<18446744073709551616
theorem PTab.keep {w w':World} (h:PTab w) (hl:w'.heap[20]?=w.heap[20]?):PTab w':=
 ⟨fun i hi=>⟨(World.cell?_of_block hl).trans (h.at_ i hi).1,(World.cell?_of_block hl).trans (h.at_ i hi).2.1,(h.at_ i hi).2.2⟩⟩
def PreB (w:World) (g:Nat) (a b c:Int):Prop:=w.heap[g]?=some (.cells #[.int .u64 a,.int .u64 b,.int .i64 c] 257 (0,0))
def preS (e l:Int):Int:=wrap64 (-wrap64 (wrap64 (e+l)+3))
theorem prescale_spec {w:World} {g:Nat} {a b c:Int} (hP:PTab w) (hB:PreB w g a b c) (hg:20<g) (e p l:Int) (i:Nat) (hp:p+348=(i:Int)) (hi:i<696) :
  Calls Tryz.prog 194 #[.pointer (some ⟨g,0,none⟩),.int .i64 e,.int .i64 p,.int .i64 l] w fun e' w'=>e'=.returned (.tuple #[])∧PreB w' g (hiT i:Int) (loT i:Int) (preS e l)∧OnlyG g w w':=by
 obtain ⟨k1,k2,_,_⟩:=hP.at_ i hi
 obtain ⟨P,hP1⟩:∃ P,hiT i=P:=⟨_,rfl⟩
 obtain ⟨Q,hQ1⟩:∃ P,loT i=P:=⟨_,rfl⟩
 rw [hP1] at k1 ⊢
 rw [hQ1] at k2 ⊢
 have HB:=Lib.hid (show w.heap[g]?=some (.cells #[.int .u64 a,.int .u64 b,.int .i64 c] 257 (0,0)) from hB)
 have c0:w.cell? ⟨g,0,none⟩=some (.int .u64 a):=blk_cell hB 0
 have c1:w.cell? ⟨g,1,none⟩=some (.int .u64 b):=blk_cell hB 1
 have c2:w.cell? ⟨g,2,none⟩=some (.int .i64 c):=blk_cell hB 2
 have f0:=blk_frozen hB 0
 have f1:=blk_frozen hB 1
 have f2:=blk_frozen hB 2
 have hne:¬20=g:=by omega
 have WX:IntKind.i64.wrap (p - -348)=(i:Int):=by rw [show p - -348=(i:Int) by omega];exact IntWalk.i64_in _ (by omega)
 have WX':IntKind.i64.wrap (p+348)=(i:Int):=by rw [hp];exact IntWalk.i64_in _ (by omega)
 have b1:(i:Int)<696:=by omega
 clear hB hP hg hp hi hP1 hQ1
 go_enter Tryz.func194,Tryz.ntmps194
 go_wp2
 go_end0
 refine ⟨rfl,?_,onlyG_set (onlyG_set (onlyG_set (Only.refl _ _) 0 _) 1 _) 2 _⟩
 exact blk_set (blk_set (blk_set HB.out 0 _) 1 _) 2 _
def usc (X p q:Nat) (s:Int):Int:=
 if IntKind.u64.wrap (((X*p/18446744073709551616:Nat):Int)/2 ^ min (bits .and .i64 s 63).toNat 64*2 ^ min (bits .and .i64 s 63).toNat 64)=((X*p/18446744073709551616:Nat):Int) then
  bits .or .u64 (IntKind.u64.wrap (((X*p/18446744073709551616:Nat):Int)-b2 (decide (X*p % 18446744073709551616<X*q/18446744073709551616)))/2 ^ min (bits .and .i64 s 63).toNat 64)
   (b2 (decide (1<IntKind.u64.wrap (((X*p % 18446744073709551616:Nat):Int)-((X*q/18446744073709551616:Nat):Int)))))
 else bits .or .u64 (((X*p/18446744073709551616:Nat):Int)/2 ^ min (bits .and .i64 s 63).toNat 64) 1
set_option maxHeartbeats 8000000 in
theorem usc_spec {w:World} {g:Nat} {p q:Nat} {s:Int} (hB:PreB w g (p:Int) (q:Int) s) (hp:p<18446744073709551616) (hq:q<18446744073709551616) (X:Nat) (hX:X<18446744073709551616) :
  Calls Tryz.prog 195 #[.int .u64 (X:Int),.pointer (some ⟨g,0,none⟩)] w (Quiet w (.int .u64 (usc X p q s))):=by
 obtain ⟨R,hR⟩:∃ R,usc X p q s=R:=⟨_,rfl⟩
 rw [hR]
 unfold usc at hR
 have hM1:=Tryz.bits_Mul64 X p hX hp
 have hM2:=Tryz.bits_Mul64 X q hX hq
 obtain ⟨H,hH⟩:∃ H,X*p/18446744073709551616=H:=⟨_,rfl⟩
 obtain ⟨L,hL⟩:∃ H,X*p % 18446744073709551616=H:=⟨_,rfl⟩
 obtain ⟨H2,hH2⟩:∃ H,X*q/18446744073709551616=H:=⟨_,rfl⟩
 obtain ⟨L2,hL2⟩:∃ H,X*q % 18446744073709551616=H:=⟨_,rfl⟩
 have ht:=(and63 s).1
 obtain ⟨t,htt⟩:∃ t,bits .and .i64 s 63=t:=⟨_,rfl⟩
 rw [hH,hL] at hM1
 rw [hH2,hL2] at hM2
 rw [hH,hL,hH2,htt] at hR
 rw [htt] at ht
 obtain ⟨pk,hpk⟩:∃ pk:Int,(2:Int) ^ min t.toNat 64=pk:=⟨_,rfl⟩
 rw [hpk] at hR
 have HR:=Lib.hid hR
 have HM1:=Lib.hid hM1
 have HM2:=Lib.hid hM2
 have c0:w.cell? ⟨g,0,none⟩=some (.int .u64 p):=blk_cell hB 0
 have c1:w.cell? ⟨g,1,none⟩=some (.int .u64 q):=blk_cell hB 1
 have c2:w.cell? ⟨g,2,none⟩=some (.int .i64 s):=blk_cell hB 2
 have ht0:¬t<0:=by omega
 clear hR hM1 hM2 hH hL hH2 hL2 hB hp hq hX
 go_enter Tryz.func195,Tryz.ntmps195
 go_wp2_with fail
 refine (HM1.out _).mono ?_
 rintro ex w2 ⟨rfl,rfl⟩
 obtain ⟨v,hv⟩:∃ v,IntKind.u64.wrap ((H:Int)/pk*pk)=v:=⟨_,rfl⟩
 by_cases h1:v=(H:Int)
 ·have HE:Hid (R=bits .or .u64 (IntKind.u64.wrap ((H:Int)-b2 (decide (L<H2)))/pk) (b2 (decide (1<IntKind.u64.wrap ((L:Int)-(H2:Int)))))):=Lib.hid (by
   have:=HR.out
   rw [hv,if_pos h1] at this
   exact this.symm)
  subst h1
  clear HR
  go_wp2_with fail
  refine (HM2.out _).mono ?_
  rintro ex w3 ⟨rfl,rfl⟩
  go_wp2_with fail
  refine (b2u_spec _ _).mono ?_
  rintro ex w4 ⟨rfl,rfl⟩
  obtain ⟨u1,hu1⟩:∃ u,b2 (decide (L<H2))=u:=⟨_,rfl⟩
  obtain ⟨u2,hu2⟩:∃ u,IntKind.u64.wrap ((L:Int)-(H2:Int))=u:=⟨_,rfl⟩
  rw [hu1,hu2] at HE
  rw [hu1]
  clear hu1 HM1 HM2
  have hpre:Hid (∀ w:World,Calls Tryz.prog 181 #[.bool (decide (1<u2))] w fun e w'=>e=.returned (.int .u64 (b2 (decide (1<u2))))∧∃ m,w'=w.drewN m):=
   Lib.hid (fun w=>(b2u_spec _ w).mono fun e w' h=>⟨h.1,0,h.2⟩)
  go_wp2_with fail
  go_quiet (exact quiet_addN (hpre.out _))
  go_wp2_with fail
  go_ret
  exact ⟨by rw [HE.out];rfl,_,rfl⟩
 ·have HE:Hid (R=bits .or .u64 ((H:Int)/pk) 1):=Lib.hid (by
   have:=HR.out
   rw [hv,if_neg h1] at this
   exact this.symm)
  clear HR
  go_wp2_with fail
  go_ret
  exact ⟨by rw [HE.out];rfl,0,rfl⟩
def pfB (d:Int):Int:=(Lib.bitLen d.toNat:Int)
def pfE (d p:Int):Int:=min 1074 (wrap64 (53-pfB d-l2p p))
def pfS (d p:Int):Int:=preS (wrap64 (pfE d p-(64-pfB d))) (l2p p)
def pfI (p:Int):Nat:=(p+348).toNat
def pfX (d:Int):Int:=IntKind.u64.wrap (d*2 ^ (64-pfB d).toNat)
def pfU (d p:Int):Int:=usc (pfX d).toNat (hiT (pfI p)) (loT (pfI p)) (pfS d p)
def pfK (u:Int):Int:=b2 (decide (umin 9007199254740992≤u))
def pfV (u:Int):Int:=bits .or .u64 (u/2 ^ min (pfK u).toNat 64) (bits .and .u64 u 1)
def pfR (d p sg:Int):Nat × Bool:=
 if 64≤pfS d p then ((bits .or .u64 sg 0).toNat,false)
 else packR (bits .or .u64 sg (rnd (pfV (pfU d p)))) (wrap64 (-wrap64 (pfE d p-pfK (pfU d p))))
set_option maxHeartbeats 8000000 in
theorem pf_spec {w:World} (hP:PTab w) (hsz:20<w.heap.size) (d p sg:Int) (hd:0≤d∧d≤18446744073709551615) (hp:-345≤p∧p≤310) :
  Calls Tryz.prog 184 #[.int .u64 d,.int .i64 p,.int .u64 sg] w fun e w'=>e=.returned (fpair (pfR d p sg))∧Below w.heap.size w w':=by
 obtain ⟨R,hR⟩:∃ R,pfR d p sg=R:=⟨_,rfl⟩
 rw [hR]
 unfold pfR at hR
 have HR:=Lib.hid hR
 clear hR
 have hb64:=bitLen_le d.toNat
 have hf:=run_frombits
 obtain ⟨b,hb⟩:∃ b,pfB d=b:=⟨_,rfl⟩
 have hb0:(Lib.bitLen d.toNat:Int)=b:=hb
 have hL:Hid (∀ w:World,Calls Tryz.prog 192 #[.int .u64 d] w fun e w'=>e=.returned (.int .i64 b)∧w'=w):=Lib.hid (fun w=>by
  have:=Tryz.bits_Len64 d w hd.1 hd.2
  rw [hb0] at this
  exact this)
 have hbb:0≤b∧b≤64:=by omega
 clear hb64
 obtain ⟨l,hl⟩:∃ l,l2p p=l:=⟨_,rfl⟩
 have hll:=Lib.hid (l2p_spec p)
 rw [hl] at hll
 obtain ⟨e,he⟩:∃ e,pfE d p=e:=⟨_,rfl⟩
 have he':min 1074 (wrap64 (53-b-l))=e:=by rw [←he];unfold pfE;rw [hb,hl]
 go_enter Tryz.func184,Tryz.ntmps184
 go_wp2_with fail
 refine (hL.out _).mono ?_
 rintro ex w2 ⟨rfl,rfl⟩
 go_wp2_with fail
 refine (hll.out _).mono ?_
 rintro ex w3 ⟨rfl,rfl⟩
 obtain ⟨s,hs⟩:∃ s,pfS d p=s:=⟨_,rfl⟩
 have hs':preS (wrap64 (e-(64-b))) l=s:=by rw [←hs];unfold pfS;rw [he,hb,hl]
 obtain ⟨i,hi⟩:∃ i,pfI p=i:=⟨_,rfl⟩
 have hpi:p+348=(i:Int):=by rw [←hi];unfold pfI;omega
 have hi6:i<696:=by omega
 have hPB:PreB (w3.alloc (.cells #[.int .u64 0,.int .u64 0,.int .i64 0] 257)) w3.heap.size 0 0 0:=heap_alloc_new _ _
 have hP2:PTab (w3.alloc (.cells #[.int .u64 0,.int .u64 0,.int .i64 0] 257)):=hP.keep (heap_alloc_old _ _ hsz)
 have HPS:=Lib.hid (prescale_spec hP2 hPB hsz (wrap64 (e-(64-b))) p l i hpi hi6)
 rw [hs'] at HPS
 have HO:=Lib.hid (Only.alloc (Only.refl (fun _=>False) w3) (.cells #[.int .u64 0,.int .u64 0,.int .i64 0] 257))
 have HT:=(hP.at_ i hi6).2.2
 obtain ⟨xx,hxx⟩:∃ x,pfX d=x:=⟨_,rfl⟩
 have hxx':IntKind.u64.wrap (d*2 ^ (64-b).toNat)=xx:=by rw [←hxx];unfold pfX;rw [hb]
 have hx0:0≤xx∧xx≤18446744073709551615:=by
  rw [←hxx',IntKind.wrap_u64]
  omega
 obtain ⟨X,hX⟩:∃ X:Nat,xx=(X:Int):=⟨xx.toNat,by omega⟩
 obtain ⟨u,hu⟩:∃ u,pfU d p=u:=⟨_,rfl⟩
 have hu':usc X (hiT i) (loT i) s=u:=by
  rw [←hu]
  unfold pfU
  rw [hxx,hi,hs,hX,Int.toNat_natCast]
 have hR2:=HR.out
 rw [hs,he,hu] at hR2
 have HR2:=Lib.hid hR2
 clear hP2 hPB hP hs hi hs' hpi hi6 hb0 hL hll HR he hb hxx hR2
 go_wp2_with fail
 refine HPS.out.mono ?_
 clear HPS
 rintro ex w4 ⟨rfl,hB,ho⟩
 have HB:=Lib.hid hB
 have HO2:=Lib.hid (HO.out.trans ho (fun k hk=>.inr (by rw [hk];exact Nat.le_refl _)))
 have c2:w4.cell? ⟨w3.heap.size,2,none⟩=some (.int .i64 s):=blk_cell hB 2
 clear hB ho HO
 by_cases hS:64≤s
 ·have HE:Hid (R=((bits .or .u64 sg 0).toNat,false)):=Lib.hid (by rw [←HR2.out,if_pos hS])
  clear HB HR2
  go_wp2_with fail
  refine bodyPost_ret (results_tmp2 rfl _ _ _) rfl ?_
  rw [HE.out]
  exact ⟨rfl,HO2.out.below (fun _ h=>h.elim)⟩
 ·have HU:=Lib.hid (usc_spec HB.out HT.1 HT.2 X (by omega))
  rw [hu'] at HU
  have hR3:=HR2.out
  rw [if_neg hS] at hR3
  obtain ⟨k,hk⟩:∃ k,pfK u=k:=⟨_,rfl⟩
  obtain ⟨v,hv⟩:∃ v,pfV u=v:=⟨_,rfl⟩
  rw [hk,hv] at hR3
  have hv':bits .or .u64 (u/2 ^ min k.toNat 64) (bits .and .u64 u 1)=v:=by rw [←hv];unfold pfV;rw [hk]
  have hk':b2 (decide (umin 9007199254740992≤u))=k:=hk
  have hk0:0≤k:=by rw [←hk']; unfold b2; split <;> omega
  have HK:=Lib.hid hk'
  have HR3:=Lib.hid hR3
  rw [hX] at hxx'
  have b640:0≤64-b:=by omega
  clear hR3 hk' hk hv hu hu' hX hx0 HB HR2 HT
  go_wp2_with fail
  refine HU.out.mono ?_
  clear HU
  rintro ex w5 ⟨rfl,m5,rfl⟩
  go_wp2_with fail
  refine (umin_spec _ _).mono ?_
  rintro ex w6 ⟨rfl,rfl⟩
  obtain ⟨um,hum⟩:∃ x,umin 9007199254740992=x:=⟨_,rfl⟩
  rw [hum] at HK ⊢
  clear hum
  go_wp2_with fail
  refine (b2i_spec _ _).mono ?_
  rintro ex w7 ⟨rfl,rfl⟩
  rw [HK.out]
  go_wp2_with fail
  refine (rnd_spec _ _).mono ?_
  rintro ex w8 ⟨rfl,rfl⟩
  go_wp2_with fail
  refine (pack_spec _ _ _).mono ?_
  rintro ex w9 ⟨rfl,rfl⟩
  rw [HR3.out]
  clear HR3
  obtain ⟨r1,r2⟩:=R
  cases r2 with
  | true=>
   unfold fpair errR
   go_wp2_with fail
   refine bodyPost_ret (results_tmp2 rfl _ _ _) rfl ?_
   exact ⟨rfl,(HO2.out.drewN m5).below (fun _ h=>h.elim)⟩
  | false=>
   unfold fpair errR
   go_wp2_with fail
   refine bodyPost_ret (results_tmp2 rfl _ _ _) rfl ?_
   exact ⟨rfl,(HO2.out.drewN m5).below (fun _ h=>h.elim)⟩
end Go.Proofs.YtkfggfjdplnkpaaGreatDoor
end
