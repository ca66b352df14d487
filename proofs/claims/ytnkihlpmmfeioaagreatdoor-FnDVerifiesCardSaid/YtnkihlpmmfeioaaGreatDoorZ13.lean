/- Part of the proof that laws.FnDVerifies answers true: S1,A42 -/
import Derived.Shelf.Strings.Builder1
import Derived.Shelf.Strings.Builder2
import Derived.Shelf.Strings.OnBuilder
import Derived.Shelf.Small.Utf8
import Derived.Shelf.Small.Bits
import Derived.Ground.FneProg
import Derived.Shelf.Strconv.NumErrorText
import Derived.Shelf.Strconv.Itoa0
import Derived.Shelf.Strconv.Itoa1
import Derived.Shelf.LaysM
import Derived.Shelf.Strconv.Itoa2
import Derived.Shelf.Strconv.Itoa3
import Derived.Shelf.Strconv.Itoa4
import Derived.Shelf.Strconv.ParseIntEmpty
import Derived.Shelf.Strconv.Clone
import Derived.Shelf.Strconv.SyntaxError
import Derived.Shelf.LaysC
import Derived.Shelf.Strconv.ToError
import Derived.Shelf.Strconv.Lower
import Derived.Shelf.Strconv.ParseUint10
import Derived.Shelf.Strconv.ParseUint10Empty
import Derived.Shelf.Strconv.ParseUint10Any
import Derived.Shelf.Strconv.ParseInt10
import Derived.Shelf.Strconv.RangeError
import Derived.Shelf.Strconv.ToErrorRange
import Derived.Shelf.Strconv.ParseUintEmpty
import Derived.Shelf.Strconv.ParseUint10b64
import Derived.Shelf.Strconv.ParseUint10b32
import Derived.Shelf.Strconv.ParseUint10b16
import Derived.Shelf.Strconv.ParseUint10b8
import Derived.Shelf.Strconv.ParseUint10At
import Derived.Shelf.Strconv.ParseInt10At64
import Derived.Shelf.Strconv.ParseInt10At32
import Derived.Shelf.Strconv.ParseInt10At16
import Derived.Shelf.Strconv.ParseInt10At8
import Derived.Shelf.Strconv.ParseInt10All
import Derived.Shelf.Strconv.ParseIntPublic10
import Derived.Shelf.Strconv.ErrVarParseInt
import Derived.Shelf.Strings.Prefix
import Derived.Shelf.Unicode.Decode
import Derived.Shelf.Unicode.DecodeSlow
import Derived.Shelf.Unicode.DecodeAny
import Derived.Shelf.Strings.FieldsFuncAny
import Derived.Shelf.Strings.FieldsFuncGrows
import Derived.Shelf.Bytes.SlIndexAt
import Derived.Shelf.Bytes.Small
import Derived.Shelf.Bytes.IndexByte
import Derived.Test.YtnkihlpmmfeioaaGreatDoorZ11
set_option linter.unusedVariables false
set_option linter.unusedSimpArgs false
set_option maxRecDepth 1000000
set_option maxHeartbeats 16000000
namespace Go.Proofs
open Go.Shelf
def Tryz.lays156_ren : Go.Shelf.Ren:=⟨fun|156=>168|165=>177|166=>178|169=>86|240=>187|241=>188|276=>198|277=>199|n=>n,fun|31=>34|9=>9|3=>3|4=>4|0=>0|20=>20|72=>137|76=>188|70=>135|37=>33|75=>68|127=>222|164=>322|5=>5|80=>141|n=>n,fun|n=>n⟩
theorem Tryz.lays156 : Go.Proofs.Lays.n156 Tryz.prog Tryz.lays156_ren:={
 mixed:=by kernel_rfl
 f156:=Tryz.func168.trans (congrArg some (by kernel_rfl))
 f165:=Tryz.func177.trans (congrArg some (by kernel_rfl))
 f166:=Tryz.func178.trans (congrArg some (by kernel_rfl))
 f169:=Tryz.func86.trans (congrArg some (by kernel_rfl))
 f240:=Tryz.func187.trans (congrArg some (by kernel_rfl))
 f241:=Tryz.func188.trans (congrArg some (by kernel_rfl))
 f276:=Tryz.func198.trans (congrArg some (by kernel_rfl))
 f277:=Tryz.func199.trans (congrArg some (by kernel_rfl))
 t0:=Tryz.underlying0
 a0:=Tryz.isAgg0
 z0:=Tryz.sizeOf0
 v0:=Tryz.zeroValue0
 t3:=Tryz.underlying3
 a3:=Tryz.isAgg3
 z3:=Tryz.sizeOf3
 v3:=Tryz.zeroValue3
 t4:=Tryz.underlying4
 a4:=Tryz.isAgg4
 z4:=Tryz.sizeOf4
 v4:=Tryz.zeroValue4
 t9:=Tryz.underlying9
 a9:=Tryz.isAgg9
 z9:=Tryz.sizeOf9
 v9:=Tryz.zeroValue9
 t20:=Tryz.underlying20
 a20:=Tryz.isAgg20
 z20:=Tryz.sizeOf20
 v20:=Tryz.zeroValue20
 t31:=Tryz.underlying34
 a31:=Tryz.isAgg34
 z31:=Tryz.sizeOf34
 v31:=Tryz.zeroValue34
 t37:=Tryz.underlying33
 a37:=Tryz.isAgg33
 z37:=Tryz.sizeOf33
 v37:=Tryz.zeroValue33
 t70:=Tryz.underlying135
 a70:=Tryz.isAgg135
 z70:=Tryz.sizeOf135
 v70:=Tryz.zeroValue135
 t72:=Tryz.underlying137
 a72:=Tryz.isAgg137
 z72:=Tryz.sizeOf137
 v72:=Tryz.zeroValue137
 t75:=Tryz.underlying68
 a75:=Tryz.isAgg68
 z75:=Tryz.sizeOf68
 v75:=Tryz.zeroValue68
 t76:=Tryz.underlying188
 a76:=Tryz.isAgg188
 z76:=Tryz.sizeOf188
 v76:=Tryz.zeroValue188
 t127:=Tryz.underlying222
 a127:=Tryz.isAgg222
 z127:=Tryz.sizeOf222
 v127:=Tryz.zeroValue222
 t164:=Tryz.underlying322
 a164:=Tryz.isAgg322
 z164:=Tryz.sizeOf322
 v164:=Tryz.zeroValue322 }
theorem Tryz.Builder_Extra_156 : Builder.Extra Tryz.prog Tryz.lays156_ren:={
 sizeBuilder:=by kernel_rfl
 liesBuilder:=by kernel_rfl
 t5:=Tryz.underlying5
 a5:=Tryz.isAgg5
 z5:=Tryz.sizeOf5
 v5:=Tryz.zeroValue5
 infoByte:=by kernel_rfl
 cellsByte:=by kernel_rfl
 sizeByte:=by kernel_rfl
 neB5:=by decide }
open Go.RowKit in
theorem Tryz.strings_Join(bk o c:Nat)(xs:List ByteArray)(sep:ByteArray)(w:World)(hcells:∀(j:Nat) x,xs[j]?=some x->w.cell? ⟨bk,o+j,none⟩=some (.string x))(hbk:bk < w.heap.size)(hN:xs.length<=140737488355328)(hcap:xs.length<=c)(hlen:(Lib.join (xs.map (·.data.toList)) sep.data.toList).length<=140737488355328) :
  Calls Tryz.prog 168 #[.slice (some ⟨bk,o,none⟩) xs.length c,.string sep] w fun e w'=>e=.returned (.string ⟨(Lib.join (xs.map (·.data.toList)) sep.data.toList).toArray⟩)/\Below w.heap.size w w':=Any.strings_Join Tryz.lays156 Tryz.Builder_Extra_156 bk o c xs sep w hcells hbk hN hcap hlen
def Tryz.laysFn4_ren : Go.Shelf.Ren:=⟨fun|4=>275|5=>276|6=>277|7=>278|8=>279|9=>280|10=>281|11=>282|12=>283|13=>284|14=>285|15=>286|16=>287|17=>288|n=>n,fun|22=>294|9=>9|0=>0|28=>306|26=>68|5=>5|4=>4|3=>3|31=>33|21=>21|33=>374|35=>198|39=>378|42=>381|41=>380|43=>382|44=>383|45=>331|47=>201|48=>199|23=>141|n=>n,fun|0=>18|1=>19|2=>20|3=>21|4=>22|5=>23|6=>24|n=>n⟩
theorem Tryz.laysFn4 : Go.Proofs.LaysFn.n4 Tryz.prog Tryz.laysFn4_ren:={
 mixed:=by kernel_rfl
 f4:=Tryz.func275.trans (congrArg some (by kernel_rfl))
 f5:=Tryz.func276.trans (congrArg some (by kernel_rfl))
 f6:=Tryz.func277.trans (congrArg some (by kernel_rfl))
 f7:=Tryz.func278.trans (congrArg some (by kernel_rfl))
 f8:=Tryz.func279.trans (congrArg some (by kernel_rfl))
 f9:=Tryz.func280.trans (congrArg some (by kernel_rfl))
 f10:=Tryz.func281.trans (congrArg some (by kernel_rfl))
 f11:=Tryz.func282.trans (congrArg some (by kernel_rfl))
 f12:=Tryz.func283.trans (congrArg some (by kernel_rfl))
 f13:=Tryz.func284.trans (congrArg some (by kernel_rfl))
 f14:=Tryz.func285.trans (congrArg some (by kernel_rfl))
 f15:=Tryz.func286.trans (congrArg some (by kernel_rfl))
 f16:=Tryz.func287.trans (congrArg some (by kernel_rfl))
 f17:=Tryz.func288.trans (congrArg some (by kernel_rfl))
 t0:=Tryz.underlying0
 a0:=Tryz.isAgg0
 z0:=Tryz.sizeOf0
 v0:=Tryz.zeroValue0
 i0:=by kernel_rfl
 t3:=Tryz.underlying3
 a3:=Tryz.isAgg3
 z3:=Tryz.sizeOf3
 v3:=Tryz.zeroValue3
 i3:=by kernel_rfl
 t4:=Tryz.underlying4
 a4:=Tryz.isAgg4
 z4:=Tryz.sizeOf4
 v4:=Tryz.zeroValue4
 i4:=by kernel_rfl
 t5:=Tryz.underlying5
 a5:=Tryz.isAgg5
 z5:=Tryz.sizeOf5
 v5:=Tryz.zeroValue5
 i5:=by kernel_rfl
 t9:=Tryz.underlying9
 a9:=Tryz.isAgg9
 z9:=Tryz.sizeOf9
 v9:=Tryz.zeroValue9
 i9:=by kernel_rfl
 t21:=Tryz.underlying21
 a21:=Tryz.isAgg21
 z21:=Tryz.sizeOf21
 v21:=Tryz.zeroValue21
 i21:=by kernel_rfl
 t22:=Tryz.underlying294
 a22:=Tryz.isAgg294
 z22:=Tryz.sizeOf294
 v22:=Tryz.zeroValue294
 i22:=by kernel_rfl
 t23:=Tryz.underlying141
 a23:=Tryz.isAgg141
 z23:=Tryz.sizeOf141
 v23:=Tryz.zeroValue141
 i23:=by kernel_rfl
 t26:=Tryz.underlying68
 a26:=Tryz.isAgg68
 z26:=Tryz.sizeOf68
 v26:=Tryz.zeroValue68
 i26:=by kernel_rfl
 t28:=Tryz.underlying306
 a28:=Tryz.isAgg306
 z28:=Tryz.sizeOf306
 v28:=Tryz.zeroValue306
 i28:=by kernel_rfl
 t31:=Tryz.underlying33
 a31:=Tryz.isAgg33
 z31:=Tryz.sizeOf33
 v31:=Tryz.zeroValue33
 i31:=by kernel_rfl
 t33:=Tryz.underlying374
 a33:=Tryz.isAgg374
 z33:=Tryz.sizeOf374
 v33:=Tryz.zeroValue374
 i33:=by kernel_rfl
 t35:=Tryz.underlying198
 a35:=Tryz.isAgg198
 z35:=Tryz.sizeOf198
 v35:=Tryz.zeroValue198
 i35:=by kernel_rfl
 t39:=Tryz.underlying378
 a39:=Tryz.isAgg378
 z39:=Tryz.sizeOf378
 t41:=Tryz.underlying380
 a41:=Tryz.isAgg380
 z41:=Tryz.sizeOf380
 v41:=Tryz.zeroValue380
 i41:=by kernel_rfl
 t42:=Tryz.underlying381
 a42:=Tryz.isAgg381
 z42:=Tryz.sizeOf381
 v42:=Tryz.zeroValue381
 i42:=by kernel_rfl
 t43:=Tryz.underlying382
 a43:=Tryz.isAgg382
 z43:=Tryz.sizeOf382
 v43:=Tryz.zeroValue382
 i43:=by kernel_rfl
 t44:=Tryz.underlying383
 a44:=Tryz.isAgg383
 z44:=Tryz.sizeOf383
 v44:=Tryz.zeroValue383
 i44:=by kernel_rfl
 t45:=Tryz.underlying331
 a45:=Tryz.isAgg331
 z45:=Tryz.sizeOf331
 v45:=Tryz.zeroValue331
 i45:=by kernel_rfl
 t47:=Tryz.underlying201
 a47:=Tryz.isAgg201
 z47:=Tryz.sizeOf201
 v47:=Tryz.zeroValue201
 i47:=by kernel_rfl
 t48:=Tryz.underlying199
 a48:=Tryz.isAgg199
 z48:=Tryz.sizeOf199
 v48:=Tryz.zeroValue199
 i48:=by kernel_rfl
 g0:=by kernel_rfl
 m0:=by kernel_rfl
 g1:=by kernel_rfl
 m1:=by kernel_rfl
 g2:=by kernel_rfl
 m2:=by kernel_rfl
 g3:=by kernel_rfl
 m3:=by kernel_rfl
 g4:=by kernel_rfl
 m4:=by kernel_rfl
 g5:=by kernel_rfl
 m5:=by kernel_rfl
 g6:=by kernel_rfl
 m6:=by kernel_rfl }
open Go.RowKit Go.Sort in
theorem Tryz.NumError_Error(b o:Nat)(fn num q txt:ByteArray)(u:TypeId)(v0:Value)(g:FuncId)(rv:Value)(w:World)(c0:w.cell? ⟨b,o,none⟩=some (.string fn))(c1:w.cell? ⟨b,o+1,none⟩=some (.string num))(c2:w.cell? ⟨b,o+2,none⟩=some (.iface u v0))(hsum:fn.size+q.size+txt.size+20<=9223372036854775807)(hQ:∀W,Below w.heap.size w W->Calls Tryz.prog 276 #[.string num] W fun e w'=>e=.returned (.string q)/\Below W.heap.size W w')(hm:∀W,(method (Tryz.prog.types.size+100) u v0 "Error").run Tryz.prog W=.ok (g,rv) W)(eg:∀args W,(callFunc g args).run Tryz.prog W=.ok (.enter g args) W)(hE:∀W,Below w.heap.size w W->Calls Tryz.prog g #[rv] W fun e w'=>e=.returned (.string txt)/\Below W.heap.size W w') :
  Calls Tryz.prog 275 #[.pointer (some ⟨b,o,none⟩)] w fun e w'=>e=.returned (.string ("strconv.".toUTF8++fn ++ ": ".toUTF8 ++ "parsing ".toUTF8++q ++ ": ".toUTF8++txt))/\Below w.heap.size w w':=Any.NumError_Error Tryz.laysFn4 b o fn num q txt u v0 g rv w c0 c1 c2 hsum hQ hm eg hE
def Tryz.laysM171_ren : Go.Shelf.Ren:=⟨fun|171=>166|243=>175|246=>176|283=>183|284=>184|285=>185|286=>186|129=>194|317=>193|318=>195|319=>196|320=>197|337=>210|338=>211|n=>n,fun|3=>3|9=>9|2=>2|4=>4|171=>310|0=>0|53=>102|37=>33|5=>5|173=>313|212=>319|51=>201|20=>20|213=>320|46=>198|232=>340|233=>341|n=>n,fun|17=>12|18=>13|19=>14|n=>n⟩
theorem Tryz.laysM171 : Go.Proofs.LaysM.n171 Tryz.prog Tryz.laysM171_ren:={
 mixed:=by kernel_rfl
 f129:=Tryz.func194.trans (congrArg some (by kernel_rfl))
 f171:=Tryz.func166.trans (congrArg some (by kernel_rfl))
 f243:=Tryz.func175.trans (congrArg some (by kernel_rfl))
 f246:=Tryz.func176.trans (congrArg some (by kernel_rfl))
 f283:=Tryz.func183.trans (congrArg some (by kernel_rfl))
 f284:=Tryz.func184.trans (congrArg some (by kernel_rfl))
 f285:=Tryz.func185.trans (congrArg some (by kernel_rfl))
 f286:=Tryz.func186.trans (congrArg some (by kernel_rfl))
 f317:=Tryz.func193.trans (congrArg some (by kernel_rfl))
 f318:=Tryz.func195.trans (congrArg some (by kernel_rfl))
 f319:=Tryz.func196.trans (congrArg some (by kernel_rfl))
 f320:=Tryz.func197.trans (congrArg some (by kernel_rfl))
 f337:=Tryz.func210.trans (congrArg some (by kernel_rfl))
 f338:=Tryz.func211.trans (congrArg some (by kernel_rfl))
 t0:=Tryz.underlying0
 a0:=Tryz.isAgg0
 z0:=Tryz.sizeOf0
 v0:=Tryz.zeroValue0
 t2:=Tryz.underlying2
 a2:=Tryz.isAgg2
 z2:=Tryz.sizeOf2
 v2:=Tryz.zeroValue2
 t3:=Tryz.underlying3
 a3:=Tryz.isAgg3
 z3:=Tryz.sizeOf3
 v3:=Tryz.zeroValue3
 t4:=Tryz.underlying4
 a4:=Tryz.isAgg4
 z4:=Tryz.sizeOf4
 v4:=Tryz.zeroValue4
 t5:=Tryz.underlying5
 a5:=Tryz.isAgg5
 z5:=Tryz.sizeOf5
 v5:=Tryz.zeroValue5
 t9:=Tryz.underlying9
 a9:=Tryz.isAgg9
 z9:=Tryz.sizeOf9
 v9:=Tryz.zeroValue9
 t20:=Tryz.underlying20
 a20:=Tryz.isAgg20
 z20:=Tryz.sizeOf20
 v20:=Tryz.zeroValue20
 t37:=Tryz.underlying33
 a37:=Tryz.isAgg33
 z37:=Tryz.sizeOf33
 v37:=Tryz.zeroValue33
 t46:=Tryz.underlying198
 a46:=Tryz.isAgg198
 z46:=Tryz.sizeOf198
 v46:=Tryz.zeroValue198
 t51:=Tryz.underlying201
 a51:=Tryz.isAgg201
 z51:=Tryz.sizeOf201
 v51:=Tryz.zeroValue201
 t53:=Tryz.underlying102
 a53:=Tryz.isAgg102
 z53:=Tryz.sizeOf102
 v53:=Tryz.zeroValue102
 t171:=Tryz.underlying310
 a171:=Tryz.isAgg310
 z171:=Tryz.sizeOf310
 v171:=Tryz.zeroValue310
 t173:=Tryz.underlying313
 a173:=Tryz.isAgg313
 z173:=Tryz.sizeOf313
 v173:=Tryz.zeroValue313
 t212:=Tryz.underlying319
 a212:=Tryz.isAgg319
 z212:=Tryz.sizeOf319
 v212:=Tryz.zeroValue319
 t213:=Tryz.underlying320
 a213:=Tryz.isAgg320
 z213:=Tryz.sizeOf320
 t232:=Tryz.underlying340
 a232:=Tryz.isAgg340
 z232:=Tryz.sizeOf340
 v232:=Tryz.zeroValue340
 t233:=Tryz.underlying341
 a233:=Tryz.isAgg341
 z233:=Tryz.sizeOf341
 v233:=Tryz.zeroValue341
 g17:=by kernel_rfl
 g18:=by kernel_rfl
 g19:=by kernel_rfl
 i0:=by kernel_rfl
 i2:=by kernel_rfl
 i3:=by kernel_rfl
 i4:=by kernel_rfl
 i5:=by kernel_rfl
 i9:=by kernel_rfl
 i20:=by kernel_rfl
 i37:=by kernel_rfl
 i46:=by kernel_rfl
 i51:=by kernel_rfl
 i53:=by kernel_rfl
 i171:=by kernel_rfl
 i173:=by kernel_rfl
 i212:=by kernel_rfl
 i232:=by kernel_rfl
 i233:=by kernel_rfl
 m17:=by kernel_rfl
 m18:=by kernel_rfl
 m19:=by kernel_rfl }
open Go.RowKit Go.Sort Go.Lib in
theorem Tryz.strconv_Itoa(n:Int)(h0:-9223372036854775808<=n)(h1:n<=9223372036854775807)(w:World)(htab:Lib.TabIs Tryz.prog w "internal/strconv.uint64pow10" .u64 Lib.pow10Tab) :
  Calls Tryz.prog 166 #[.int .i64 n] w fun e w'=>e=.returned (.string ⟨(Lib.itoa n).toArray⟩)/\∃k os,w'=grow (w.drewN k) os:=Any.strconv_Itoa Tryz.laysM171 n h0 h1 w htab
def Tryz.laysC174_ren : Go.Shelf.Ren:=⟨fun|174=>135|247=>146|245=>147|287=>160|279=>161|280=>162|281=>163|282=>164|321=>172|322=>173|316=>174|171=>166|205=>93|243=>175|246=>176|283=>183|284=>184|285=>185|286=>186|129=>194|317=>193|318=>195|319=>196|320=>197|337=>210|338=>211|n=>n,fun|9=>9|3=>3|2=>2|75=>68|85=>181|4=>4|167=>291|5=>5|53=>102|175=>292|46=>198|168=>294|37=>33|0=>0|210=>306|21=>21|127=>222|145=>237|143=>235|171=>310|173=>313|212=>319|51=>201|20=>20|213=>320|232=>340|233=>341|80=>141|n=>n,fun|15=>9|16=>10|17=>12|18=>13|19=>14|n=>n⟩
theorem Tryz.laysC174 : Go.Proofs.LaysC.n174 Tryz.prog Tryz.laysC174_ren:={
 mixed:=by kernel_rfl
 f129:=Tryz.func194.trans (congrArg some (by kernel_rfl))
 f171:=Tryz.func166.trans (congrArg some (by kernel_rfl))
 f174:=Tryz.func135.trans (congrArg some (by kernel_rfl))
 f205:=Tryz.func93.trans (congrArg some (by kernel_rfl))
 f243:=Tryz.func175.trans (congrArg some (by kernel_rfl))
 f245:=Tryz.func147.trans (congrArg some (by kernel_rfl))
 f246:=Tryz.func176.trans (congrArg some (by kernel_rfl))
 f247:=Tryz.func146.trans (congrArg some (by kernel_rfl))
 f279:=Tryz.func161.trans (congrArg some (by kernel_rfl))
 f280:=Tryz.func162.trans (congrArg some (by kernel_rfl))
 f281:=Tryz.func163.trans (congrArg some (by kernel_rfl))
 f282:=Tryz.func164.trans (congrArg some (by kernel_rfl))
 f283:=Tryz.func183.trans (congrArg some (by kernel_rfl))
 f284:=Tryz.func184.trans (congrArg some (by kernel_rfl))
 f285:=Tryz.func185.trans (congrArg some (by kernel_rfl))
 f286:=Tryz.func186.trans (congrArg some (by kernel_rfl))
 f287:=Tryz.func160.trans (congrArg some (by kernel_rfl))
 f316:=Tryz.func174.trans (congrArg some (by kernel_rfl))
 f317:=Tryz.func193.trans (congrArg some (by kernel_rfl))
 f318:=Tryz.func195.trans (congrArg some (by kernel_rfl))
 f319:=Tryz.func196.trans (congrArg some (by kernel_rfl))
 f320:=Tryz.func197.trans (congrArg some (by kernel_rfl))
 f321:=Tryz.func172.trans (congrArg some (by kernel_rfl))
 f322:=Tryz.func173.trans (congrArg some (by kernel_rfl))
 f337:=Tryz.func210.trans (congrArg some (by kernel_rfl))
 f338:=Tryz.func211.trans (congrArg some (by kernel_rfl))
 t0:=Tryz.underlying0
 a0:=Tryz.isAgg0
 z0:=Tryz.sizeOf0
 v0:=Tryz.zeroValue0
 t2:=Tryz.underlying2
 a2:=Tryz.isAgg2
 z2:=Tryz.sizeOf2
 v2:=Tryz.zeroValue2
 t3:=Tryz.underlying3
 a3:=Tryz.isAgg3
 z3:=Tryz.sizeOf3
 v3:=Tryz.zeroValue3
 t4:=Tryz.underlying4
 a4:=Tryz.isAgg4
 z4:=Tryz.sizeOf4
 v4:=Tryz.zeroValue4
 t5:=Tryz.underlying5
 a5:=Tryz.isAgg5
 z5:=Tryz.sizeOf5
 v5:=Tryz.zeroValue5
 t9:=Tryz.underlying9
 a9:=Tryz.isAgg9
 z9:=Tryz.sizeOf9
 v9:=Tryz.zeroValue9
 t20:=Tryz.underlying20
 a20:=Tryz.isAgg20
 z20:=Tryz.sizeOf20
 v20:=Tryz.zeroValue20
 t21:=Tryz.underlying21
 a21:=Tryz.isAgg21
 z21:=Tryz.sizeOf21
 v21:=Tryz.zeroValue21
 t37:=Tryz.underlying33
 a37:=Tryz.isAgg33
 z37:=Tryz.sizeOf33
 v37:=Tryz.zeroValue33
 t46:=Tryz.underlying198
 a46:=Tryz.isAgg198
 z46:=Tryz.sizeOf198
 v46:=Tryz.zeroValue198
 t51:=Tryz.underlying201
 a51:=Tryz.isAgg201
 z51:=Tryz.sizeOf201
 v51:=Tryz.zeroValue201
 t53:=Tryz.underlying102
 a53:=Tryz.isAgg102
 z53:=Tryz.sizeOf102
 v53:=Tryz.zeroValue102
 t75:=Tryz.underlying68
 a75:=Tryz.isAgg68
 z75:=Tryz.sizeOf68
 v75:=Tryz.zeroValue68
 t85:=Tryz.underlying181
 a85:=Tryz.isAgg181
 z85:=Tryz.sizeOf181
 v85:=Tryz.zeroValue181
 t127:=Tryz.underlying222
 a127:=Tryz.isAgg222
 z127:=Tryz.sizeOf222
 v127:=Tryz.zeroValue222
 t143:=Tryz.underlying235
 a143:=Tryz.isAgg235
 z143:=Tryz.sizeOf235
 v143:=Tryz.zeroValue235
 t145:=Tryz.underlying237
 a145:=Tryz.isAgg237
 z145:=Tryz.sizeOf237
 v145:=Tryz.zeroValue237
 t167:=Tryz.underlying291
 a167:=Tryz.isAgg291
 z167:=Tryz.sizeOf291
 v167:=Tryz.zeroValue291
 t168:=Tryz.underlying294
 a168:=Tryz.isAgg294
 z168:=Tryz.sizeOf294
 v168:=Tryz.zeroValue294
 t171:=Tryz.underlying310
 a171:=Tryz.isAgg310
 z171:=Tryz.sizeOf310
 v171:=Tryz.zeroValue310
 t173:=Tryz.underlying313
 a173:=Tryz.isAgg313
 z173:=Tryz.sizeOf313
 v173:=Tryz.zeroValue313
 t175:=Tryz.underlying292
 a175:=Tryz.isAgg292
 z175:=Tryz.sizeOf292
 v175:=Tryz.zeroValue292
 t210:=Tryz.underlying306
 a210:=Tryz.isAgg306
 z210:=Tryz.sizeOf306
 v210:=Tryz.zeroValue306
 t212:=Tryz.underlying319
 a212:=Tryz.isAgg319
 z212:=Tryz.sizeOf319
 v212:=Tryz.zeroValue319
 t213:=Tryz.underlying320
 a213:=Tryz.isAgg320
 z213:=Tryz.sizeOf320
 t232:=Tryz.underlying340
 a232:=Tryz.isAgg340
 z232:=Tryz.sizeOf340
 v232:=Tryz.zeroValue340
 t233:=Tryz.underlying341
 a233:=Tryz.isAgg341
 z233:=Tryz.sizeOf341
 v233:=Tryz.zeroValue341
 g15:=by kernel_rfl
 g16:=by kernel_rfl
 g17:=by kernel_rfl
 g18:=by kernel_rfl
 g19:=by kernel_rfl
 t80:=Tryz.underlying141
 a80:=Tryz.isAgg141
 z80:=Tryz.sizeOf141
 v80:=Tryz.zeroValue141
 i0:=by kernel_rfl
 i2:=by kernel_rfl
 i3:=by kernel_rfl
 i4:=by kernel_rfl
 i5:=by kernel_rfl
 i9:=by kernel_rfl
 i20:=by kernel_rfl
 i21:=by kernel_rfl
 i37:=by kernel_rfl
 i46:=by kernel_rfl
 i51:=by kernel_rfl
 i53:=by kernel_rfl
 i75:=by kernel_rfl
 i80:=by kernel_rfl
 i85:=by kernel_rfl
 i127:=by kernel_rfl
 i143:=by kernel_rfl
 i145:=by kernel_rfl
 i167:=by kernel_rfl
 i168:=by kernel_rfl
 i171:=by kernel_rfl
 i173:=by kernel_rfl
 i175:=by kernel_rfl
 i210:=by kernel_rfl
 i212:=by kernel_rfl
 i232:=by kernel_rfl
 i233:=by kernel_rfl
 m15:=by kernel_rfl
 m16:=by kernel_rfl
 m17:=by kernel_rfl
 m18:=by kernel_rfl
 m19:=by kernel_rfl
 c0:=by kernel_rfl
 c2:=by kernel_rfl
 c3:=by kernel_rfl
 c4:=by kernel_rfl
 c5:=by kernel_rfl
 c9:=by kernel_rfl
 c20:=by kernel_rfl
 c21:=by kernel_rfl
 c37:=by kernel_rfl
 c46:=by kernel_rfl
 c51:=by kernel_rfl
 c53:=by kernel_rfl
 c75:=by kernel_rfl
 c80:=by kernel_rfl
 c85:=by kernel_rfl
 c127:=by kernel_rfl
 c143:=by kernel_rfl
 c145:=by kernel_rfl
 c167:=by kernel_rfl
 c168:=by kernel_rfl
 c171:=by kernel_rfl
 c173:=by kernel_rfl
 c175:=by kernel_rfl
 c210:=by kernel_rfl
 c212:=by kernel_rfl
 c213:=by kernel_rfl
 c232:=by kernel_rfl
 c233:=by kernel_rfl }
open Go.RowKit in
theorem Tryz.strconv_ParseInt_10_at64_ok(s:ByteArray)(hmax:s.size<=9223372036854775806)(v:Int)(h:Lib.parseIntB 64 s.data.toList=.ok v)(w:World) :
  Calls Tryz.prog 135 #[.string s,.int .i64 10,.int .i64 64] w fun e w'=>e=.returned (.tuple #[.int .i64 v,.nilIface])/\(w'=w\/∃t,w'=Lib.bytesWorld w 5 t):=Any.strconv_ParseInt_10_at64_ok Tryz.laysC174 s hmax v h w
open Go.RowKit in
theorem Tryz.strconv_ParseInt_10_at64_syntax(s:ByteArray)(hlim:s.size<=281474976710656)(h1:∀v,Lib.parseIntB 64 s.data.toList ≠ .ok v)(h2:Lib.parseIntB 64 s.data.toList ≠ .range)(ev:Value)(w:World)(hv:w.cell? ⟨9,0,none⟩=some ev)(hev:ev=.nilIface\/∃te pe,ev=.iface te pe) :
  Calls Tryz.prog 135 #[.string s,.int .i64 10,.int .i64 64] w fun e w'=>∃N,e=.returned (.tuple #[.int .i64 (0),.iface 294 (.pointer (some ⟨N,0,none⟩))])/\w.heap.size<=N/\w'.heap[N]?=some (.cells #[.string ⟨#[80,97,114,115,101,73,110,116]⟩,.string s,ev] 306 (0,0))/\Below w.heap.size w w':=by
 cases h:Lib.parseIntB 64 s.data.toList with
 |ok v=>exact absurd h (h1 v)
 |range=>exact absurd h h2
 |_=>exact Any.strconv_ParseInt_10_at64_syntax Tryz.laysC174 s hlim h ev w hv hev
open Go.RowKit in
theorem Tryz.strconv_ParseInt_10_at64_range(s:ByteArray)(hlim:s.size<=281474976710656)(h:Lib.parseIntB 64 s.data.toList=.range)(ev:Value)(w:World)(hv:w.cell? ⟨10,0,none⟩=some ev)(hev:ev=.nilIface\/∃te pe,ev=.iface te pe) :
  Calls Tryz.prog 135 #[.string s,.int .i64 10,.int .i64 64] w fun e w'=>∃N,e=.returned (.tuple #[.int .i64 (Lib.intSat 64 s.data.toList),.iface 294 (.pointer (some ⟨N,0,none⟩))])/\w.heap.size<=N/\w'.heap[N]?=some (.cells #[.string ⟨#[80,97,114,115,101,73,110,116]⟩,.string s,ev] 306 (0,0))/\Below w.heap.size w w':=Any.strconv_ParseInt_10_at64_range Tryz.laysC174 s hlim h ev w hv hev
def Tryz.lays100_ren : Go.Shelf.Ren:=⟨fun|100=>99|207=>134|n=>n,fun|9=>9|4=>4|3=>3|n=>n,fun|n=>n⟩
theorem Tryz.lays100 : Go.Proofs.Lays.n100 Tryz.prog Tryz.lays100_ren:={
 mixed:=by kernel_rfl
 f100:=Tryz.func99.trans (congrArg some (by kernel_rfl))
 f207:=Tryz.func134.trans (congrArg some (by kernel_rfl))
 t3:=Tryz.underlying3
 a3:=Tryz.isAgg3
 z3:=Tryz.sizeOf3
 v3:=Tryz.zeroValue3
 t4:=Tryz.underlying4
 a4:=Tryz.isAgg4
 z4:=Tryz.sizeOf4
 v4:=Tryz.zeroValue4
 t9:=Tryz.underlying9
 a9:=Tryz.isAgg9
 z9:=Tryz.sizeOf9
 v9:=Tryz.zeroValue9 }
open Go.RowKit Go.Lib in
theorem Tryz.strings_HasSuffix(s p:ByteArray)(w:World)(hs:s.size<=9223372036854775807) :
  Calls Tryz.prog 99 #[.string s,.string p] w fun e w'=>e=.returned (.bool (Lib.hasSuffix s.data.toList p.data.toList))/\w'=w:=Any.strings_HasSuffix Tryz.lays100 s p w hs
def Tryz.lays229_ren : Go.Shelf.Ren:=⟨fun|229=>268|n=>n,fun|9=>9|40=>239|31=>34|152=>369|3=>3|0=>0|4=>4|21=>21|154=>371|n=>n,fun|n=>n⟩
theorem Tryz.lays229 : Go.Proofs.Lays.n229 Tryz.prog Tryz.lays229_ren:={
 mixed:=by kernel_rfl
 f229:=Tryz.func268.trans (congrArg some (by kernel_rfl))
 t0:=Tryz.underlying0
 a0:=Tryz.isAgg0
 z0:=Tryz.sizeOf0
 v0:=Tryz.zeroValue0
 t3:=Tryz.underlying3
 a3:=Tryz.isAgg3
 z3:=Tryz.sizeOf3
 v3:=Tryz.zeroValue3
 t4:=Tryz.underlying4
 a4:=Tryz.isAgg4
 z4:=Tryz.sizeOf4
 v4:=Tryz.zeroValue4
 t9:=Tryz.underlying9
 a9:=Tryz.isAgg9
 z9:=Tryz.sizeOf9
 v9:=Tryz.zeroValue9
 t21:=Tryz.underlying21
 a21:=Tryz.isAgg21
 z21:=Tryz.sizeOf21
 v21:=Tryz.zeroValue21
 t31:=Tryz.underlying34
 a31:=Tryz.isAgg34
 z31:=Tryz.sizeOf34
 v31:=Tryz.zeroValue34
 t40:=Tryz.underlying239
 a40:=Tryz.isAgg239
 z40:=Tryz.sizeOf239
 v40:=Tryz.zeroValue239
 t152:=Tryz.underlying369
 a152:=Tryz.isAgg369
 z152:=Tryz.sizeOf369
 v152:=Tryz.zeroValue369
 t154:=Tryz.underlying371
 a154:=Tryz.isAgg371
 z154:=Tryz.sizeOf371
 v154:=Tryz.zeroValue371 }
open Go.RowKit Go.Lib in
theorem Tryz.strings_FieldsFunc_runes(g:Nat)(lb:Array Value)(eg:∀args w,(callFunc g args).run Tryz.prog w=.ok (.enter g args) w)(p:Nat->Bool)(s:ByteArray)(w:World)(hs:s.size<=4294967296)(hp:PredAtRunes Tryz.prog g lb p w) :
  Calls Tryz.prog 268 #[.string s,.func (.func g) #[] lb] w fun e w'=>∃A,e=.returned (.slice (some ⟨A,0,none⟩) (Lib.goFieldsP p s).length (Lib.goFieldsP p s).length)/\w.heap.size<=A /\
   w'.ownsRow w.heap.size 9 1 (.slice (some ⟨A,0,none⟩) (Lib.goFieldsP p s).length (Lib.goFieldsP p s).length) (Lib.goFieldsP p s).length ((Lib.goFieldsP p s).map Value.string)/\Below w.heap.size w w':=Any.strings_FieldsFunc_runes Tryz.lays229 g lb eg p s w hs hp (by kernel_rfl) (by kernel_rfl)
def Tryz.lays187_ren : Go.Shelf.Ren:=⟨fun|187=>156|255=>171|n=>n,fun|37=>33|5=>5|3=>3|n=>n,fun|n=>n⟩
theorem Tryz.lays187 : Go.Proofs.Lays.n187 Tryz.prog Tryz.lays187_ren:={
 mixed:=by kernel_rfl
 f187:=Tryz.func156.trans (congrArg some (by kernel_rfl))
 f255:=Tryz.func171.trans (congrArg some (by kernel_rfl))
 t3:=Tryz.underlying3
 a3:=Tryz.isAgg3
 z3:=Tryz.sizeOf3
 v3:=Tryz.zeroValue3
 t5:=Tryz.underlying5
 a5:=Tryz.isAgg5
 z5:=Tryz.sizeOf5
 v5:=Tryz.zeroValue5
 t37:=Tryz.underlying33
 a37:=Tryz.isAgg33
 z37:=Tryz.sizeOf33
 v37:=Tryz.zeroValue33 }
open Go.RowKit Go.Lib in
theorem Tryz.bytes_IndexByte_at(a:Addr)(n c:Nat)(xs:List Int)(cv:Int)(w:World)(hx:xs.length=n)(hc:∀i,i < n->w.cell? (a.add i)=some (.int .u8 (xs.getD i 0))) :
  Calls Tryz.prog 156 #[.slice (some a) n c,.int .u8 cv] w fun e w'=>e=.returned (.int .i64 (Lib.indexByte (Lib.bytesOf xs) cv.toNat.toUInt8))/\w'=w:=Any.bytes_IndexByte_at Tryz.lays187 a n c xs cv w hx hc
end Go.Proofs
namespace Go.Proofs.YtnkihlpmmfeioaaGreatDoor
open Go.RowKit
theorem emptied_pass(m:List UInt8):emptied m=takeBl m++emptied (trimL m):=by
 induction m with
 |nil=>rfl
 |cons c l ih =>
  rw[takeBl,trimL];split
  ·rename_i h
   rw[emptied_other c l (by rw[blank_iff]at h;omega),ih];rfl
  rfl
theorem emptied_b0(c:UInt8)(m m2:List UInt8)(e:UInt8)(h:(c.toNat:Int)=98)(he:trimL m=e::m2)(h1:(e.toNat:Int)=61)(h2:skipSc m2=m2):emptied (c::m)=c::emptied m:=by
 rw[emptied_b c m m2 e h he h1,h2,emptied_pass m,he,emptied_other e m2 (by omega)]
theorem c113(s:ByteArray)(w:World)(hs:s.size<=1073741824)(hp:plainL s.data.toList) :
  Calls Tryz.prog 113 #[.string s] w fun e w'=>e=.returned (.string (B (emptied s.data.toList)))/\Below w.heap.size w w':=by
 obtain⟨R,hR⟩:∃R,Hid (emptied s.data.toList=R):=⟨_,rfl⟩;rw[hR.out];have hpl:Hid (∀(j:Nat) (h:j < s.size),¬(s[j].toNat:Int)=12):=fun j h=>by
  have:=(hp s[j] (Array.getElem_mem_toList h)).2.2;omega
 clear hp;go_enter Tryz.func113,Tryz.ntmps113;go_wp2;go_loopg [3,4] s.size (fun g v i w'=>∃k:Nat,∃out:List UInt8,Hid (k+g=s.size)/\k<=s.size/\i=.int .i64 (k:Int)/\Hid (out++emptied (s.data.toList.drop k)=R)/\Hid (out.length<=k)/\Hid (OwnB w' w.heap.size v out)/\Hid (Below w.heap.size w w'))
 case atStart=>exact⟨0,[],Nat.zero_add _,Nat.zero_le _,rfl,hR,zR _,OwnB.nil _ _,zB _ _⟩
 clear hR;obtain⟨k,out,hk,hks,rfl,hq,hol,ho,hb⟩:=hrel;by_cases hlt:k < s.size
 ·have hq2:=hq.out
  rw[drop_at s k hlt]at hq2;clear hq;by_cases h98:(s[k].toNat:Int)=98
  ·have hbe:((s[k].toNat:Int) == 98)=true:=zE h98
   have H98:=zH h98;have HQ:=zH hq2;clear h98 hq2;obtain⟨wo,hwo⟩:∃wo:World,wo=wr:=⟨_,rfl⟩;rw[<-hwo]at ho hb ⊢;clear hwo;go_wp2;go_loopg [5] (s.size - (k+1)) (fun g v w'=>∃j:Nat,Hid (j+g=s.size)/\v=.int .i64 (j:Int)/\k+1<=j/\Hid (trimL (s.data.toList.drop j)=trimL (s.data.toList.drop (k+1))/\(s.data.toList.drop (k+1)).take (j - (k+1))++takeBl (s.data.toList.drop j)=takeBl (s.data.toList.drop (k+1)))/\w'=wo)
   case atStart=>exact⟨k+1,by unfold Hid;omega,by go_num,zR _,⟨rfl,by simp⟩,rfl⟩
   obtain⟨j,hj,rfl,hkj,hq,rfl⟩:=hrel;have hj':j<=s.size:=by have:=hj.out;omega
   by_cases hjl:j < s.size
   ·have hq1:=hq.out
    rw[drop_at s j hjl]at hq1;cases hbl:blank s[j]with
    |true =>
     have HN:Hid (trimL (s.data.toList.drop (j+1))=trimL (s.data.toList.drop (k+1))/\(s.data.toList.drop (k+1)).take (j+1 - (k+1))++takeBl (s.data.toList.drop (j+1))=takeBl (s.data.toList.drop (k+1))):=by
      refine⟨?_,?_⟩
      ·have:=hq1.1;rw[trimL,if_pos hbl]at this;exact this
      have:=hq1.2;rw[takeBl,if_pos hbl]at this;rw[<-this,show j+1 - (k+1)=j - (k+1)+1 from by omega,List.take_succ_eq_append_getElem (by simp[size_L];omega),List.append_assoc,List.getElem_drop];simp only[List.singleton_append,show k+1+(j - (k+1))=j from by omega];rfl
     clear hq1;rw[blank_iff]at hbl;rcases hbl with hc|hc|hc|hc
     ·have e32:((s[j].toNat:Int) == 32)=true:=zE hc
      clear hc hq;go_wp2;go_roundg (gk - 1)
      case measure=>have:=hj.out;omega
      case rel=>exact⟨j+1,by have:=hj.out;unfold Hid;omega,by go_num,by omega,HN.out,rfl⟩
     ·have e32:((s[j].toNat:Int) == 32)=false:=zF (by omega)
      have e9:((s[j].toNat:Int) == 9)=true:=zE hc;clear hc hq;go_wp2;go_roundg (gk - 1)
      case measure=>have:=hj.out;omega
      case rel=>exact⟨j+1,by have:=hj.out;unfold Hid;omega,by go_num,by omega,HN.out,rfl⟩
     ·have e32:((s[j].toNat:Int) == 32)=false:=zF (by omega)
      have e9:((s[j].toNat:Int) == 9)=false:=zF (by omega);have e10:((s[j].toNat:Int) == 10)=false:=zF (by omega);have e12:((s[j].toNat:Int) == 12)=false:=zF (by omega);have e13:((s[j].toNat:Int) == 13)=true:=zE hc;clear hc hq;go_wp2;go_roundg (gk - 1)
      case measure=>have:=hj.out;omega
      case rel=>exact⟨j+1,by have:=hj.out;unfold Hid;omega,by go_num,by omega,HN.out,rfl⟩
     have e32:((s[j].toNat:Int) == 32)=false:=zF (by omega);have e9:((s[j].toNat:Int) == 9)=false:=zF (by omega);have e10:((s[j].toNat:Int) == 10)=true:=zE hc;clear hc hq;go_wp2;go_roundg (gk - 1)
     case measure=>have:=hj.out;omega
     case rel=>exact⟨j+1,by have:=hj.out;unfold Hid;omega,by go_num,by omega,HN.out,rfl⟩
    |false =>
     have h12:=hpl.out j hjl;have hnb:¬blank s[j]=true:=by rw[hbl];decide
     have hnb2:=hnb;rw[blank_iff]at hnb2;have e32:((s[j].toNat:Int) == 32)=false:=zF (by omega);have e9:((s[j].toNat:Int) == 9)=false:=zF (by omega);have e10:((s[j].toNat:Int) == 10)=false:=zF (by omega);have e12:((s[j].toNat:Int) == 12)=false:=zF (by omega);have e13:((s[j].toNat:Int) == 13)=false:=zF (by omega);have hqa:=hq1.1;have hqb:=hq1.2;rw[trimL,if_neg hnb]at hqa;rw[takeBl,if_neg hnb,List.append_nil]at hqb;have Hqa:=zH (And.intro hqa hqb);clear hq1 hq hqa hqb hnb hnb2 h12 hbl;by_cases h61:(s[j].toNat:Int)=61
     ·have H61:=zH h61
      have h61e:((s[j].toNat:Int) == 61)=true:=zE h61;clear h61;go_wp2;go_loopg [6] (s.size - (j+1)) (fun g v w'=>∃i:Nat,Hid (i+g=s.size)/\v=.int .i64 (i:Int)/\j+1<=i/\Hid (skipSc (s.data.toList.drop i)=skipSc (s.data.toList.drop (j+1)))/\w'=wr)
      case atStart=>exact⟨j+1,by unfold Hid;omega,by go_num,zR _,rfl,rfl⟩
      obtain⟨i,hi,rfl,hji,hq3,rfl⟩:=hrel;have hi':i<=s.size:=by have:=hi.out;omega
      have hex:(s.extract k (j+1)).data.toList=s[k]::((s.data.toList.drop (k+1)).take (j - (k+1))++[s[j]]):=by
       rw[L_extract,drop_at s k hlt,show j+1 - k=(j - (k+1)+1)+1 from by omega,List.take_succ_cons,List.take_succ_eq_append_getElem (by simp[size_L];omega),List.getElem_drop];simp only[show k+1+(j - (k+1))=j from by omega];rfl
      have Hex:=zH hex;clear hex;by_cases hgo:i < s.size/\¬(∃h:i < s.size,(s[i].toNat:Int)=59)
      ·obtain⟨hil,hne⟩:=hgo
       have h59:¬(s[i].toNat:Int)=59:=fun q=>hne ⟨hil,q⟩
       have hq4:=hq3.out;rw[drop_at s i hil,skipSc,if_neg h59]at hq4;have H4:=zH hq4;have h59n:((s[i].toNat:Int) != 59)=true:=zN h59;clear hq3 hq4 hne h59;go_wp2;go_roundg (gk - 1)
       case measure=>have:=hi.out;omega
       case rel=>exact⟨i+1,by have:=hi.out;unfold Hid;omega,by go_num,by omega,H4.out,rfl⟩
      have hst:skipSc (s.data.toList.drop i)=s.data.toList.drop i:=by
       by_cases hil:i < s.size
       ·have h59:(s[i].toNat:Int)=59:=Classical.byContradiction fun q=>hgo ⟨hil,fun⟨_,q2⟩=>q q2⟩
        rw[drop_at s i hil,skipSc,if_pos h59]
       rw[drop_end s i hil];rfl
      have hq4:=hq3.out;rw[hst]at hq4;have H4:=zH hq4;clear hq3 hq4 hst;by_cases hij:i=j+1
      ·subst hij
       have HP:Hid (out++s[k]::emptied (s.data.toList.drop (k+1))=R):=by
        have:=HQ.out;rw[emptied_b0 s[k] _ _ s[j] H98.out Hqa.out.1.symm H61.out H4.out.symm]at this;exact this
       clear HQ Hqa Hex H4;by_cases hil:j+1 < s.size
       ·have h59:(s[j+1].toNat:Int)=59:=Classical.byContradiction fun q=>hgo ⟨hil,fun⟨_,q2⟩=>q q2⟩
        have h59n:((s[j+1].toNat:Int) != 59)=false:=zQ h59;clear h59 hgo;go_wp2_with (at_builtin;refine wp_appb rfl (.tmp 89) (.tmp 93) rfl s[k] rfl rfl ho.out (by have:=hol.out;omega) hb.out.size ?_;intro v2 w2 hO2 hg2 hb2 hl2;have hb3:=hb2 w hb.out);go_roundg (s.size - (k+1))
        case measure=>have:=hk.out;omega
        case rel=>exact⟨k+1,out++[s[k]],by unfold Hid;omega,by omega,by go_num,by have:=HP.out;unfold Hid;rw[<-this,List.append_assoc];rfl,by have:=hol.out;unfold Hid;simp;omega,hO2,hb3⟩
       clear hgo;go_wp2_with (at_builtin;refine wp_appb rfl (.tmp 89) (.tmp 93) rfl s[k] rfl rfl ho.out (by have:=hol.out;omega) hb.out.size ?_;intro v2 w2 hO2 hg2 hb2 hl2;have hb3:=hb2 w hb.out);go_roundg (s.size - (k+1))
       case measure=>have:=hk.out;omega
       case rel=>exact⟨k+1,out++[s[k]],by unfold Hid;omega,by omega,by go_num,by have:=HP.out;unfold Hid;rw[<-this,List.append_assoc];rfl,by have:=hol.out;unfold Hid;simp;omega,hO2,hb3⟩
      have HP:Hid ((out++(s.extract k (j+1)).data.toList)++emptied (s.data.toList.drop i)=R):=by
       have:=HQ.out;rw[emptied_b s[k] _ _ s[j] H98.out Hqa.out.1.symm H61.out]at this;unfold Hid;rw[<-this,Hex.out,Hqa.out.2,<-H4.out];simp
      have hel:Hid ((s.extract k (j+1)).data.toList.length=j+1 - k):=by unfold Hid;rw[size_L];simp;omega
      have hij1:(j:Int)+1 < (i:Int):=by omega
      clear HQ Hqa Hex H4;by_cases hil:i < s.size
      ·have h59:(s[i].toNat:Int)=59:=Classical.byContradiction fun q=>hgo ⟨hil,fun⟨_,q2⟩=>q q2⟩
       have h59n:((s[i].toNat:Int) != 59)=false:=zQ h59;clear h59 hgo;go_wp2_with (at_builtin;refine wp_appB rfl (.tmp 81) (.tmp 86) rfl rfl rfl ho.out (Src.text _ (s.extract k (j+1))) (by rw[hel.out];have:=hol.out;omega) hb.out.size ?_;intro v2 w2 hO2 hg2 hb2 hl2;have hb3:=hb2 w hb.out);go_roundg (s.size - i)
       case measure=>have:=hk.out;omega
       case rel=>exact⟨i,out++(s.extract k (j+1)).data.toList,by unfold Hid;omega,by omega,rfl,HP.out,by have:=hol.out;have:=hel.out;unfold Hid;rw[zA,hel.out];omega,hO2,hb3⟩
      clear hgo;go_wp2_with (at_builtin;refine wp_appB rfl (.tmp 81) (.tmp 86) rfl rfl rfl ho.out (Src.text _ (s.extract k (j+1))) (by rw[hel.out];have:=hol.out;omega) hb.out.size ?_;intro v2 w2 hO2 hg2 hb2 hl2;have hb3:=hb2 w hb.out);go_roundg (s.size - i)
      case measure=>have:=hk.out;omega
      case rel=>exact⟨i,out++(s.extract k (j+1)).data.toList,by unfold Hid;omega,by omega,rfl,HP.out,by have:=hol.out;have:=hel.out;unfold Hid;rw[zA,hel.out];omega,hO2,hb3⟩
     have HP:Hid (out++s[k]::emptied (s.data.toList.drop (k+1))=R):=by
      have:=HQ.out;rw[emptied_b1 s[k] _ _ s[j] Hqa.out.1.symm h61]at this;exact this
     have h61e:((s[j].toNat:Int) == 61)=false:=zF h61;clear h61 HQ Hqa;go_wp2_with (at_builtin;refine wp_appb rfl (.tmp 89) (.tmp 93) rfl s[k] rfl rfl ho.out (by have:=hol.out;omega) hb.out.size ?_;intro v2 w2 hO2 hg2 hb2 hl2;have hb3:=hb2 w hb.out);go_roundg (s.size - (k+1))
     case measure=>have:=hk.out;omega
     case rel=>exact⟨k+1,out++[s[k]],by unfold Hid;omega,by omega,by go_num,by have:=HP.out;unfold Hid;rw[<-this,List.append_assoc];rfl,by have:=hol.out;unfold Hid;simp;omega,hO2,hb3⟩
   have hq1:=hq.out.1;rw[drop_end s j hjl]at hq1;have HP:Hid (out++s[k]::emptied (s.data.toList.drop (k+1))=R):=by
    have:=HQ.out;rw[emptied_b2 s[k] _ hq1.symm]at this;exact this
   clear hq1 hq HQ;go_wp2_with (at_builtin;refine wp_appb rfl (.tmp 89) (.tmp 93) rfl s[k] rfl rfl ho.out (by have:=hol.out;omega) hb.out.size ?_;intro v2 w2 hO2 hg2 hb2 hl2;have hb3:=hb2 w hb.out);go_roundg (s.size - (k+1))
   case measure=>have:=hk.out;omega
   case rel=>exact⟨k+1,out++[s[k]],by unfold Hid;omega,by omega,by go_num,by have:=HP.out;unfold Hid;rw[<-this,List.append_assoc];rfl,by have:=hol.out;unfold Hid;simp;omega,hO2,hb3⟩
  rw[emptied_other _ _ h98]at hq2;have HP:=zH hq2;have hbe:((s[k].toNat:Int) == 98)=false:=zF h98;clear hq2 h98;go_wp2_with (at_builtin;refine wp_appb rfl (.tmp 89) (.tmp 93) rfl s[k] rfl rfl ho.out (by have:=hol.out;omega) hb.out.size ?_;intro v2 w2 hO2 hg2 hb2 hl2;have hb3:=hb2 w hb.out);go_roundg (s.size - (k+1))
  case measure=>have:=hk.out;omega
  case rel=>exact⟨k+1,out++[s[k]],by unfold Hid;omega,by omega,by go_num,by have:=HP.out;unfold Hid;rw[<-this,List.append_assoc];rfl,by have:=hol.out;unfold Hid;simp;omega,hO2,hb3⟩
 have hq2:=hq.out;rw[drop_end s k hlt,emptied_nil,List.append_nil]at hq2;subst hq2;have hcv:=ho.out.str;go_wp2;go_ret
 exact⟨rfl,hb.out⟩
end Go.Proofs.YtnkihlpmmfeioaaGreatDoor
