/- Part of the proof that laws.FnDVerifies answers true: A87,A24 -/
import Derived.Test.YtnkihlpmmfeioaaGreatDoorZ28
set_option linter.unusedVariables false
set_option linter.unusedSimpArgs false
set_option maxRecDepth 1000000
set_option maxHeartbeats 16000000
namespace Go.Proofs.YtnkihlpmmfeioaaGreatDoor
open Go.RowKit
def OptS(w:World)(v:Value):Option (List (List UInt8))->Prop
 |none=>v=.slice none 0 0
 |some xs=>xs≠[]/\RdS w v xs
structure VK(W:World)(gq mp nM:Nat)(hv xv kv hs sv fv:Value)(nt:ByteArray)(fields:List (List UInt8))(T:List Pair)(K:Key):Prop where
 row:RdS W hv fields
 keys:RdS W xv (keysOf T)
 res:Blk W gq #[.iface 82 (.agg #[.string (B K.kind),kv]),.string (B K.kind),hs,.string nt,sv,fv] 170
 key:RdB W kv K.bytes
 hash:OptS W hs K.hashes
 serv:OptS W sv K.services
 map:OwnM W mp nM T
 kr:KRow W
structure VJ(W:World)(mp nM:Nat)(hv xv:Value)(fields:List (List UInt8))(T:List Pair):Prop where
 row:RdS W hv fields
 keys:RdS W xv (keysOf T)
 map:OwnM W mp nM T
 kr:KRow W
structure VQ(wo:World)(Z:Nat->Prop)(g0 tyr mp nM cH cK:Nat)(AH AK:Option Addr)(pr:Value)(body field:List UInt8)(T:List Pair)(fields:List (List UInt8)):Prop where
 keepJ:∀W,Gr (fun k=>Z k\/wo.heap.size<=k) wo W->VJ W mp nM (.slice AH fields.length cH) (.slice AK (keysOf T).length cK) fields T
 rdr:RdrAt wo Z g0 tyr pr body
 g0le:g0<=wo.heap.size
 vals:∀t,(valOf t T).length<=268435456/\plainL (valOf t T)
 zlt:∀k,Z k->k < g0
 ah:∀a,AH=some a->a.block < wo.heap.size
 ak:∀a,AK=some a->a.block < wo.heap.size
 all:∀form,((pickedN fields [] (keysOf T)).flatMap (fldW form)).length<=500000000
 kn:(keysOf T).length<=100000000
 fn:fields.length<=1073741824
 fl1:allLe 268435456 fields
 fp1:∀f∈fields,plainL f
 kl1:allLe 268435456 (keysOf T)
 kp:∀k∈keysOf T,plainL k
 six:6 < wo.heap.size
 bl:body.length<=20000000
 fp:plainL field
 fl:field.length<=100000000
structure VC(wo:World)(Z:Nat->Prop)(g0 tyr gq mp nM cH cK:Nat)(AH AK:Option Addr)(pr kv hs sv fv:Value)(nt:ByteArray)(body field:List UInt8)(T:List Pair)(K:Key)(fields:List (List UInt8)):Prop extends VQ wo Z g0 tyr mp nM cH cK AH AK pr body field T fields where
 keep:∀W,Gr (fun k=>Z k\/wo.heap.size<=k) wo W->VK W gq mp nM (.slice AH fields.length cH) (.slice AK (keysOf T).length cK) kv hs sv fv nt fields T K
 gql:gq < wo.heap.size
 kl:K.bytes.length<=536870912
def judgeF(fields:List (List UInt8))(body field:List UInt8)(T:List Pair)(K:Key):Int :=
 if(known (formA (valOf [99] T)) && known (formB (valOf [99] T)))=false then 2
 else if hasTag [108] T=true then 1
 else judgeH fields body field T K
theorem judgeH_eq(tw:Nat)(fields:List (List UInt8))(body field:List UInt8)(T:List Pair)(K:Key)(h:(tw=360/\formB (valOf [99] T)=simpleL)\/(tw=365/\formB (valOf [99] T)=relaxedL)) :
  judgeH fields body field T K=(match unb64 (strip (valOf [98,104] T)),unb64 (strip (valOf [98] T))with
    |some want,some sg=>if want=sha (bodyTy tw body)then(if sg=sha (K.bytes++sha ((pickedN fields [] (keysOf T)).flatMap (fldW (formA (valOf [99] T)))++without (fieldOf (formA (valOf [99] T)) (emptied field))))then 0 else 1)else 1
    |_,_=>2):=by
 have hb:bodyOf (formB (valOf [99] T)) body=bodyTy tw body:=by
  unfold bodyOf bodyTy;rcases h with⟨rfl,h⟩|⟨rfl,h⟩
  ·rw[if_pos h,if_pos rfl]
  rw[h,if_neg (by decide),if_neg (by decide)]
 unfold judgeH;rw[hb];rfl
theorem known_or{l:List UInt8}(h:known l=true):l=simpleL\/l=relaxedL:=by
 unfold known at h;rcases Bool.or_eq_true _ _ |>.mp h with h|h
 ·exact .inl (eq_of_beq h)
 exact .inr (eq_of_beq h)
theorem VC.kept5{wo w:World}{Z:Nat->Prop}{g0 tyr gq mp nM cH cK:Nat}{AH AK:Option Addr}{pr kv hs sv fv:Value}{nt:ByteArray}{body field:List UInt8}{T:List Pair}{K:Key}{fields:List (List UInt8)}(h:VC wo Z g0 tyr gq mp nM cH cK AH AK pr kv hs sv fv nt body field T K fields)(hb:Below wo.heap.size wo w) :
  ∀W,Gr (fun k=>Z k\/w.heap.size<=k) w W->Kept5 W gq (.slice AH fields.length cH) (.slice AK (keysOf T).length cK) kv (B K.kind) K.bytes fields (keysOf T):=fun W hG=>by
 have hs:=hb.size;have hK:=h.keep W ((Gr.of_below hb).trans (hG.mono fun k _ q=>q.imp id (fun h=>by omega)));exact⟨hK.row,hK.keys,(hK.res.cell 0).trans rfl,hK.key,hK.kr⟩
theorem VC.gr{wo w w':World}{Z:Nat->Prop}(hb:Below wo.heap.size wo w)(hG:Gr (fun k=>Z k\/w.heap.size<=k) w w'):Gr (fun k=>Z k\/wo.heap.size<=k) wo w':=by
 have hs:=hb.size;exact(Gr.of_below hb).trans (hG.mono fun k _ q=>q.imp id (fun h=>by omega))
theorem c90k(l:List UInt8)(w:World)(h:known l=true):Calls Tryz.prog 90 #[.string (B l)] w fun e w'=>∃ty tw p,e=.returned (.tuple #[.iface ty p,.bool true])/\((ty=224/\tw=360/\l=simpleL)\/(ty=227/\tw=365/\l=relaxedL))/\Below w.heap.size w w':=by
 rcases known_or h with h|h
 ·refine(c90s l w h).mono ?_
  rintro e w'⟨rfl,rfl⟩;exact⟨224,360,_,rfl,.inl ⟨rfl,rfl,h⟩,(zB _ _).alloc (zR _) _⟩
 refine(c90r l w h).mono ?_;rintro e w'⟨rfl,rfl⟩;exact⟨227,365,_,rfl,.inr ⟨rfl,rfl,h⟩,(zB _ _).alloc (zR _) _⟩
theorem b64_26_31(ct:Code)(h:ct=tlS B64 31):tlS B64 26=joinS 5 (tlS B64 26) ct:=by subst h;kernel_rfl
theorem t26(F:Nat->Value)(ct:Code)(hct:ct=tlS B64 26)(R:Ending->World->Prop)(wo w:World){Z:Nat->Prop}{g0 tyr gq mp nM cH cK:Nat}{AH AK:Option Addr}{pr kv hs sv fv:Value}{nt:ByteArray}{body field:List UInt8}{T:List Pair}{K:Key}{fields:List (List UInt8)}(hV:Hid (VC wo Z g0 tyr gq mp nM cH cK AH AK pr kv hs sv fv nt body field T K fields))(hb:Below wo.heap.size wo w)(h0:F 0=.slice AH fields.length cH)(h1:F 1=.iface tyr pr)(h2:F 2=.string (B field))(h13:F 13=.map (some mp))(h21:F 21=.slice AK (keysOf T).length cK)(h36:F 36=.pointer (some ⟨gq,0,none⟩)) 
  (hR:∀(err:Value) (w':World),ErrIs err (judgeF fields body field T K)->Gr (fun k=>Z k\/wo.heap.size<=k) wo w'->R (.returned (.tuple #[F 12,err])) w') :
  Code.wp Tryz.prog ct (bodyPost Tryz.prog Tryz.f64 R) ⟨frS 506 F,[]⟩ w:=by
 obtain⟨ct2,hct2⟩:∃ct2,Hid (ct2=tlS B64 31):=⟨_,rfl⟩;subst hct;rw[b64_26_31 ct2 hct2.out];conv=>arg 2;whnf
 simp only[joinS];rw[fr506,h0,h1,h2,h13,h21,h36];have HR:=zH hR;have hM:=(hV.out.keep w (Gr.of_below hb)).map;have hk99:(Instr.lookup 155 (.map (some mp)) (.string ⟨#[99]⟩) false).run Tryz.prog w=.ok (.string (B (valOf [99] T))) w:=hM.look ⟨#[99]⟩ (by decide);unfold judgeF at HR;obtain⟨fa,hfa⟩:∃fa,Hid (formA (valOf [99] T)=fa):=⟨_,rfl⟩;obtain⟨fb,hfb⟩:∃fb,Hid (formB (valOf [99] T)=fb):=⟨_,rfl⟩;rw[hfa.out,hfb.out]at HR;clear hR hM;cases hka:known fa with
 |false =>
  rw[hka,Bool.false_and,if_pos rfl]at HR;have hkfa:=zH hka;clear hka;go_wp2_with (first
   |(go_at_call 103;refine(c103 (B (valOf [99] T)) _ (by rw[size_B];have:=(hV.out.vals [99]).1;omega) (by rw[L_B];exact(hV.out.vals _).2)).mono ?_;rintro e w1⟨rfl,hb1⟩;rw[L_B,hfa.out,hfb.out];have hc1:=hb.trans (hb1.mono hb.size))
   |(go_at_call_of 90 (Value.string (B fa));refine(c90n fa _ hkfa.out).mono ?_;rintro e w2⟨rfl,rfl⟩))
  exact HR.out _ _ (.inr (.inl ⟨_,rfl,rfl⟩)) (Gr.of_below hc1)
 |true =>
  have hkfa:=zH hka;cases hkb:known fb with
  |false =>
   rw[hka,hkb,Bool.true_and,if_pos rfl]at HR;have hkfb:=zH hkb;have hne:Hid (¬fa=fb):=fun h=>by rw[h,hkb]at hka;cases hka
   clear hka hkb;go_wp2_with (first
    |(go_at_call 103;refine(c103 (B (valOf [99] T)) _ (by rw[size_B];have:=(hV.out.vals [99]).1;omega) (by rw[L_B];exact(hV.out.vals _).2)).mono ?_;rintro e w1⟨rfl,hb1⟩;rw[L_B,hfa.out,hfb.out];have hc1:=hb.trans (hb1.mono hb.size))
    |(go_at_call_of 90 (Value.string (B fa));refine(c90k fa _ hkfa.out).mono ?_;rintro e w2⟨ty,tw1,p1,rfl,hty,hb2⟩;have hc2:=hc1.trans (hb2.mono hc1.size))
    |(go_at_call_of 90 (Value.string (B fb));refine(c90n fb _ hkfb.out).mono ?_;rintro e w3⟨rfl,rfl⟩))
   exact HR.out _ _ (.inr (.inl ⟨_,rfl,rfl⟩)) (Gr.of_below hc2)
  |true =>
   rw[hka,hkb,Bool.true_and,if_neg (by decide)]at HR;have hkfb:=zH hkb;clear hka hkb;go_wp2_with (first
    |(go_at_call 103;refine(c103 (B (valOf [99] T)) _ (by rw[size_B];have:=(hV.out.vals [99]).1;omega) (by rw[L_B];exact(hV.out.vals _).2)).mono ?_;rintro e w1⟨rfl,hb1⟩;rw[L_B,hfa.out,hfb.out];have hc1:=hb.trans (hb1.mono hb.size))
    |(go_at_call_of 90 (Value.string (B fa));refine(c90k fa _ hkfa.out).mono ?_;rintro e w2⟨ty,tw1,p1,rfl,hty,hb2⟩;have hc2:=hc1.trans (hb2.mono hc1.size))
    |(go_at_call_of 90 (Value.string (B fb));refine(c90k fb _ hkfb.out).mono ?_;rintro e w3⟨ty2,tw,p2,rfl,hty2,hb3⟩;have hc3:=hc2.trans (hb3.mono hc2.size)))
   refine useF 506 _ (by kernel_rfl) ?_;refine v6 _ ct2 hct2.out R w3 Z g0 tyr ty ty2 tw gq mp nM cH cK fa AH AK _ _ pr kv body _ K.bytes field T (B K.kind) fields (keysOf T) rfl rfl rfl rfl rfl rfl rfl rfl (hty2.imp (fun h=>⟨h.1,h.2.1⟩) (fun h=>⟨h.1,h.2.1⟩)) (hty.imp (fun h=>⟨h.1,h.2.2⟩) (fun h=>⟨h.1,h.2.2⟩)) (zH ((hV.out.keep _ (Gr.of_below hc3)).map)) (zH (fun t=>⟨zT (hV.out.vals t).1 (by decide),(hV.out.vals t).2⟩)) (zT hV.out.g0le hc3.size) (zH hV.out.zlt) (zH (rdr_keep hV.out.rdr (hc3.mono hV.out.g0le))) (zH (hV.out.kept5 hc3)) (zH (fun a h=>zL (hV.out.ah a h) hc3.size)) (zH (fun a h=>zL (hV.out.ak a h) hc3.size)) (zH rfl) hV.out.kn hV.out.fn (zH hV.out.fl1) (zH hV.out.fp1) (zH hV.out.kl1) (zH hV.out.kp) (zL hV.out.gql hc3.size) (zL hV.out.six hc3.size) hV.out.bl (zH hV.out.fp) hV.out.fl (hV.out.all _) hV.out.kl ?_;intro err w' he hG;refine HR.out err w' ?_ (VC.gr hc3 hG);rw[judgeH_eq tw fields body field T K (hty2.imp (fun h=>⟨h.2.1,hfb.out.trans h.2.2⟩) (fun h=>⟨h.2.1,hfb.out.trans h.2.2⟩)),hfa.out];exact he
end Go.Proofs.YtnkihlpmmfeioaaGreatDoor
namespace Go.Proofs.YtnkihlpmmfeioaaGreatDoor
open Go.RowKit
noncomputable def loop77(k:Nat):Code:=(((Tryz.f77.body.map loopsOf).getD [])[k]?).getD .skip
attribute [local go_sem ↓] Go.wp_at_zero Go.wp_at_succ
theorem l77_4(f0 f1 f2 f3 f4 f6 f10 f11 f12 f13 f14 f15 f16 f17 f18 f19 f20 f21 f22 f23 f24 f25 f26 f27 f28 f29 f30 f31 f32 f33 f34 f35 f36 f37 f38 f39 f40 f41 f42 f43 f44 f45 f46 f47 f48 f49 f50 f51 f52 f53 f54 f55 f56 f57 f58 f59 f60 f61 f62 f63 f64 f65 f66 f67 f68 f69 f70 f71 f72 f73 f74 f75 f76 f77 f78 f79 f80 f81 f82 f83 f84 f85 f86 f87 f88 f89 f90 f91 f92 f93 f94 f95 f96 f97 f98 f99 f100 f101 f102 f103 f104 f105 f106 f107 f108 f109 f110 f111 f112 f113 f114 f115 f116 f117 f118 f119 f120 f121 f122 f123 f124 f125 f126 f127 f128 f129 f130 f131 f132 f133 f134 f135 f136 f137 f138 f139 f140 f141 f142 f143 f144 f145 f146 f147 f148 f149 f150 f151 f152 f153 f154 f155 f156 f157 f158 f159 f160 f161 f162 f163 f164 f165 f166 f167 f168 f169 f170 f171 f172 f173 f174 f175 f176 f177 f178 f179 f180 f181 f182 f183 f184 f185 f186 f187 f188 f189 f190 f191 f192 f193 f194 f195 f196 f197 f198 f199 f200 f201 f202 f203 f204 f205 f206 f207 f208 f209 f210 f211 f212 f213 f214 f215 f216 f217 f218 f219 f220 f221 f222 f223 f224 f225 f226 f227 f228 f229 f230 f231 f232 f233 f234 f235 f236 f237 f238 f239 f240 f241 f242 f243 f244 f245 f246 f247 f248 f249 f250 f251 f252 f253 f254 f255 f256 f257 f258 f259 f260 f261 f262 f263 f264 f265 f266 f267 f268 f269 f270:Value)(Q:Exit->Act->World->Prop)(c77:Code)(hc77:c77=loop77 3)(wo w0:World)(g5 off5 c gw a bs:Nat)(b blk:List UInt8)
  (ho:Hid (OwnB wo bs (.slice (some ⟨g5,off5,none⟩) b.length c) b))(hbk:Hid (∀(i:Nat) (x:UInt8),blk[i]?=some x->b[a+i]?=some x))(hbkl:Hid (blk.length=b.length - a))(ha64:a+64<=b.length)(hab:a<=2560000000000)(hbb:b.length<=2600000000000)(hgw:Hid (wo.heap.size=gw))(hW0:Hid (Blk w0 gw (wArr (wL blk 0)) 202))(hBe0:Hid (Below gw wo w0))
  (hexit:∀ (u9 u10 u57 u58 u59 u60 u61 u62 u63 u64 u65 u66 u67 u68 u69 u70 u71 u72 u73 u74 u75 u76 u77 u78 u79 u80 u81:Value) (w':World),Hid (Blk w' gw (wArr (wL blk 16)) 202)->Hid (Below gw wo w')->Q (.exit 6) ⟨(f0::f1::f2::f3::f4::(.slice (some ⟨g5,off5,none⟩) b.length c)::f6::(.int .i64 (a:Int))::(.pointer (some ⟨gw,0,none⟩))::u9::u10::f11::f12::f13::f14::f15::f16::f17::f18::f19::f20::f21::f22::f23::f24::f25::f26::f27::f28::f29::f30::f31::f32::f33::f34::f35::f36::f37::f38::f39::f40::f41::f42::f43::f44::f45::f46::f47::f48::f49::f50::f51::f52::f53::f54::f55::f56::u57::u58::u59::u60::u61::u62::u63::u64::u65::u66::u67::u68::u69::u70::u71::u72::u73::u74::u75::u76::u77::u78::u79::u80::u81::f82::f83::f84::f85::f86::f87::f88::f89::f90::f91::f92::f93::f94::f95::f96::f97::f98::f99::f100::f101::f102::f103::f104::f105::f106::f107::f108::f109::f110::f111::f112::f113::f114::f115::f116::f117::f118::f119::f120::f121::f122::f123::f124::f125::f126::f127::f128::f129::f130::f131::f132::f133::f134::f135::f136::f137::f138::f139::f140::f141::f142::f143::f144::f145::f146::f147::f148::f149::f150::f151::f152::f153::f154::f155::f156::f157::f158::f159::f160::f161::f162::f163::f164::f165::f166::f167::f168::f169::f170::f171::f172::f173::f174::f175::f176::f177::f178::f179::f180::f181::f182::f183::f184::f185::f186::f187::f188::f189::f190::f191::f192::f193::f194::f195::f196::f197::f198::f199::f200::f201::f202::f203::f204::f205::f206::f207::f208::f209::f210::f211::f212::f213::f214::f215::f216::f217::f218::f219::f220::f221::f222::f223::f224::f225::f226::f227::f228::f229::f230::f231::f232::f233::f234::f235::f236::f237::f238::f239::f240::f241::f242::f243::f244::f245::f246::f247::f248::f249::f250::f251::f252::f253::f254::f255::f256::f257::f258::f259::f260::f261::f262::f263::f264::f265::f266::f267::f268::f269::f270::[]).toArray,[]⟩ w') :
  Code.wp Tryz.prog (Code.loop c77) Q ⟨(f0::f1::f2::f3::f4::(.slice (some ⟨g5,off5,none⟩) b.length c)::f6::(.int .i64 (a:Int))::(.pointer (some ⟨gw,0,none⟩))::(.int .i64 0)::f10::f11::f12::f13::f14::f15::f16::f17::f18::f19::f20::f21::f22::f23::f24::f25::f26::f27::f28::f29::f30::f31::f32::f33::f34::f35::f36::f37::f38::f39::f40::f41::f42::f43::f44::f45::f46::f47::f48::f49::f50::f51::f52::f53::f54::f55::f56::f57::f58::f59::f60::f61::f62::f63::f64::f65::f66::f67::f68::f69::f70::f71::f72::f73::f74::f75::f76::f77::f78::f79::f80::f81::f82::f83::f84::f85::f86::f87::f88::f89::f90::f91::f92::f93::f94::f95::f96::f97::f98::f99::f100::f101::f102::f103::f104::f105::f106::f107::f108::f109::f110::f111::f112::f113::f114::f115::f116::f117::f118::f119::f120::f121::f122::f123::f124::f125::f126::f127::f128::f129::f130::f131::f132::f133::f134::f135::f136::f137::f138::f139::f140::f141::f142::f143::f144::f145::f146::f147::f148::f149::f150::f151::f152::f153::f154::f155::f156::f157::f158::f159::f160::f161::f162::f163::f164::f165::f166::f167::f168::f169::f170::f171::f172::f173::f174::f175::f176::f177::f178::f179::f180::f181::f182::f183::f184::f185::f186::f187::f188::f189::f190::f191::f192::f193::f194::f195::f196::f197::f198::f199::f200::f201::f202::f203::f204::f205::f206::f207::f208::f209::f210::f211::f212::f213::f214::f215::f216::f217::f218::f219::f220::f221::f222::f223::f224::f225::f226::f227::f228::f229::f230::f231::f232::f233::f234::f235::f236::f237::f238::f239::f240::f241::f242::f243::f244::f245::f246::f247::f248::f249::f250::f251::f252::f253::f254::f255::f256::f257::f258::f259::f260::f261::f262::f263::f264::f265::f266::f267::f268::f269::f270::[]).toArray,[]⟩ w0:=by
 subst hc77;conv=>arg 2;arg 1;whnf
 have HEX:=zH hexit;clear hexit;go_loopg [9] 16 (fun g v w'=>∃i:Nat,v=.int .i64 (i:Int)/\i<=16/\Hid (i+g=16)/\Hid (Blk w' gw (wArr (wL blk i)) 202)/\Hid (Below gw wo w'))
 case atStart=>exact⟨0,rfl,Nat.zero_le _,Nat.zero_add _,hW0,hBe0⟩
 clear hW0 hBe0;obtain⟨i,rfl,hi,hig,hWB,hBe⟩:=hrel;by_cases hlt2:i < 16
 ·skip
  have hiI:(i:Int) < 16:=by omega
  go_wp2;go_loopg [10] 4 (fun g v w'=>∃n:Nat,v=.int .i64 (n:Int)/\n<=4/\Hid (n+g=4)/\Hid (Blk w' gw (wArr ((wL blk i).set i (bePart blk i n))) 202)/\Hid (Below gw wo w'))
  case atStart=>exact⟨0,rfl,Nat.zero_le _,Nat.zero_add _,by unfold Hid;rw[bePart,wL_set0 _ _ (by omega)];exact hWB.out,hBe⟩
  clear hWB hBe;obtain⟨n,rfl,hn,hng,hWB,hBe⟩:=hrel;by_cases hlt3:n < 4
  ·obtain⟨x0,hx0⟩:∃x0,Hid (bePart blk i n=x0):=⟨_,rfl⟩
   have hjl:4*i+n < blk.length:=by have:=hbkl.out;omega
   obtain⟨cb,hcb⟩:∃cb,Hid (blk.getD (4*i+n) 0=cb):=⟨_,rfl⟩;have hcb1:blk[4*i+n]?=some cb:=by rw[<-hcb.out,List.getD_eq_getElem?_getD,zG hjl];rfl
   have hcb2:=ho.out.cellAt (hbk.out _ _ hcb1);have hcb3:=(hBe.out.cell (p:=⟨g5,off5+(a+(4*i+n)),none⟩) (by have:=cell_lt hcb2;rw[hgw.out]at this;exact this)).trans hcb2;rw[show off5+(a+(4*i+n))=off5+(a+4*i+n)by omega]at hcb3;rw[hx0.out]at hWB;have hwL:((wL blk i).set i x0)[i]?=some x0:=by rw[List.getElem?_set_self (by rw[wL_len _ _ (by omega)];omega)]
   have hwc:=(hWB.out.cell i).trans (wArr_at hwL);have hwf:=hWB.out.frozen i;have HX:=zH hcb1;unfold byteV at hcb3;clear hcb1 hcb2 hwL;go_wp2;have z1:(0:Int)<=(i:Int):=by omega
   have z2:(i:Int) < 64:=by omega
   have z3:IntKind.i64.wrap (4*(i:Int))=4*(i:Int):=IntWalk.i64_in _ (by omega);have z4:IntKind.i64.wrap ((a:Int)+4*(i:Int))=(a:Int)+4*(i:Int):=IntWalk.i64_in _ (by omega);have z5:IntKind.i64.wrap ((a:Int)+4*(i:Int)+(n:Int))=(a:Int)+4*(i:Int)+(n:Int):=IntWalk.i64_in _ (by omega);have z6:((a:Int)+4*(i:Int)+(n:Int)).toNat=a+4*i+n:=by omega
   have z7:(0:Int)<=(a:Int)+4*(i:Int)+(n:Int):=by omega
   have z8:(a:Int)+4*(i:Int)+(n:Int) < (b.length:Int):=by have:=hbkl.out;omega
   refine wp_quiet_tail_lit 17 (by kernel_rfl) (by kernel_rfl) ?_;simp only[List.take_succ_cons,List.take_zero,List.drop_succ_cons,List.drop_zero];repeat(quiet_step (fail))
   refine wpQuiet_nil ?_;intro _ hw';obtain⟨nq,hw''⟩:=hw';subst hw'';clear z3 z4 z5 z6;go_wp2;have hWB2:Blk ((wr.drewN nq).setCell ⟨gw,i,none⟩ (.int .u32 (bits .or .u32 ((x0.toNat:Int)*256 % 4294967296) ((cb.toNat:Int) % 4294967296)))) gw (wArr ((wL blk i).set i (bePart blk i (n+1)))) 202 :=
    (Blk.set_ (w:=wr.drewN nq) hWB.out i _).to (by rw[be_step,wArr_set,List.set_set,bePart,hx0.out,hcb.out])
   have hBe2:=belowB_set (k:=i) (u:=.int .u32 (bits .or .u32 ((x0.toNat:Int)*256 % 4294967296) ((cb.toNat:Int) % 4294967296))) (below_drewN hBe.out nq) (zR gw) (by have:=hWB.out.lt;exact Nat.le_of_lt this);go_roundg (gk - 1)
   case measure=>have:=hng.out;omega
   case rel=>exact⟨n+1,by go_num,by omega,by have:=hng.out;unfold Hid;omega,hWB2,hBe2⟩
  obtain rfl:n=4:=by omega
  go_wp2;go_roundg (16 - i - 1)
  case measure=>have:=hig.out;omega
  case rel=>exact⟨i+1,by go_num,by omega,by have:=hig.out;unfold Hid;omega,by unfold Hid;rw[<-wL_set _ _ (by omega),wF_lo _ _ hlt2];exact hWB.out,hBe⟩
 obtain rfl:i=16:=by omega
 go_wp2;exact HEX.out _ _ _ _ _ _ _ _ _ _ _ _ _ _ _ _ _ _ _ _ _ _ _ _ _ _ _ _ hWB hBe
theorem l77_6(f0 f1 f2 f3 f4 f5 f6 f7 f9 f10 f12 f13 f14 f15 f16 f17 f18 f19 f20 f21 f22 f23 f24 f25 f26 f27 f28 f29 f30 f31 f32 f33 f34 f35 f36 f37 f38 f39 f40 f41 f42 f43 f44 f45 f46 f47 f48 f49 f50 f51 f52 f53 f54 f55 f56 f57 f58 f59 f60 f61 f62 f63 f64 f65 f66 f67 f68 f69 f70 f71 f72 f73 f74 f75 f76 f77 f78 f79 f80 f81 f82 f83 f84 f85 f86 f87 f88 f89 f90 f91 f92 f93 f94 f95 f96 f97 f98 f99 f100 f101 f102 f103 f104 f105 f106 f107 f108 f109 f110 f111 f112 f113 f114 f115 f116 f117 f118 f119 f120 f121 f122 f123 f124 f125 f126 f127 f128 f129 f130 f131 f132 f133 f134 f135 f136 f137 f138 f139 f140 f141 f142 f143 f144 f145 f146 f147 f148 f149 f150 f151 f152 f153 f154 f155 f156 f157 f158 f159 f160 f161 f162 f163 f164 f165 f166 f167 f168 f169 f170 f171 f172 f173 f174 f175 f176 f177 f178 f179 f180 f181 f182 f183 f184 f185 f186 f187 f188 f189 f190 f191 f192 f193 f194 f195 f196 f197 f198 f199 f200 f201 f202 f203 f204 f205 f206 f207 f208 f209 f210 f211 f212 f213 f214 f215 f216 f217 f218 f219 f220 f221 f222 f223 f224 f225 f226 f227 f228 f229 f230 f231 f232 f233 f234 f235 f236 f237 f238 f239 f240 f241 f242 f243 f244 f245 f246 f247 f248 f249 f250 f251 f252 f253 f254 f255 f256 f257 f258 f259 f260 f261 f262 f263 f264 f265 f266 f267 f268 f269 f270:Value)(Q:Exit->Act->World->Prop)(c77:Code)(hc77:c77=loop77 5)(wo w0:World)(gw:Nat)(blk:List UInt8)
  (hW0:Hid (Blk w0 gw (wArr (wL blk 16)) 202))(hBe0:Hid (Below gw wo w0))
  (hexit:∀ (u11 u12 u13 u82 u83 u84 u85 u86 u87 u88 u89 u90 u91 u92 u93 u94 u95 u96 u97 u98 u99 u100 u101 u102 u103 u104 u105 u106 u107 u108 u109 u110 u111 u112 u113 u114 u115 u116 u117 u118 u119 u120 u121 u122:Value) (w':World),Hid (Blk w' gw (wArr (wL blk 64)) 202)->Hid (Below gw wo w')->Q (.exit 10) ⟨(f0::f1::f2::f3::f4::f5::f6::f7::(.pointer (some ⟨gw,0,none⟩))::f9::f10::u11::u12::u13::f14::f15::f16::f17::f18::f19::f20::f21::f22::f23::f24::f25::f26::f27::f28::f29::f30::f31::f32::f33::f34::f35::f36::f37::f38::f39::f40::f41::f42::f43::f44::f45::f46::f47::f48::f49::f50::f51::f52::f53::f54::f55::f56::f57::f58::f59::f60::f61::f62::f63::f64::f65::f66::f67::f68::f69::f70::f71::f72::f73::f74::f75::f76::f77::f78::f79::f80::f81::u82::u83::u84::u85::u86::u87::u88::u89::u90::u91::u92::u93::u94::u95::u96::u97::u98::u99::u100::u101::u102::u103::u104::u105::u106::u107::u108::u109::u110::u111::u112::u113::u114::u115::u116::u117::u118::u119::u120::u121::u122::f123::f124::f125::f126::f127::f128::f129::f130::f131::f132::f133::f134::f135::f136::f137::f138::f139::f140::f141::f142::f143::f144::f145::f146::f147::f148::f149::f150::f151::f152::f153::f154::f155::f156::f157::f158::f159::f160::f161::f162::f163::f164::f165::f166::f167::f168::f169::f170::f171::f172::f173::f174::f175::f176::f177::f178::f179::f180::f181::f182::f183::f184::f185::f186::f187::f188::f189::f190::f191::f192::f193::f194::f195::f196::f197::f198::f199::f200::f201::f202::f203::f204::f205::f206::f207::f208::f209::f210::f211::f212::f213::f214::f215::f216::f217::f218::f219::f220::f221::f222::f223::f224::f225::f226::f227::f228::f229::f230::f231::f232::f233::f234::f235::f236::f237::f238::f239::f240::f241::f242::f243::f244::f245::f246::f247::f248::f249::f250::f251::f252::f253::f254::f255::f256::f257::f258::f259::f260::f261::f262::f263::f264::f265::f266::f267::f268::f269::f270::[]).toArray,[]⟩ w') :
  Code.wp Tryz.prog (Code.loop c77) Q ⟨(f0::f1::f2::f3::f4::f5::f6::f7::(.pointer (some ⟨gw,0,none⟩))::f9::f10::(.int .i64 16)::f12::f13::f14::f15::f16::f17::f18::f19::f20::f21::f22::f23::f24::f25::f26::f27::f28::f29::f30::f31::f32::f33::f34::f35::f36::f37::f38::f39::f40::f41::f42::f43::f44::f45::f46::f47::f48::f49::f50::f51::f52::f53::f54::f55::f56::f57::f58::f59::f60::f61::f62::f63::f64::f65::f66::f67::f68::f69::f70::f71::f72::f73::f74::f75::f76::f77::f78::f79::f80::f81::f82::f83::f84::f85::f86::f87::f88::f89::f90::f91::f92::f93::f94::f95::f96::f97::f98::f99::f100::f101::f102::f103::f104::f105::f106::f107::f108::f109::f110::f111::f112::f113::f114::f115::f116::f117::f118::f119::f120::f121::f122::f123::f124::f125::f126::f127::f128::f129::f130::f131::f132::f133::f134::f135::f136::f137::f138::f139::f140::f141::f142::f143::f144::f145::f146::f147::f148::f149::f150::f151::f152::f153::f154::f155::f156::f157::f158::f159::f160::f161::f162::f163::f164::f165::f166::f167::f168::f169::f170::f171::f172::f173::f174::f175::f176::f177::f178::f179::f180::f181::f182::f183::f184::f185::f186::f187::f188::f189::f190::f191::f192::f193::f194::f195::f196::f197::f198::f199::f200::f201::f202::f203::f204::f205::f206::f207::f208::f209::f210::f211::f212::f213::f214::f215::f216::f217::f218::f219::f220::f221::f222::f223::f224::f225::f226::f227::f228::f229::f230::f231::f232::f233::f234::f235::f236::f237::f238::f239::f240::f241::f242::f243::f244::f245::f246::f247::f248::f249::f250::f251::f252::f253::f254::f255::f256::f257::f258::f259::f260::f261::f262::f263::f264::f265::f266::f267::f268::f269::f270::[]).toArray,[]⟩ w0:=by
 subst hc77;conv=>arg 2;arg 1;whnf
 have HEX:=zH hexit;clear hexit;go_loopg [11] 48 (fun g v w'=>∃i:Nat,v=.int .i64 (i:Int)/\16<=i/\i<=64/\Hid (i+g=64)/\Hid (Blk w' gw (wArr (wL blk i)) 202)/\Hid (Below gw wo w'))
 case atStart=>exact⟨16,rfl,zR _,by omega,by unfold Hid;omega,hW0,hBe0⟩
 clear hW0 hBe0;obtain⟨i,rfl,hi16,hi,hig,hWB,hBe⟩:=hrel;by_cases hlt3:i < 64
 ·skip
  obtain⟨x16,hx16⟩:∃x,Hid (wF blk (i - 16)=x):=⟨_,rfl⟩;obtain⟨x15,hx15⟩:∃x,Hid (wF blk (i - 15)=x):=⟨_,rfl⟩;obtain⟨x7,hx7⟩:∃x,Hid (wF blk (i - 7)=x):=⟨_,rfl⟩;obtain⟨x2,hx2⟩:∃x,Hid (wF blk (i - 2)=x):=⟨_,rfl⟩;have q16:=(hWB.out.cell (i - 16)).trans (wArr_at (wL_at blk i (i - 16) (by omega)));have q15:=(hWB.out.cell (i - 15)).trans (wArr_at (wL_at blk i (i - 15) (by omega)));have q7:=(hWB.out.cell (i - 7)).trans (wArr_at (wL_at blk i (i - 7) (by omega)));have q2:=(hWB.out.cell (i - 2)).trans (wArr_at (wL_at blk i (i - 2) (by omega)));have q0:=(hWB.out.cell i).trans (wArr_at (wL_next blk i hlt3));have qf:=hWB.out.frozen i;rw[hx16.out]at q16;rw[hx15.out]at q15;rw[hx7.out]at q7;rw[hx2.out]at q2;have hiI:(i:Int) < 64:=by omega
  have y1:(0:Int)<=(i:Int) - 15:=by omega
  have y2:(0:Int)<=(i:Int) - 2:=by omega
  have y5:(i:Int) - 15 < 64:=by omega
  have y6:(i:Int) - 2 < 64:=by omega
  have w1':IntKind.i64.wrap ((i:Int) - 15)=(i:Int) - 15:=IntWalk.i64_in _ (by omega);have w2':IntKind.i64.wrap ((i:Int) - 2)=(i:Int) - 2:=IntWalk.i64_in _ (by omega);have t1:((i:Int) - 15).toNat=i - 15:=by omega
  have t2:((i:Int) - 2).toNat=i - 2:=by omega
  go_upto_region 23 with fail
  go_quiet (fail)
  have p16:(wr.drewN nq).cell? ⟨gw,i - 16,none⟩=some (.int .u32 (x16.toNat:Int)):=q16;have p7:(wr.drewN nq).cell? ⟨gw,i - 7,none⟩=some (.int .u32 (x7.toNat:Int)):=q7;have p0:(wr.drewN nq).cell? ⟨gw,i,none⟩=some (.int .u32 ((0#32).toNat:Int)):=q0;have pf:(wr.drewN nq).frozen? ⟨gw,i,none⟩=false:=qf;have hWB1:Hid (Blk (wr.drewN nq) gw (wArr (wL blk i)) 202):=hWB.out;have hBe1:Hid (Below gw wo (wr.drewN nq)):=below_drewN hBe.out nq;clear q16 q15 q7 q2 q0 qf y1 y2 y5 y6 w1' w2' t1 t2 hWB hBe;generalize wr.drewN nq=W1 at *
  go_wp2;have y3:(0:Int)<=(i:Int) - 16:=by omega
  have y4:(0:Int)<=(i:Int) - 7:=by omega
  have y0:(0:Int)<=(i:Int):=by omega
  have y7:(i:Int) - 16 < 64:=by omega
  have y8:(i:Int) - 7 < 64:=by omega
  have w3':IntKind.i64.wrap ((i:Int) - 16)=(i:Int) - 16:=IntWalk.i64_in _ (by omega);have w4':IntKind.i64.wrap ((i:Int) - 7)=(i:Int) - 7:=IntWalk.i64_in _ (by omega);have t3:((i:Int) - 16).toNat=i - 16:=by omega
  have t4:((i:Int) - 7).toNat=i - 7:=by omega
  have y9:(16:Int)<=(i:Int):=by omega
  have y10:(7:Int)<=(i:Int):=by omega
  refine wp_quiet_tail_lit 29 (by kernel_rfl) (by kernel_rfl) ?_;simp only[List.take_succ_cons,List.take_zero,List.drop_succ_cons,List.drop_zero];repeat(quiet_step ((go_at_call 120;exact Calls.quiet_of (c120' _ _ _ (by decide) (by decide)))))
  refine wpQuiet_nil ?_;intro _ hw';obtain⟨nq,hw''⟩:=hw';subst hw'';go_wp2;have hWB2:Hid (Blk ((W1.drewN nq).setCell ⟨gw,i,none⟩ (.int .u32 ((x16+sg0 x15+x7+sg1 x2).toNat:Int))) gw (wArr (wL blk (i+1))) 202):=by
   unfold Hid;rw[<-wL_set _ _ hlt3,wF_hi _ _ (by omega),hx16.out,hx15.out,hx7.out,hx2.out,<-wArr_set];exact Blk.set_ (w:=W1.drewN nq) hWB1.out i _
  have hBe2:=below_drewN hBe1.out nq;have hBe3:=belowB_set (k:=i) (u:=.int .u32 ((x16+sg0 x15+x7+sg1 x2).toNat:Int)) hBe2 (zR gw) (by have:=hWB1.out.lt;exact Nat.le_of_lt this);rw[sched_eq];go_roundg (gk - 1)
  case measure=>have:=hig.out;omega
  case rel=>exact⟨i+1,by go_num,by omega,by omega,by have:=hig.out;unfold Hid;omega,hWB2,hBe3⟩
 obtain rfl:i=64:=by omega
 go_wp2;exact HEX.out _ _ _ _ _ _ _ _ _ _ _ _ _ _ _ _ _ _ _ _ _ _ _ _ _ _ _ _ _ _ _ _ _ _ _ _ _ _ _ _ _ _ _ _ _ hWB hBe
theorem l77_7(f0 f1 f2 f3 f5 f6 f7 f9 f10 f11 f12 f13 f16 f17 f18 f19 f20 f21 f22 f23 f24 f25 f26 f27 f28 f29 f30 f31 f32 f33 f34 f35 f36 f37 f38 f39 f40 f41 f42 f43 f44 f45 f46 f47 f48 f49 f50 f51 f52 f53 f54 f55 f56 f57 f58 f59 f60 f61 f62 f63 f64 f65 f66 f67 f68 f69 f70 f71 f72 f73 f74 f75 f76 f77 f78 f79 f80 f81 f82 f83 f84 f85 f86 f87 f88 f89 f90 f91 f92 f93 f94 f95 f96 f97 f98 f99 f100 f101 f102 f103 f104 f105 f106 f107 f108 f109 f110 f111 f112 f113 f114 f115 f116 f117 f118 f119 f120 f121 f122 f123 f124 f125 f126 f127 f128 f129 f130 f131 f132 f133 f134 f135 f136 f137 f138 f139 f140 f141 f142 f143 f144 f145 f146 f147 f148 f149 f150 f151 f152 f153 f154 f155 f156 f157 f158 f159 f160 f161 f162 f163 f164 f165 f166 f167 f168 f169 f170 f171 f172 f173 f174 f175 f176 f177 f178 f179 f180 f181 f182 f183 f184 f185 f186 f187 f188 f189 f190 f191 f192 f193 f194 f195 f196 f197 f198 f199 f200 f201 f202 f203 f204 f205 f206 f207 f208 f209 f210 f211 f212 f213 f214 f215 f216 f217 f218 f219 f220 f221 f222 f223 f224 f225 f226 f227 f228 f229 f230 f231 f232 f233 f234 f235 f236 f237 f238 f239 f240 f241 f242 f243 f244 f245 f246 f247 f248 f249 f250 f251 f252 f253 f254 f255 f256 f257 f258 f259 f260 f261 f262 f263 f264 f265 f266 f267 f268 f269 f270:Value)(Q:Exit->Act->World->Prop)(c77:Code)(hc77:c77=loop77 6)(wo w0:World)(gw g64 c64 gv0 c6 bK:Nat)(blk:List UInt8)(st:List W32)
  (hst:Hid (st.length=8))(hOK:Hid (Own wo bK 201 (.slice (some ⟨g64,0,none⟩) 64 c64) (wCells KL)))(hgw:Hid (wo.heap.size=gw))(hc6:8<=c6)(HV6:Hid (gw < gv0/\∀(j:Nat) (x:W32),(rounds blk st 0)[j]?=some x->w0.cell? ⟨gv0,j,none⟩=some (.int .u32 (x.toNat:Int))))(hW0:Hid (Blk w0 gw (wArr (wL blk 64)) 202))(hBe0:Hid (Below gw wo w0))
  (hexit:∀(gv cv:Nat) (u15 u16 u17 u18 u19 u126 u127 u128 u129 u130 u131 u132 u133 u134 u135 u136 u137 u138 u139 u140 u141 u142 u143 u144 u145 u146 u147 u148 u149 u150 u151 u152 u153 u154 u155 u156 u157 u158 u159 u160 u161 u162 u163 u164 u165 u166 u167 u168 u169 u170 u171 u172 u173 u174 u175 u176 u177 u178 u179 u180 u181 u182 u183 u184 u185 u186 u187 u188 u189 u190 u191 u192 u193 u194 u195 u196 u197 u198 u199 u200 u201 u202 u203 u204 u205 u206 u207 u208 u209 u210 u211 u212 u213 u214 u215 u216 u217 u218 u219 u220 u221 u222 u223 u224:Value) (w':World),8<=cv->Hid (gw < gv/\∀(j:Nat) (x:W32),(rounds blk st 64)[j]?=some x->w'.cell? ⟨gv,j,none⟩=some (.int .u32 (x.toNat:Int)))->Hid (Blk w' gw (wArr (wL blk 64)) 202)->Hid (Below gw wo w')->Q (.exit 12) ⟨(f0::f1::f2::f3::(.slice (some ⟨g64,0,none⟩) 64 c64)::f5::f6::f7::(.pointer (some ⟨gw,0,none⟩))::f9::f10::f11::f12::f13::(.slice (some ⟨gv,0,none⟩) 8 cv)::u15::u16::u17::u18::u19::f20::f21::f22::f23::f24::f25::f26::f27::f28::f29::f30::f31::f32::f33::f34::f35::f36::f37::f38::f39::f40::f41::f42::f43::f44::f45::f46::f47::f48::f49::f50::f51::f52::f53::f54::f55::f56::f57::f58::f59::f60::f61::f62::f63::f64::f65::f66::f67::f68::f69::f70::f71::f72::f73::f74::f75::f76::f77::f78::f79::f80::f81::f82::f83::f84::f85::f86::f87::f88::f89::f90::f91::f92::f93::f94::f95::f96::f97::f98::f99::f100::f101::f102::f103::f104::f105::f106::f107::f108::f109::f110::f111::f112::f113::f114::f115::f116::f117::f118::f119::f120::f121::f122::f123::f124::f125::u126::u127::u128::u129::u130::u131::u132::u133::u134::u135::u136::u137::u138::u139::u140::u141::u142::u143::u144::u145::u146::u147::u148::u149::u150::u151::u152::u153::u154::u155::u156::u157::u158::u159::u160::u161::u162::u163::u164::u165::u166::u167::u168::u169::u170::u171::u172::u173::u174::u175::u176::u177::u178::u179::u180::u181::u182::u183::u184::u185::u186::u187::u188::u189::u190::u191::u192::u193::u194::u195::u196::u197::u198::u199::u200::u201::u202::u203::u204::u205::u206::u207::u208::u209::u210::u211::u212::u213::u214::u215::u216::u217::u218::u219::u220::u221::u222::u223::u224::f225::f226::f227::f228::f229::f230::f231::f232::f233::f234::f235::f236::f237::f238::f239::f240::f241::f242::f243::f244::f245::f246::f247::f248::f249::f250::f251::f252::f253::f254::f255::f256::f257::f258::f259::f260::f261::f262::f263::f264::f265::f266::f267::f268::f269::f270::[]).toArray,[]⟩ w') :
  Code.wp Tryz.prog (Code.loop c77) Q ⟨(f0::f1::f2::f3::(.slice (some ⟨g64,0,none⟩) 64 c64)::f5::f6::f7::(.pointer (some ⟨gw,0,none⟩))::f9::f10::f11::f12::f13::(.slice (some ⟨gv0,0,none⟩) 8 c6)::(.int .i64 0)::f16::f17::f18::f19::f20::f21::f22::f23::f24::f25::f26::f27::f28::f29::f30::f31::f32::f33::f34::f35::f36::f37::f38::f39::f40::f41::f42::f43::f44::f45::f46::f47::f48::f49::f50::f51::f52::f53::f54::f55::f56::f57::f58::f59::f60::f61::f62::f63::f64::f65::f66::f67::f68::f69::f70::f71::f72::f73::f74::f75::f76::f77::f78::f79::f80::f81::f82::f83::f84::f85::f86::f87::f88::f89::f90::f91::f92::f93::f94::f95::f96::f97::f98::f99::f100::f101::f102::f103::f104::f105::f106::f107::f108::f109::f110::f111::f112::f113::f114::f115::f116::f117::f118::f119::f120::f121::f122::f123::f124::f125::f126::f127::f128::f129::f130::f131::f132::f133::f134::f135::f136::f137::f138::f139::f140::f141::f142::f143::f144::f145::f146::f147::f148::f149::f150::f151::f152::f153::f154::f155::f156::f157::f158::f159::f160::f161::f162::f163::f164::f165::f166::f167::f168::f169::f170::f171::f172::f173::f174::f175::f176::f177::f178::f179::f180::f181::f182::f183::f184::f185::f186::f187::f188::f189::f190::f191::f192::f193::f194::f195::f196::f197::f198::f199::f200::f201::f202::f203::f204::f205::f206::f207::f208::f209::f210::f211::f212::f213::f214::f215::f216::f217::f218::f219::f220::f221::f222::f223::f224::f225::f226::f227::f228::f229::f230::f231::f232::f233::f234::f235::f236::f237::f238::f239::f240::f241::f242::f243::f244::f245::f246::f247::f248::f249::f250::f251::f252::f253::f254::f255::f256::f257::f258::f259::f260::f261::f262::f263::f264::f265::f266::f267::f268::f269::f270::[]).toArray,[]⟩ w0:=by
 subst hc77;conv=>arg 2;arg 1;whnf
 have HEX:=zH hexit;clear hexit;go_loopg [14,15] 64 (fun g v ix w'=>∃i gv cv:Nat,v=.slice (some ⟨gv,0,none⟩) 8 cv/\ix=.int .i64 (i:Int)/\i<=64/\8<=cv/\Hid (i+g=64)/\Hid (gw < gv/\∀(j:Nat) (x:W32),(rounds blk st i)[j]?=some x->w'.cell? ⟨gv,j,none⟩=some (.int .u32 (x.toNat:Int)))/\Hid (Blk w' gw (wArr (wL blk 64)) 202)/\Hid (Below gw wo w'))
 case atStart=>exact⟨0,gv0,c6,rfl,rfl,by omega,hc6,by unfold Hid;omega,HV6,hW0,hBe0⟩
 clear HV6 hW0 hBe0 hc6;obtain⟨i,gv,cv,rfl,rfl,hi64,hcv,hik,HV,hWB,hBe⟩:=hrel;by_cases hl7:i < 64
 ·skip
  obtain⟨va,vb,vc,vd,ve,vf,vg,vh,hvv⟩:=eight (l:=rounds blk st i) (by rw[rounds_len,hst.out]);have hvs:=HV.out.2;rw[hvv]at hvs;have v0:=hvs 0 _ rfl;have v1:=hvs 1 _ rfl;have v2:=hvs 2 _ rfl;have v3:=hvs 3 _ rfl;have v4:=hvs 4 _ rfl;have v5:=hvs 5 _ rfl;have v6:=hvs 6 _ rfl;have v7:=hvs 7 _ rfl;have HVV:=zH hvv;obtain⟨ki,hki⟩:∃x,Hid (kAt i=x):=⟨_,rfl⟩;obtain⟨wi,hwi⟩:∃x,Hid (wF blk i=x):=⟨_,rfl⟩;have kc:=hOK.out.cellAt rfl (wCells_at (kAt_get i hl7));have kc2:=(hBe.out.cell (p:=⟨g64,i,none⟩) (by have:=cell_lt kc;rw[hgw.out]at this;exact this)).trans kc;have wc2:=(hWB.out.cell i).trans (wArr_at (wL_at blk 64 i hl7));rw[hki.out]at kc2;rw[hwi.out]at wc2;clear hvs hvv kc;have hiI:(i:Int) < 64:=by omega
  have hcvI:(8:Int)<=(cv:Int):=by omega
  go_upto_region 29 with fail
  go_quiet (fail)
  go_upto_region 30 with fail
  have y0:(0:Int)<=(i:Int):=by omega
  go_quiet ((go_at_call 120;first|exact Calls.quiet_of (c120' _ _ _ (by decide) (by decide))|exact quiet_add (c120' _ _ _ (by decide) (by decide))))
  rw[t1_eq];obtain⟨t1,ht1⟩:∃x,Hid (t1M ki wi ve vf vg vh=x):=⟨_,rfl⟩;rw[ht1.out];go_upto_region 31 with fail
  go_quiet ((go_at_call 120;first|exact Calls.quiet_of (c120' _ _ _ (by decide) (by decide))|exact quiet_add (c120' _ _ _ (by decide) (by decide))))
  rw[t2_eq];obtain⟨t2,ht2⟩:∃x,Hid (t2M va vb vc=x):=⟨_,rfl⟩;rw[ht2.out];go_upto_region 32 with fail
  refine wp_quiet_tail_lit 26 (by kernel_rfl) (by kernel_rfl) ?_;simp only[List.take_succ_cons,List.take_zero,List.drop_succ_cons,List.drop_zero];repeat(quiet_step (fail))
  refine wpQuiet_nil ?_;intro _ hw';obtain⟨nq,hw''⟩:=hw';subst hw'';go_wp2;rw[w_add,w_add];have hE:Hid (rounds blk st (i+1)=[t1+t2,va,vb,vc,vd+t1,ve,vf,vg]):=by
   unfold Hid;rw[rounds,hki.out,hwi.out,HVV.out];show[t1M ki wi ve vf vg vh+t2M va vb vc,va,vb,vc,vd+t1M ki wi ve vf vg vh,ve,vf,vg]=_;rw[ht1.out,ht2.out]
  have hlw:=hWB.out.lt;have hszw:=hBe.out.size;go_roundg (gk - 1)
  case measure=>have:=hik.out;omega
  case rel =>
   refine⟨i+1,wr.heap.size,8,rfl,by go_num,by omega,by omega,by have:=hik.out;unfold Hid;omega,⟨hlw,fun j x hx=>?_⟩,?_,?_⟩
   ·rw[hE.out]at hx
    exact(cells_row (wr.drewN _) (wArr [t1+t2,va,vb,vc,vd+t1,ve,vf,vg]) 201 j).trans (wArr_at hx)
   ·exact hWB.out.below ((below_drewN (zB wr.heap.size wr) _).alloc (zR _) _) hlw
   exact(below_drewN hBe.out _).alloc (Nat.le_of_lt hlw) _
 obtain rfl:i=64:=by omega
 go_wp2;exact HEX.out _ _ _ _ _ _ _ _ _ _ _ _ _ _ _ _ _ _ _ _ _ _ _ _ _ _ _ _ _ _ _ _ _ _ _ _ _ _ _ _ _ _ _ _ _ _ _ _ _ _ _ _ _ _ _ _ _ _ _ _ _ _ _ _ _ _ _ _ _ _ _ _ _ _ _ _ _ _ _ _ _ _ _ _ _ _ _ _ _ _ _ _ _ _ _ _ _ _ _ _ _ _ _ _ _ _ _ hcv HV hWB hBe
theorem l77_8(f0 f1 f2 f4 f5 f6 f7 f8 f9 f10 f11 f12 f13 f15 f16 f17 f18 f19 f21 f22 f23 f24 f25 f26 f27 f28 f29 f30 f31 f32 f33 f34 f35 f36 f37 f38 f39 f40 f41 f42 f43 f44 f45 f46 f47 f48 f49 f50 f51 f52 f53 f54 f55 f56 f57 f58 f59 f60 f61 f62 f63 f64 f65 f66 f67 f68 f69 f70 f71 f72 f73 f74 f75 f76 f77 f78 f79 f80 f81 f82 f83 f84 f85 f86 f87 f88 f89 f90 f91 f92 f93 f94 f95 f96 f97 f98 f99 f100 f101 f102 f103 f104 f105 f106 f107 f108 f109 f110 f111 f112 f113 f114 f115 f116 f117 f118 f119 f120 f121 f122 f123 f124 f125 f126 f127 f128 f129 f130 f131 f132 f133 f134 f135 f136 f137 f138 f139 f140 f141 f142 f143 f144 f145 f146 f147 f148 f149 f150 f151 f152 f153 f154 f155 f156 f157 f158 f159 f160 f161 f162 f163 f164 f165 f166 f167 f168 f169 f170 f171 f172 f173 f174 f175 f176 f177 f178 f179 f180 f181 f182 f183 f184 f185 f186 f187 f188 f189 f190 f191 f192 f193 f194 f195 f196 f197 f198 f199 f200 f201 f202 f203 f204 f205 f206 f207 f208 f209 f210 f211 f212 f213 f214 f215 f216 f217 f218 f219 f220 f221 f222 f223 f224 f225 f226 f227 f228 f229 f230 f231 f232 f233 f234 f235 f236 f237 f238 f239 f240 f241 f242 f243 f244 f245 f246 f247 f248 f249 f250 f251 f252 f253 f254 f255 f256 f257 f258 f259 f260 f261 f262 f263 f264 f265 f266 f267 f268 f269 f270:Value)(Q:Exit->Act->World->Prop)(c77:Code)(hc77:c77=loop77 7)(w w0 wo:World)(g8 c8 gv cv g5 off5 c g64 c64 b1 b2:Nat)(b:List UInt8)(st V:List W32)
  (hst:Hid (st.length=8))(hVl:Hid (V.length=st.length))(hc8:8<=c8)(hcv:8<=cv)(hg8v:Hid (gv≠g8/\g8 < wo.heap.size))(hg8b:Hid (w.heap.size<=g8/\g8 < b1/\g8 < b2))(hVr:Hid (∀(j:Nat) (x:W32),V[j]?=some x->w0.cell? ⟨gv,j,none⟩=some (.int .u32 (x.toNat:Int))))(hor:Hid (OwnB w0 b2 (.slice (some ⟨g5,off5,none⟩) b.length c) b))(hOKr:Hid (Own w0 b1 201 (.slice (some ⟨g64,0,none⟩) 64 c64) (wCells KL)))(hOHr:Hid (Own w0 w.heap.size 201 (.slice (some ⟨g8,0,none⟩) 8 c8) (wCells (addTo st V 0))))(hBWr:Hid (Below w.heap.size w w0))
  (hexit:∀ (u20 u225 u226 u227 u228 u229 u230 u231 u232 u233 u234 u235 u236 u237 u238:Value) (w':World),Hid (OwnB w' b2 (.slice (some ⟨g5,off5,none⟩) b.length c) b)->Hid (Own w' b1 201 (.slice (some ⟨g64,0,none⟩) 64 c64) (wCells KL))->Hid (Own w' w.heap.size 201 (.slice (some ⟨g8,0,none⟩) 8 c8) (wCells (addTo st V 8)))->Hid (Below w.heap.size w w')->Q (.exit 14) ⟨(f0::f1::f2::(.slice (some ⟨g8,0,none⟩) 8 c8)::f4::f5::f6::f7::f8::f9::f10::f11::f12::f13::(.slice (some ⟨gv,0,none⟩) 8 cv)::f15::f16::f17::f18::f19::u20::f21::f22::f23::f24::f25::f26::f27::f28::f29::f30::f31::f32::f33::f34::f35::f36::f37::f38::f39::f40::f41::f42::f43::f44::f45::f46::f47::f48::f49::f50::f51::f52::f53::f54::f55::f56::f57::f58::f59::f60::f61::f62::f63::f64::f65::f66::f67::f68::f69::f70::f71::f72::f73::f74::f75::f76::f77::f78::f79::f80::f81::f82::f83::f84::f85::f86::f87::f88::f89::f90::f91::f92::f93::f94::f95::f96::f97::f98::f99::f100::f101::f102::f103::f104::f105::f106::f107::f108::f109::f110::f111::f112::f113::f114::f115::f116::f117::f118::f119::f120::f121::f122::f123::f124::f125::f126::f127::f128::f129::f130::f131::f132::f133::f134::f135::f136::f137::f138::f139::f140::f141::f142::f143::f144::f145::f146::f147::f148::f149::f150::f151::f152::f153::f154::f155::f156::f157::f158::f159::f160::f161::f162::f163::f164::f165::f166::f167::f168::f169::f170::f171::f172::f173::f174::f175::f176::f177::f178::f179::f180::f181::f182::f183::f184::f185::f186::f187::f188::f189::f190::f191::f192::f193::f194::f195::f196::f197::f198::f199::f200::f201::f202::f203::f204::f205::f206::f207::f208::f209::f210::f211::f212::f213::f214::f215::f216::f217::f218::f219::f220::f221::f222::f223::f224::u225::u226::u227::u228::u229::u230::u231::u232::u233::u234::u235::u236::u237::u238::f239::f240::f241::f242::f243::f244::f245::f246::f247::f248::f249::f250::f251::f252::f253::f254::f255::f256::f257::f258::f259::f260::f261::f262::f263::f264::f265::f266::f267::f268::f269::f270::[]).toArray,[]⟩ w') :
  Code.wp Tryz.prog (Code.loop c77) Q ⟨(f0::f1::f2::(.slice (some ⟨g8,0,none⟩) 8 c8)::f4::f5::f6::f7::f8::f9::f10::f11::f12::f13::(.slice (some ⟨gv,0,none⟩) 8 cv)::f15::f16::f17::f18::f19::(.int .i64 0)::f21::f22::f23::f24::f25::f26::f27::f28::f29::f30::f31::f32::f33::f34::f35::f36::f37::f38::f39::f40::f41::f42::f43::f44::f45::f46::f47::f48::f49::f50::f51::f52::f53::f54::f55::f56::f57::f58::f59::f60::f61::f62::f63::f64::f65::f66::f67::f68::f69::f70::f71::f72::f73::f74::f75::f76::f77::f78::f79::f80::f81::f82::f83::f84::f85::f86::f87::f88::f89::f90::f91::f92::f93::f94::f95::f96::f97::f98::f99::f100::f101::f102::f103::f104::f105::f106::f107::f108::f109::f110::f111::f112::f113::f114::f115::f116::f117::f118::f119::f120::f121::f122::f123::f124::f125::f126::f127::f128::f129::f130::f131::f132::f133::f134::f135::f136::f137::f138::f139::f140::f141::f142::f143::f144::f145::f146::f147::f148::f149::f150::f151::f152::f153::f154::f155::f156::f157::f158::f159::f160::f161::f162::f163::f164::f165::f166::f167::f168::f169::f170::f171::f172::f173::f174::f175::f176::f177::f178::f179::f180::f181::f182::f183::f184::f185::f186::f187::f188::f189::f190::f191::f192::f193::f194::f195::f196::f197::f198::f199::f200::f201::f202::f203::f204::f205::f206::f207::f208::f209::f210::f211::f212::f213::f214::f215::f216::f217::f218::f219::f220::f221::f222::f223::f224::f225::f226::f227::f228::f229::f230::f231::f232::f233::f234::f235::f236::f237::f238::f239::f240::f241::f242::f243::f244::f245::f246::f247::f248::f249::f250::f251::f252::f253::f254::f255::f256::f257::f258::f259::f260::f261::f262::f263::f264::f265::f266::f267::f268::f269::f270::[]).toArray,[]⟩ w0:=by
 subst hc77;conv=>arg 2;arg 1;whnf
 have HEX:=zH hexit;clear hexit;have hg8q:=hg8b.out;go_loopg [20] 8 (fun g ix w'=>∃i:Nat,ix=.int .i64 (i:Int)/\i<=8/\Hid (i+g=8)/\Hid (∀(j:Nat) (x:W32),V[j]?=some x->w'.cell? ⟨gv,j,none⟩=some (.int .u32 (x.toNat:Int))) /\
  Hid (OwnB w' b2 (.slice (some ⟨g5,off5,none⟩) b.length c) b)/\Hid (Own w' b1 201 (.slice (some ⟨g64,0,none⟩) 64 c64) (wCells KL))/\Hid (Own w' w.heap.size 201 (.slice (some ⟨g8,0,none⟩) 8 c8) (wCells (addTo st V i)))/\Hid (Below w.heap.size w w'))
 case atStart=>exact⟨0,rfl,by omega,rfl,hVr,hor,hOKr,hOHr,hBWr⟩
 clear hVr hor hOKr hOHr hBWr;obtain⟨i,rfl,hi8,hig8,hVr,hor,hOKr,hOHr,hBWr⟩:=hrel;by_cases hl8:i < 8
 ·skip
  have hsl:i < st.length:=by have:=hst.out;omega
  obtain⟨x,hx⟩:∃x,st[i]?=some x:=⟨_,zG hsl⟩;obtain⟨y,hy⟩:∃y,V[i]?=some y:=⟨_,zG (by have:=hVl.out;omega)⟩;have q1:=hOHr.out.cellAt rfl (wCells_at ((addTo_at st V i hVl.out hsl).trans hx));have q2:=hVr.out i y hy;obtain⟨qf,qO,qg⟩:=Own.storeAt' hOHr.out i (.int .u32 ((x+y).toNat:Int));rw[wCells_set,addTo_set st V i hVl.out hsl hx hy]at qO;have HQ:=zH (And.intro qO qg);have hxy:=zH (And.intro hx hy);have hiI:(i:Int) < 8:=by omega
  clear hx hy qO qg;go_upto_region 36 with fail
  have y0:(0:Int)<=(i:Int):=by omega
  refine wp_quiet_tail_lit 10 (by kernel_rfl) (by kernel_rfl) ?_;simp only[List.take_succ_cons,List.take_zero,List.drop_succ_cons,List.drop_zero];repeat(quiet_step (fail))
  refine wpQuiet_nil ?_;intro _ hw';obtain⟨nq,hw''⟩:=hw';subst hw'';go_wp2;rw[w_add];have hg8o:=hg8b.out;have hO':=(hor.out.drewN nq).setNe (k:=i) (u:=.int .u32 ((x+y).toNat:Int)) (show g8 < b2 by omega);have hK':=(hOKr.out.drewN nq).setNe (k:=i) (u:=.int .u32 ((x+y).toNat:Int)) (show g8 < b1 by omega);have hB':=below_set (k:=i) (u:=.int .u32 ((x+y).toNat:Int)) (below_drewN hBWr.out nq) (show w.heap.size<=g8 by omega);have hVn:Hid (∀(j:Nat) (z:W32),V[j]?=some z->((wr.drewN nq).setCell ⟨g8,i,none⟩ (.int .u32 ((x+y).toNat:Int))).cell? ⟨gv,j,none⟩=some (.int .u32 (z.toNat:Int))):=fun j z hz=>by
   rw[World.cell?_setCell_other _ _ _ _ (by have:=hg8v.out.1;simp;try omega)];exact hVr.out j z hz
  clear hg8o;go_roundg (gk - 1)
  case measure=>have:=hig8.out;omega
  case rel=>exact⟨i+1,by go_num,by omega,by have:=hig8.out;unfold Hid;omega,hVn,hO',hK',HQ.out.1 nq,hB'⟩
 obtain rfl:i=8:=by omega
 go_wp2;exact HEX.out _ _ _ _ _ _ _ _ _ _ _ _ _ _ _ _ hor hOKr hOHr hBWr
end Go.Proofs.YtnkihlpmmfeioaaGreatDoor
