/- Part of the proof that laws.FnDVerifies answers true: A95,A96,A97 -/
import Derived.Test.YtnkihlpmmfeioaaGreatDoorZ30
import Derived.Test.YtnkihlpmmfeioaaGreatDoorZ37
set_option linter.unusedVariables false
set_option linter.unusedSimpArgs false
set_option maxRecDepth 1000000
set_option maxHeartbeats 16000000
namespace Go.Proofs.YtnkihlpmmfeioaaGreatDoor
open Go.RowKit
theorem results_cell{fn:Func}{t:Tmp}{e:TypeId}(h:fn.results=#[.cell t e])(tmps:Array Value)(w:World)(g:Nat){cs:Array Value}(ht:tmps.getD t undef=.pointer (some ⟨g,0,none⟩))
  (hb:Blk w g cs e)(hl:(loadVar e ⟨g,0,none⟩).run Tryz.prog w=.ok (.agg cs) w) :
  (results fn tmps).run Tryz.prog w=.ok (.agg cs) w:=by
 simp only[Array.getD_eq_getD_getElem?]at ht;simp[results,h,ht,asAddr,hl]
abbrev fin6(W:World)(r:Nat)(d i:ByteArray)(hk:Value)(t x c:Int):World :=
 (((((W.setCell ⟨r,0,none⟩ (.string d)).setCell ⟨r,1,none⟩ (.string i)).setCell ⟨r,2,none⟩ hk).setCell ⟨r,3,none⟩ (.int .i64 t)).setCell ⟨r,4,none⟩ (.int .i64 x)).setCell ⟨r,5,none⟩ (.int .i64 c)
theorem ret6{W:World}{r:Nat}{d i:ByteArray}{hk:Value}{t x c:Int}(h:Blk W r #[.string ⟨#[]⟩,.string ⟨#[]⟩,.slice none 0 0,.int .i64 0,.int .i64 0,.int .i64 0] 47):Blk (fin6 W r d i hk t x c) r #[.string d,.string i,hk,.int .i64 t,.int .i64 x,.int .i64 c] 47 :=
 ((((((h.set_ 0 _).set_ 1 _).set_ 2 _).set_ 3 _).set_ 4 _).set_ 5 _).to (by simp)
structure SZ(w0:World)(fv rv:Value)(fields:List (List UInt8))(recs:List Rec)(body field:List UInt8):Prop where
 row:RdS w0 fv fields
 rcs:RdR w0 rv recs
 fn:fields.length<=20000
 fl1:allLe 20000 fields
 bl:body.length<=20000000
 fl:field.length<=20000
 rl:∀r∈recs,allLe 100000000 r.tx
def JudP(w0 w':World)(e:Ending)(c:Int)(T:List Pair):Prop :=
 ∃(d i:ByteArray) (hk:Value) (ks:List (List UInt8)) (tn xn:Int),e=.returned (.agg #[.string d,.string i,hk,.int .i64 tn,.int .i64 xn,.int .i64 c])/\RdS w' hk ks/\(∀a n cp,hk=.slice (some a) n cp->w0.heap.size<=a.block) /\
  (c=0->d=B (domOf T)/\i=B (identOf T)/\ks=keysOf T/\tn=(timeOf [116] T).getD 0/\xn=(timeOf [120] T).getD 0)/\Below w0.heap.size w0 w'
theorem JudP.of{w0 W:World}{r:Nat}{d i:ByteArray}{A:Option Addr}{n cp:Nat}{ks:List (List UInt8)}{tn xn c:Int}{T:List Pair}(hb:Below w0.heap.size w0 W)(hr:w0.heap.size<=r)(hk:RdS W (.slice A n cp) ks/\∀a,A=some a->¬a.block=r/\w0.heap.size<=a.block)
  (h:c=0->d=B (domOf T)/\i=B (identOf T)/\ks=keysOf T/\tn=(timeOf [116] T).getD 0/\xn=(timeOf [120] T).getD 0) :
  JudP w0 (fin6 W r d i (.slice A n cp) tn xn c) (.returned (.agg #[.string d,.string i,(.slice A n cp),.int .i64 tn,.int .i64 xn,.int .i64 c])) c T:=by
 have hB:Below w0.heap.size w0 (fin6 W r d i (.slice A n cp) tn xn c):=by
  have h0:=hb.size;refine belowB_set (belowB_set (belowB_set (belowB_set (belowB_set (belowB_set hb hr h0) hr ?_) hr ?_) hr ?_) hr ?_) hr ?_ <;> (repeat rw[World.size_setCell]) <;> exact h0
 have hG:Gr (fun k=>k=r) W (fin6 W r d i (.slice A n cp) tn xn c):=by
  have g1:∀(V:World) (k:Nat) (u:Value),Gr (fun k=>k=r) V (V.setCell ⟨r,k,none⟩ u):=fun V k u=>(Gr.of_grown (grown_set V r k u)).mono fun j _ q=>by injection q with q;exact q.symm
  exact(((((g1 _ _ _).trans (g1 _ _ _)).trans (g1 _ _ _)).trans (g1 _ _ _)).trans (g1 _ _ _)).trans (g1 _ _ _)
 exact⟨d,i,_,ks,tn,xn,rfl,hk.1.gr hG fun a q=>(hk.2 a q).1,fun a n c q=>(hk.2 a (by injection q)).2,h,hB⟩
theorem RdB.str{w:World}{v:Value}{l:List UInt8}(h:RdB w v l)(hp:0 < l.length):(convert 33 9 v).run Tryz.prog w=.ok (.string (B l)) w:=by
 obtain⟨A,c,rfl,_,hA⟩:=h;obtain⟨g,off,rfl,h5⟩:=hA hp;have:=run_convert_bytes_arg (P:=Tryz.prog) w 33 5 Tryz.underlying33 Tryz.underlying5 g off l.length c (l.map fun c=>(c.toNat:Int)) (by simp) (fun i hi=>by
   rw[h5 i l[i] (zG hi)];simp[byteV,List.getElem?_map,zG hi,List.getD_eq_getElem?_getD]) 9 Tryz.underlying9
 rw[this,strOf_B]
theorem u41(F:Nat->Value)(ct:Code)(hct:ct=tlS B45 41)(R:Ending->World->Prop)(w0 w:World){fv rv:Value}{fields:List (List UInt8)}{recs:List Rec}{body field:List UInt8}{now:Int}{r v:Nat}{T:List Pair}(hZ:Hid (SZ w0 fv rv fields recs body field))(hb:Below w0.heap.size w0 w)(hrl:w0.heap.size<=r)(hvl:w0.heap.size<=v)(hne:¬r=v)(hr:Hid (Blk w r #[.string ⟨#[]⟩,.string ⟨#[]⟩,.slice none 0 0,.int .i64 0,.int .i64 0,.int .i64 0] 47))(hT:Hid (∀t,(valOf t T).length<=20000))(h0:F 0=fv)(h1:F 1=.string (B body))(h2:F 2=.string (B field))(h3:F 3=rv)(h4:F 4=.int .i64 now)(h10:F 10=.pointer (some ⟨r,0,none⟩))(h11:F 11=.pointer (some ⟨v,0,none⟩))
  {kk cP:Nat}{bv:Value}{K:Key}{AP:Option Addr}(pk:List (List UInt8)){fa sg:List UInt8}{tn xn:Int}(htn:Hid (tn=(timeOf [116] T).getD 0))(hxn:Hid (xn=(timeOf [120] T).getD 0)){AK:Option Addr}{cK:Nat}(hkey:Hid (RdS w (.slice AK (keysOf T).length cK) (keysOf T)))(hak:Hid (∀a,AK=some a->w0.heap.size<=a.block/\a.block < w.heap.size/\a.block≠r/\a.block≠v))(h44:F 44=.pointer (some ⟨kk,0,none⟩))(h51:F 51=.string (B fa))(h62:F 62=.string (B sg))(h64:F 64=.string ⟨#[]⟩)(h65:F 65=.slice AP pk.length cP)(hpk:Hid (RdS w (.slice AP pk.length cP) pk))(hpl:Hid (allLe 20000 pk))(hkc:Hid (w.cell? ⟨kk,1,none⟩=some bv))(hkb:Hid (RdB w bv K.bytes))(hkl:0 < K.bytes.length/\K.bytes.length<=536870912){L:List UInt8}(hL:Hid (pk.flatMap (fldW fa)=L))(hLl:L.length<=500000000)(hv:Hid (Blk w v #[.string (B (domOf T)),.string (B (identOf T)),(.slice AK (keysOf T).length cK),.int .i64 tn,.int .i64 xn,.int .i64 1] 47))(hR:∀e w',JudP w0 w' e (if sg=sha (K.bytes++sha (L++without (fieldOf fa (emptied field))))then 0 else 1) T->R e w') :
  Code.wp Tryz.prog ct (bodyPost Tryz.prog Tryz.f45 R) ⟨frS 398 F,[]⟩ w:=by
 subst hct;conv=>arg 2;whnf
 rw[fr398,h0,h1,h2,h3,h4,h10,h11,h44,h51,h62,h64,h65];have HR:=zH hR;clear hR;obtain⟨_,_,hm1,hmc,hml,hmA⟩:=hpk.out;injection hm1 with hm1 _ hm3
 subst hm1 hm3;have HMA:=zH hmA;clear hmA;go_wp2;go_loopg [64,66] pk.length (fun gk a v w'=>∃(k:Nat) (l:List UInt8),Hid (k+gk=pk.length)/\a=.string (B l)/\v=.int .i64 k/\Hid (l++(pk.drop k).flatMap (fldW fa)=L)/\Hid (Below w.heap.size w w'))
 case atStart=>exact⟨0,[],Nat.zero_add _,rfl,rfl,hL,zB _ _⟩
 obtain⟨k,l,hk,rfl,rfl,hp,hB⟩:=hrel;have hk':k<=pk.length:=by have:=hk.out;omega
 by_cases hlt:k < pk.length
 ·obtain⟨gM,oM,rfl,hmcell⟩:=HMA.out (by omega)
  have hc0:=hmcell k pk[k] (zG hlt);have hck:=(hB.out.cell (cell_lt hc0)).trans hc0;have hxl:pk[k].length<=20000:=hpl.out _ (List.getElem_mem hlt);rw[List.drop_eq_getElem_cons hlt,List.flatMap_cons]at hp;obtain⟨x,hx⟩:∃x:List UInt8,Hid (pk[k]=x):=⟨pk[k],zH rfl⟩;rw[hx.out]at hck hxl hp;clear hmcell hc0;by_cases hd:x=[]
  ·subst hd
   rw[fldW_nil,List.nil_append]at hp;have e1:(!(B []).toList.isEmpty)=false:=by simp[toList_B]
   have e2:(B []).toList.isEmpty=true:=by simp[toList_B]
   go_wp2;go_roundg (gk - 1)
   case measure=>have:=hk.out;omega
   case rel=>exact⟨k+1,l,by have:=hk.out;unfold Hid;omega,rfl,by go_num,hp,hB⟩
  rw[fldW_ne _ _ hd,<-List.append_assoc]at hp;have e1:(!(B x).toList.isEmpty)=true:=by simp[toList_B,hd]
  have e2:(B x).toList.isEmpty=false:=by simp[toList_B,hd]
  obtain⟨m,hm⟩:∃m,Hid (fieldOf fa x=m):=⟨_,rfl⟩;rw[hm.out]at hp;have hap:=Bap l m;have hll:=congrArg List.length hp.out;rw[zA,zA]at hll;have s1:(B l).size<=500000000:=by rw[size_B];omega
  have s2:(B m).size<=500000000:=by rw[size_B];omega
  clear hd hll;go_wp2_with (go_at_call 80;refine(c80 (B fa) (B x) _ (by rw[size_B];omega)).mono ?_;rintro e w2⟨rfl,hb2⟩;rw[L_B,L_B,hm.out];have hB2:=hB.out.trans (hb2.mono hB.out.size);have hck2:=(hb2.cell (cell_lt hck)).trans hck);go_roundg (gk - 1)
  case measure=>have:=hk.out;omega
  case rel=>exact⟨k+1,l++m,by have:=hk.out;unfold Hid;omega,rfl,by go_num,hp,hB2⟩
 rw[List.drop_eq_nil_of_le (by omega),List.flatMap_nil,List.append_nil]at hp;have hp1:=hp.out.symm;subst hp1;clear hp;obtain⟨ef,hef⟩:∃ef,Hid (emptied field=ef):=⟨_,rfl⟩;have hel:=emptied_le field;have hfl:=hZ.out.fl;rw[hef.out]at HR hel;obtain⟨cf,hcf⟩:∃cf,Hid (fieldOf fa ef=cf):=⟨_,rfl⟩;have hcl:=fieldOf_le' fa ef;rw[hcf.out]at HR hcl;obtain⟨m,hm⟩:∃m,Hid (without cf=m):=⟨_,rfl⟩;have hml2:=without_le cf;rw[hm.out]at HR hml2;have hap:=Bap L m;have s1:(B L).size<=500000000:=by rw[size_B];omega
 have s2:(B m).size<=500000000:=by rw[size_B];omega
 have hLm:(L++m).length<=600000000:=by rw[zA];omega
 go_upto_region 86 with(first
  |(go_at_call 82;refine(c82 (B field) _ (by rw[size_B];omega)).mono ?_;rintro e w2⟨rfl,hn⟩;rw[L_B,hef.out];have hb2:=below_of_drewN hn;clear hn)
  |(go_at_call 80;refine(c80 (B fa) (B ef) _ (by rw[size_B];omega)).mono ?_;rintro e w3⟨rfl,hb3⟩;rw[L_B,L_B,hcf.out])
  |(go_at_call 81;refine(c81 (B cf) _ (by rw[size_B];omega)).mono ?_;rintro e w4⟨rfl,hn⟩;rw[L_B,hm.out];have hb4:=below_of_drewN hn;clear hn))
 have hB2:Below w.heap.size w w4:=hB.out.trans ((hb2.trans ((hb3.trans (hb4.mono hb3.size)).mono hb2.size)).mono hB.out.size);have hbz:=hb.trans (hB2.mono hb.size);have hr4:Hid (Blk w4 r #[.string ⟨#[]⟩,.string ⟨#[]⟩,.slice none 0 0,.int .i64 0,.int .i64 0,.int .i64 0] 47):=hr.out.below hB2 hr.out.lt;have hv4:Hid (Blk w4 v #[.string (B (domOf T)),.string (B (identOf T)),(.slice AK (keysOf T).length cK),.int .i64 tn,.int .i64 xn,.int .i64 1] 47):=hv.out.below hB2 hv.out.lt;have kc1:=cell_regrown ((hB2.cell (cell_lt hkc.out)).trans hkc.out);have kcv:∀d os,(convert 33 9 bv).run Tryz.prog (Go.Sort.grow (redrawn w4 d) os)=.ok (.string (B K.bytes)) (Go.Sort.grow (redrawn w4 d) os):=fun d os=>((hkb.out.below' hB2).below' (below_regrown w4 d os)).str hkl.1
 have hkd:=hkey.out.below hB2;have hcmp:=beq_str (B sg) (B (sha (K.bytes++sha (L++m))));rw[L_B,L_B]at hcmp;by_cases hq:sg=sha (K.bytes++sha (L++m))
 ·rw[if_pos hq]at HR
  rw[(zE hq:(sg == sha (K.bytes++sha (L++m)))=true)]at hcmp;clear hq;refine wp_region_quiet_below (by kernel_rfl) (by kernel_rfl) ?_;repeat(quiet_step (first
   |(go_at_call 77;exact Calls.regrown_of (c77p (L++m) _ (by rw[size_B];omega)))
   |(go_at_call 83;exact Calls.regrown_of (c83 K.bytes (sha (L++m)) _ (by omega) (by rw[sha_len];decide)))))
  refine wpQuiet_nil ?_;intro _ hw';obtain⟨⟨dq,osq⟩,hw''⟩:=hw';subst hw'';have hB3:=below_regrown w4 dq osq;obtain⟨U,hU⟩:∃U,U=Go.Sort.grow (redrawn w4 dq) osq:=⟨_,rfl⟩;rw[<-hU]at hB3 ⊢;clear hU kc1 kcv;have hbU:=hbz.trans (hB3.mono hbz.size);have hrU:Hid (Blk U r #[.string ⟨#[]⟩,.string ⟨#[]⟩,.slice none 0 0,.int .i64 0,.int .i64 0,.int .i64 0] 47):=hr4.out.below hB3 hr4.out.lt;have hvU:Hid (Blk U v #[.string (B (domOf T)),.string (B (identOf T)),(.slice AK (keysOf T).length cK),.int .i64 tn,.int .i64 xn,.int .i64 1] 47):=hv4.out.below hB3 hv4.out.lt;have hkU:=hkd.below hB3;have p0:=hrU.out.cell 0;have f0:=hrU.out.frozen 0;have q0:=hvU.out.cell 0;have g0:=hvU.out.frozen 0;have p1:=hrU.out.cell 1;have f1:=hrU.out.frozen 1;have q1:=hvU.out.cell 1;have g1:=hvU.out.frozen 1;have p2:=hrU.out.cell 2;have f2:=hrU.out.frozen 2;have q2:=hvU.out.cell 2;have g2:=hvU.out.frozen 2;have p3:=hrU.out.cell 3;have f3:=hrU.out.frozen 3;have q3:=hvU.out.cell 3;have g3:=hvU.out.frozen 3;have p4:=hrU.out.cell 4;have f4:=hrU.out.frozen 4;have q4:=hvU.out.cell 4;have g4:=hvU.out.frozen 4;have p5:=hrU.out.cell 5;have f5:=hrU.out.frozen 5;have q5:=hvU.out.cell 5;have g5:=hvU.out.frozen 5;go_upto_region 88 with fail
  have hvV:Hid (Blk (U.setCell ⟨v,5,none⟩ (.int .i64 0)) v #[.string (B (domOf T)),.string (B (identOf T)),(.slice AK (keysOf T).length cK),.int .i64 tn,.int .i64 xn,.int .i64 0] 47):=(hvU.out.set_ 5 _).to (by simp);have hrV:Hid (Blk (U.setCell ⟨v,5,none⟩ (.int .i64 0)) r #[.string ⟨#[]⟩,.string ⟨#[]⟩,.slice none 0 0,.int .i64 0,.int .i64 0,.int .i64 0] 47):=hrU.out.setNe hne;have hbV:=belowB_set (u:=.int .i64 0) (k:=5) hbU hvl hbU.size;have hkV:=hkU.gr (Gr.of_grown (grown_set U v 5 (.int .i64 0))) (fun a q h=>(hak.out a q).2.2.2 (by injection h with h;exact h.symm));obtain⟨V,hV⟩:∃V,V=U.setCell ⟨v,5,none⟩ (.int .i64 0):=⟨_,rfl⟩;rw[<-hV]at hvV hrV hbV hkV ⊢;clear hV p0 f0 q0 g0 p1 f1 q1 g1 p2 f2 q2 g2 p3 f3 q3 g3 p4 f4 q4 g4 p5 f5 q5 g5;have p0:=hrV.out.cell 0;have f0:=hrV.out.frozen 0;have q0:=hvV.out.cell 0;have g0:=hvV.out.frozen 0;have p1:=hrV.out.cell 1;have f1:=hrV.out.frozen 1;have q1:=hvV.out.cell 1;have g1:=hvV.out.frozen 1;have p2:=hrV.out.cell 2;have f2:=hrV.out.frozen 2;have q2:=hvV.out.cell 2;have g2:=hvV.out.frozen 2;have p3:=hrV.out.cell 3;have f3:=hrV.out.frozen 3;have q3:=hvV.out.cell 3;have g3:=hvV.out.frozen 3;have p4:=hrV.out.cell 4;have f4:=hrV.out.frozen 4;have q4:=hvV.out.cell 4;have g4:=hvV.out.frozen 4;have p5:=hrV.out.cell 5;have f5:=hrV.out.frozen 5;have q5:=hvV.out.cell 5;have g5:=hvV.out.frozen 5;go_wp2;refine bodyPost_ret (results_cell rfl _ _ _ (by rfl) (ret6 hrV.out) (run_loadVar_row _ _ _ _ _ _ _ (ret6 hrV.out) Tryz.underlying47 rfl (by kernel_rfl))) rfl ?_;exact HR.out _ _ (JudP.of hbV hrl ⟨hkV,fun a q=>⟨(hak.out a q).2.2.1,(hak.out a q).1⟩⟩ (fun _=>⟨rfl,rfl,rfl,htn.out,hxn.out⟩))
 rw[if_neg hq]at HR;rw[zF hq]at hcmp;clear hq;refine wp_region_quiet_below (by kernel_rfl) (by kernel_rfl) ?_;repeat(quiet_step (first
  |(go_at_call 77;exact Calls.regrown_of (c77p (L++m) _ (by rw[size_B];omega)))
  |(go_at_call 83;exact Calls.regrown_of (c83 K.bytes (sha (L++m)) _ (by omega) (by rw[sha_len];decide)))))
 refine wpQuiet_nil ?_;intro _ hw';obtain⟨⟨dq,osq⟩,hw''⟩:=hw';subst hw'';have hB3:=below_regrown w4 dq osq;obtain⟨U,hU⟩:∃U,U=Go.Sort.grow (redrawn w4 dq) osq:=⟨_,rfl⟩;rw[<-hU]at hB3 ⊢;clear hU kc1 kcv;have hbU:=hbz.trans (hB3.mono hbz.size);have hrU:Hid (Blk U r #[.string ⟨#[]⟩,.string ⟨#[]⟩,.slice none 0 0,.int .i64 0,.int .i64 0,.int .i64 0] 47):=hr4.out.below hB3 hr4.out.lt;have hvU:Hid (Blk U v #[.string (B (domOf T)),.string (B (identOf T)),(.slice AK (keysOf T).length cK),.int .i64 tn,.int .i64 xn,.int .i64 1] 47):=hv4.out.below hB3 hv4.out.lt;have hkU:=hkd.below hB3;have p0:=hrU.out.cell 0;have f0:=hrU.out.frozen 0;have q0:=hvU.out.cell 0;have g0:=hvU.out.frozen 0;have p1:=hrU.out.cell 1;have f1:=hrU.out.frozen 1;have q1:=hvU.out.cell 1;have g1:=hvU.out.frozen 1;have p2:=hrU.out.cell 2;have f2:=hrU.out.frozen 2;have q2:=hvU.out.cell 2;have g2:=hvU.out.frozen 2;have p3:=hrU.out.cell 3;have f3:=hrU.out.frozen 3;have q3:=hvU.out.cell 3;have g3:=hvU.out.frozen 3;have p4:=hrU.out.cell 4;have f4:=hrU.out.frozen 4;have q4:=hvU.out.cell 4;have g4:=hvU.out.frozen 4;have p5:=hrU.out.cell 5;have f5:=hrU.out.frozen 5;have q5:=hvU.out.cell 5;have g5:=hvU.out.frozen 5;go_wp2;refine bodyPost_ret (results_cell rfl _ _ _ (by rfl) (ret6 hrU.out) (run_loadVar_row _ _ _ _ _ _ _ (ret6 hrU.out) Tryz.underlying47 rfl (by kernel_rfl))) rfl ?_;exact HR.out _ _ (JudP.of hbU hrl ⟨hkU,fun a q=>⟨(hak.out a q).2.2.1,(hak.out a q).1⟩⟩ (fun q=>by cases q))
theorem c78b(fb s:List UInt8)(w:World)(hs:(B s).size<=1073741824):Calls Tryz.prog 78 #[.string (B fb),.string (B s)] w fun e w'=>e=.returned (.string (B (bodyOf fb s)))/\Below w.heap.size w w':=by
 unfold bodyOf;by_cases h:fb=simpleL
 ·rw[if_pos h]
  have:=c78s (B fb) (B s) w (by rw[L_B];exact h) hs;rw[L_B]at this;exact this
 rw[if_neg h];have:=c78r (B fb) (B s) w (by rw[L_B];exact h) hs;rw[L_B]at this;exact this
theorem bodyOf_le(fb s:List UInt8):(bodyOf fb s).length<=4*s.length+2:=by
 have h1:=bodyTy_le 360 s;have h2:=bodyTy_le 365 s;unfold bodyOf;split
 ·exact h1
 exact h2
theorem c33q(v:Value)(xs:List Pair)(t:List UInt8)(d:ByteArray)(hd:d=B t)(w:World)(hv:RdP w v xs) :
  Calls Tryz.prog 33 #[v,.string d] w fun e w'=>e=.returned (.tuple #[.string (B (valOf t xs)),.bool (hasTag t xs)])/\w=w':=by
 subst hd;have:=c33 v xs (B t) w hv;rw[L_B]at this;exact this
theorem c50p(l:List UInt8)(w:World)(hs:(B l).size<=140737488355328):Calls Tryz.prog 50 #[.string (B l)] w fun e w'=>e=.returned (.string (B (strip l)))/\Below w.heap.size w w':=by
 have:=c50 (B l) w hs;rw[L_B]at this;exact this
theorem all_le{fields:List (List UInt8)}{T:List Pair}(hf:allLe 20000 fields)(hT:∀t,(valOf t T).length<=20000)(form:List UInt8):((pickedN fields [] (keysOf T)).flatMap (fldW form)).length<=500000000:=by
 have k1:(keysOf T).length<=20001:=by
  have h1:=split_len 58 (strip (valOf [104] T));have h2:=strip_le (valOf [104] T);have h3:=hT [104];show(split 58 (strip (valOf [104] T))).length<=_;omega
 have h1:=flat_le (f:=fldW form) (m:=20003) (pickedN fields [] (keysOf T)) (fun x hx=>?_)
 ·rw[pickedN_len]at h1
  have:(keysOf T).length*20003<=20001*20003:=Nat.mul_le_mul_right _ k1;omega
 have h2:=pickedN_all (P:=fun l=>l.length<=20000) (Nat.zero_le _) hf _ _ x hx;unfold fldW;split
 ·exact Nat.zero_le _
 have:=fieldOf_le' form x;omega
theorem keys_le{T:List Pair}(hT:∀t,(valOf t T).length<=20000):(keysOf T).length<=20001/\allLe 20000 (keysOf T):=by
 have h1:=split_len 58 (strip (valOf [104] T));have h2:=strip_le (valOf [104] T);have h3:=hT [104];refine⟨?_,fun x hx=>?_⟩
 ·show(split 58 (strip (valOf [104] T))).length<=_;omega
 have:=split_allLe 58 (strip (valOf [104] T)) x hx;omega
theorem b45_37_41(ct:Code)(h:ct=tlS B45 41):tlS B45 37=joinS 4 (tlS B45 37) ct:=by subst h;kernel_rfl
theorem u37(F:Nat->Value)(ct:Code)(hct:ct=tlS B45 37)(R:Ending->World->Prop)(w0 w:World){fv rv:Value}{fields:List (List UInt8)}{recs:List Rec}{body field:List UInt8}{now:Int}{r v:Nat}{T:List Pair}(hZ:Hid (SZ w0 fv rv fields recs body field))(hb:Below w0.heap.size w0 w)(hrl:w0.heap.size<=r)(hvl:w0.heap.size<=v)(hne:¬r=v)(hr:Hid (Blk w r #[.string ⟨#[]⟩,.string ⟨#[]⟩,.slice none 0 0,.int .i64 0,.int .i64 0,.int .i64 0] 47))(hT:Hid (∀t,(valOf t T).length<=20000))(h0:F 0=fv)(h1:F 1=.string (B body))(h2:F 2=.string (B field))(h3:F 3=rv)(h4:F 4=.int .i64 now)(h10:F 10=.pointer (some ⟨r,0,none⟩))(h11:F 11=.pointer (some ⟨v,0,none⟩))
  {kk:Nat}{bv:Value}{K:Key}{fa fb wt sg:List UInt8}{tn xn:Int}(htn:Hid (tn=(timeOf [116] T).getD 0))(hxn:Hid (xn=(timeOf [120] T).getD 0)){AK:Option Addr}{cK:Nat}(hkey:Hid (RdS w (.slice AK (keysOf T).length cK) (keysOf T)))(hak:Hid (∀a,AK=some a->w0.heap.size<=a.block/\a.block < w.heap.size/\a.block≠r/\a.block≠v))(h44:F 44=.pointer (some ⟨kk,0,none⟩))(h51:F 51=.string (B fa))(h52:F 52=.string (B fb))(h60:F 60=.string (B wt))(h62:F 62=.string (B sg))(hkc:Hid (w.cell? ⟨kk,1,none⟩=some bv))(hkb:Hid (RdB w bv K.bytes))(hkl:0 < K.bytes.length/\K.bytes.length<=536870912)(hkv:¬kk=v)(hkb2:∀g o n c,bv=.slice (some ⟨g,o,none⟩) n c->¬g=v)(hv:Hid (Blk w v #[.string (B (domOf T)),.string (B (identOf T)),(.slice AK (keysOf T).length cK),.int .i64 tn,.int .i64 xn,.int .i64 2] 47))(hR:∀e w',JudP w0 w' e (if wt=sha (bodyOf fb body)then(if sg=sha (K.bytes++sha ((pickedN fields [] (keysOf T)).flatMap (fldW fa)++without (fieldOf fa (emptied field))))then 0 else 1)else 1) T->R e w') :
  Code.wp Tryz.prog ct (bodyPost Tryz.prog Tryz.f45 R) ⟨frS 398 F,[]⟩ w:=by
 obtain⟨ct2,hct2⟩:∃ct2,Hid (ct2=tlS B45 41):=⟨_,rfl⟩;subst hct;rw[b45_37_41 ct2 hct2.out];conv=>arg 2;whnf
 simp only[joinS];rw[fr398,h0,h1,h2,h3,h4,h10,h11,h44,h51,h52,h60,h62];have HR:=zH hR;clear hR;have q5:=hv.out.cell 5;have g5:=hv.out.frozen 5;go_upto_region 76 with fail
 have hvV:Hid (Blk (w.setCell ⟨v,5,none⟩ (.int .i64 1)) v #[.string (B (domOf T)),.string (B (identOf T)),(.slice AK (keysOf T).length cK),.int .i64 tn,.int .i64 xn,.int .i64 1] 47):=(hv.out.set_ 5 _).to (by simp);have hrV:Hid (Blk (w.setCell ⟨v,5,none⟩ (.int .i64 1)) r #[.string ⟨#[]⟩,.string ⟨#[]⟩,.slice none 0 0,.int .i64 0,.int .i64 0,.int .i64 0] 47):=hr.out.setNe hne;have hbV:=belowB_set (u:=.int .i64 1) (k:=5) hb hvl hb.size;have hGV:Gr (fun k=>k=v) w (w.setCell ⟨v,5,none⟩ (.int .i64 1)):=(Gr.of_grown (grown_set w v 5 (.int .i64 1))).mono fun j _ q=>by injection q with q;exact q.symm
 have hkV:=hkey.out.gr hGV (fun a q=>(hak.out a q).2.2.2);have hszV:(w.setCell ⟨v,5,none⟩ (.int .i64 1)).heap.size=w.heap.size:=World.size_setCell ..;have hkcV:(w.setCell ⟨v,5,none⟩ (.int .i64 1)).cell? ⟨kk,1,none⟩=some bv:=(World.cell?_of_block (a:=⟨kk,1,none⟩) (hGV.block kk (cell_lt hkc.out) hkv)).trans hkc.out;have hkbV:=hkb.out.setNe (k:=5) (u:=.int .i64 1) hkb2;obtain⟨V,hV⟩:∃V,V=w.setCell ⟨v,5,none⟩ (.int .i64 1):=⟨_,rfl⟩;rw[<-hV]at hvV hrV hbV hkV hszV hkcV hkbV ⊢;clear hV q5 g5 hGV;have hbl:=hZ.out.bl;have hbo:=bodyOf_le fb body;obtain⟨bo,hbo2⟩:∃bo,Hid (bodyOf fb body=bo):=⟨_,rfl⟩;rw[hbo2.out]at HR hbo;have hcmp:=beq_str (B wt) (B (sha bo));rw[L_B,L_B]at hcmp;by_cases hq:wt=sha bo
 ·rw[if_pos hq]at HR
  rw[(zE hq:(wt == sha bo)=true)]at hcmp;clear hq;go_wp2_with (first
   |(go_at_call 78;refine(c78b fb body _ (by rw[size_B];omega)).mono ?_;rintro e w1⟨rfl,hb1⟩;rw[hbo2.out])
   |(go_at_call 77;refine(c77p bo _ (by rw[size_B];omega)).mono ?_;rintro e w2⟨rfl,hb2⟩;have hB2:=hb1.trans (hb2.mono hb1.size);have hv2:=hvV.out.below hB2 hvV.out.lt;have q2:=hv2.cell 2)
   |(go_at_call 79;refine(c79 fv (.slice AK (keysOf T).length cK) fields (keysOf T) _ (hZ.out.row.below (hbV.trans (hB2.mono hbV.size))) (hkV.below hB2) (by have:=hZ.out.fn;omega) (by have:=(keys_le hT.out).1;omega) (fun x hx=>zT (hZ.out.fl1 x hx) (by decide)) (fun x hx=>zT ((keys_le hT.out).2 x hx) (by decide))).mono ?_;rintro e w3⟨pv,rfl,ho3,hb3⟩;have hp3:=ho3.rdS (by rw[pickedN_len];have:=(keys_le hT.out).1;omega);have hp3':=zH hp3;obtain⟨AP,cP,rfl,_⟩:=hp3))
  have hB3:=hB2.trans (hb3.mono hB2.size);refine useF 398 _ (by kernel_rfl) ?_;exact u41 _ ct2 hct2.out R w0 w3 hZ (hbV.trans (hB3.mono hbV.size)) hrl hvl hne (zH (hrV.out.below hB3 hrV.out.lt)) hT rfl rfl rfl rfl rfl rfl rfl (pickedN fields [] (keysOf T)) htn hxn (zH (hkV.below hB3)) (zH (fun a q=>⟨(hak.out a q).1,zL (by rw[hszV];exact(hak.out a q).2.1) hB3.size,(hak.out a q).2.2⟩)) rfl rfl rfl rfl rfl hp3' (zH (fun x hx=>pickedN_all (P:=fun l=>l.length<=20000) (Nat.zero_le _) hZ.out.fl1 _ _ x hx)) (zH ((hB3.cell (cell_lt hkcV)).trans hkcV)) (zH (hkbV.below' hB3)) hkl rfl (all_le hZ.out.fl1 hT.out _) (zH (hvV.out.below hB3 hvV.out.lt)) HR.out
 rw[if_neg hq]at HR;rw[zF hq]at hcmp;clear hq;go_wp2_with (first
  |(go_at_call 78;refine(c78b fb body _ (by rw[size_B];omega)).mono ?_;rintro e w1⟨rfl,hb1⟩;rw[hbo2.out])
  |(go_at_call 77;refine(c77p bo _ (by rw[size_B];omega)).mono ?_;rintro e w2⟨rfl,hb2⟩;have hB2:=hb1.trans (hb2.mono hb1.size);have hr2:=zH (hrV.out.below hB2 hrV.out.lt);have hv2:=zH (hvV.out.below hB2 hvV.out.lt);have p0:=hr2.out.cell 0;have f0:=hr2.out.frozen 0;have q0:=hv2.out.cell 0;have g0:=hv2.out.frozen 0;have p1:=hr2.out.cell 1;have f1:=hr2.out.frozen 1;have q1:=hv2.out.cell 1;have g1:=hv2.out.frozen 1;have p2:=hr2.out.cell 2;have f2:=hr2.out.frozen 2;have q2:=hv2.out.cell 2;have g2:=hv2.out.frozen 2;have p3:=hr2.out.cell 3;have f3:=hr2.out.frozen 3;have q3:=hv2.out.cell 3;have g3:=hv2.out.frozen 3;have p4:=hr2.out.cell 4;have f4:=hr2.out.frozen 4;have q4:=hv2.out.cell 4;have g4:=hv2.out.frozen 4;have p5:=hr2.out.cell 5;have f5:=hr2.out.frozen 5;have q5:=hv2.out.cell 5;have g5:=hv2.out.frozen 5))
 refine bodyPost_ret (results_cell rfl _ _ _ (by rfl) (ret6 hr2.out) (run_loadVar_row _ _ _ _ _ _ _ (ret6 hr2.out) Tryz.underlying47 rfl (by kernel_rfl))) rfl ?_;exact HR.out _ _ (JudP.of (hbV.trans (hB2.mono hbV.size)) hrl ⟨(hkV.below hB2),fun a q=>⟨(hak.out a q).2.2.1,(hak.out a q).1⟩⟩ (fun q=>by cases q))
theorem b45_32_37(ct:Code)(h:ct=tlS B45 37):tlS B45 32=joinS 5 (tlS B45 32) ct:=by subst h;kernel_rfl
theorem u32(F:Nat->Value)(ct:Code)(hct:ct=tlS B45 32)(R:Ending->World->Prop)(w0 w:World){fv rv:Value}{fields:List (List UInt8)}{recs:List Rec}{body field:List UInt8}{now:Int}{r v:Nat}{T:List Pair}(hZ:Hid (SZ w0 fv rv fields recs body field))(hb:Below w0.heap.size w0 w)(hrl:w0.heap.size<=r)(hvl:w0.heap.size<=v)(hne:¬r=v)(hr:Hid (Blk w r #[.string ⟨#[]⟩,.string ⟨#[]⟩,.slice none 0 0,.int .i64 0,.int .i64 0,.int .i64 0] 47))(hT:Hid (∀t,(valOf t T).length<=20000))(h0:F 0=fv)(h1:F 1=.string (B body))(h2:F 2=.string (B field))(h3:F 3=rv)(h4:F 4=.int .i64 now)(h10:F 10=.pointer (some ⟨r,0,none⟩))(h11:F 11=.pointer (some ⟨v,0,none⟩))
  {kk:Nat}{bv:Value}{K:Key}{tn xn:Int}(htn:Hid (tn=(timeOf [116] T).getD 0))(hxn:Hid (xn=(timeOf [120] T).getD 0)){AK:Option Addr}{cK:Nat}(hkey:Hid (RdS w (.slice AK (keysOf T).length cK) (keysOf T)))(hak:Hid (∀a,AK=some a->w0.heap.size<=a.block/\a.block < w.heap.size/\a.block≠r/\a.block≠v)){bP:Nat}{tv:Value}(h15:F 15=tv)(hP:Hid (OwnP w bP tv T))(hPl:T.length<=1152921504606846976)(h44:F 44=.pointer (some ⟨kk,0,none⟩))(h51:F 51=.string (B (formA (valOf [99] T))))(h52:F 52=.string (B (formB (valOf [99] T))))(hkc:Hid (w.cell? ⟨kk,1,none⟩=some bv))(hkb:Hid (RdB w bv K.bytes))(hkl:0 < K.bytes.length/\K.bytes.length<=536870912)(hkv:¬kk=v)(hkb2:∀g o n c,bv=.slice (some ⟨g,o,none⟩) n c->¬g=v)(hv:Hid (Blk w v #[.string (B (domOf T)),.string (B (identOf T)),(.slice AK (keysOf T).length cK),.int .i64 tn,.int .i64 xn,.int .i64 2] 47))(hR:∀e w',JudP w0 w' e (judgeH fields body field T K) T->R e w') :
  Code.wp Tryz.prog ct (bodyPost Tryz.prog Tryz.f45 R) ⟨frS 398 F,[]⟩ w:=by
 obtain⟨ct2,hct2⟩:∃ct2,Hid (ct2=tlS B45 37):=⟨_,rfl⟩;subst hct;rw[b45_32_37 ct2 hct2.out];conv=>arg 2;whnf
 simp only[joinS];rw[fr398,h0,h1,h2,h3,h4,h10,h11,h15,h44,h51,h52];have HR:=zH hR;clear hR;have HRP:=zH (hP.out.rdP hPl);obtain⟨v1,hv1⟩:∃v1,Hid (valOf [98,104] T=v1):=⟨_,rfl⟩;obtain⟨v2,hv2⟩:∃v2,Hid (valOf [98] T=v2):=⟨_,rfl⟩;obtain⟨s1,hs1⟩:∃s1,Hid (strip v1=s1):=⟨_,rfl⟩;obtain⟨s2,hs2⟩:∃s2,Hid (strip v2=s2):=⟨_,rfl⟩;obtain⟨o1,hu1⟩:∃o1,Hid (unb64 s1=o1):=⟨_,rfl⟩;obtain⟨o2,hu2⟩:∃o2,Hid (unb64 s2=o2):=⟨_,rfl⟩;unfold judgeH at HR;rw[hv1.out,hv2.out,hs1.out,hs2.out,hu1.out,hu2.out]at HR;have l1:v1.length<=20000:=by rw[<-hv1.out];exact hT.out _
 have l2:v2.length<=20000:=by rw[<-hv2.out];exact hT.out _
 have l3:s1.length<=20000:=by rw[<-hs1.out];exact zT (strip_le _) l1
 have l4:s2.length<=20000:=by rw[<-hs2.out];exact zT (strip_le _) l2
 cases o1 with
 |none =>
  obtain⟨b2,hb2e⟩:∃b2,Hid (o2.isSome=b2):=⟨_,rfl⟩;go_wp2_with (first
   |(go_at_call_of 33 (Value.string ⟨#[98,104]⟩);refine(c33q tv T [98,104] _ rfl _ HRP.out).mono ?_;rintro e wx⟨rfl,rfl⟩;rw[hv1.out])
   |(go_at_call_of 33 (Value.string ⟨#[98]⟩);refine(c33q tv T [98] _ rfl _ HRP.out).mono ?_;rintro e wx⟨rfl,rfl⟩;rw[hv2.out])
   |(go_at_call_of 50 (Value.string (B v1));refine(c50p v1 _ (by rw[size_B];omega)).mono ?_;rintro e w1⟨rfl,hb1⟩;rw[hs1.out])
   |(go_at_call_of 50 (Value.string (B v2));refine(c50p v2 _ (by rw[size_B];omega)).mono ?_;rintro e w3⟨rfl,hb3⟩;rw[hs2.out])
   |(go_at_call_of 76 (Value.string (B s1));refine(c76p s1 _ (by rw[size_B];omega)).mono ?_;rintro e w2⟨rfl,hb2⟩;rw[hu1.out];have hB2:=hb1.trans (hb2.mono hb1.size))
   |(go_at_call_of 76 (Value.string (B s2));refine(c76p s2 _ (by rw[size_B];omega)).mono ?_;rintro e w4⟨rfl,hb4⟩;rw[hu2.out];have hB4:=hB2.trans ((hb3.trans (hb4.mono hb3.size)).mono hB2.size);have hr4:=zH (hr.out.below hB4 hr.out.lt);have hv4:=zH (hv.out.below hB4 hv.out.lt);have p0:=hr4.out.cell 0;have f0:=hr4.out.frozen 0;have q0:=hv4.out.cell 0;have g0:=hv4.out.frozen 0;have p1:=hr4.out.cell 1;have f1:=hr4.out.frozen 1;have q1:=hv4.out.cell 1;have g1:=hv4.out.frozen 1;have p2:=hr4.out.cell 2;have f2:=hr4.out.frozen 2;have q2:=hv4.out.cell 2;have g2:=hv4.out.frozen 2;have p3:=hr4.out.cell 3;have f3:=hr4.out.frozen 3;have q3:=hv4.out.cell 3;have g3:=hv4.out.frozen 3;have p4:=hr4.out.cell 4;have f4:=hr4.out.frozen 4;have q4:=hv4.out.cell 4;have g4:=hv4.out.frozen 4;have p5:=hr4.out.cell 5;have f5:=hr4.out.frozen 5;have q5:=hv4.out.cell 5;have g5:=hv4.out.frozen 5))
  refine bodyPost_ret (results_cell rfl _ _ _ (by rfl) (ret6 hr4.out) (run_loadVar_row _ _ _ _ _ _ _ (ret6 hr4.out) Tryz.underlying47 rfl (by kernel_rfl))) rfl ?_;exact HR.out _ _ (JudP.of (hb.trans (hB4.mono hb.size)) hrl ⟨(hkey.out.below hB4),fun a q=>⟨(hak.out a q).2.2.1,(hak.out a q).1⟩⟩ (fun q=>by cases q))
 |some wt =>
  cases o2 with
  |none =>
   go_wp2_with (first
    |(go_at_call_of 33 (Value.string ⟨#[98,104]⟩);refine(c33q tv T [98,104] _ rfl _ HRP.out).mono ?_;rintro e wx⟨rfl,rfl⟩;rw[hv1.out])
    |(go_at_call_of 33 (Value.string ⟨#[98]⟩);refine(c33q tv T [98] _ rfl _ HRP.out).mono ?_;rintro e wx⟨rfl,rfl⟩;rw[hv2.out])
    |(go_at_call_of 50 (Value.string (B v1));refine(c50p v1 _ (by rw[size_B];omega)).mono ?_;rintro e w1⟨rfl,hb1⟩;rw[hs1.out])
    |(go_at_call_of 50 (Value.string (B v2));refine(c50p v2 _ (by rw[size_B];omega)).mono ?_;rintro e w3⟨rfl,hb3⟩;rw[hs2.out])
    |(go_at_call_of 76 (Value.string (B s1));refine(c76p s1 _ (by rw[size_B];omega)).mono ?_;rintro e w2⟨rfl,hb2⟩;rw[hu1.out];have hB2:=hb1.trans (hb2.mono hb1.size))
    |(go_at_call_of 76 (Value.string (B s2));refine(c76p s2 _ (by rw[size_B];omega)).mono ?_;rintro e w4⟨rfl,hb4⟩;rw[hu2.out];have hB4:=hB2.trans ((hb3.trans (hb4.mono hb3.size)).mono hB2.size);have hr4:=zH (hr.out.below hB4 hr.out.lt);have hv4:=zH (hv.out.below hB4 hv.out.lt);have p0:=hr4.out.cell 0;have f0:=hr4.out.frozen 0;have q0:=hv4.out.cell 0;have g0:=hv4.out.frozen 0;have p1:=hr4.out.cell 1;have f1:=hr4.out.frozen 1;have q1:=hv4.out.cell 1;have g1:=hv4.out.frozen 1;have p2:=hr4.out.cell 2;have f2:=hr4.out.frozen 2;have q2:=hv4.out.cell 2;have g2:=hv4.out.frozen 2;have p3:=hr4.out.cell 3;have f3:=hr4.out.frozen 3;have q3:=hv4.out.cell 3;have g3:=hv4.out.frozen 3;have p4:=hr4.out.cell 4;have f4:=hr4.out.frozen 4;have q4:=hv4.out.cell 4;have g4:=hv4.out.frozen 4;have p5:=hr4.out.cell 5;have f5:=hr4.out.frozen 5;have q5:=hv4.out.cell 5;have g5:=hv4.out.frozen 5))
   refine bodyPost_ret (results_cell rfl _ _ _ (by rfl) (ret6 hr4.out) (run_loadVar_row _ _ _ _ _ _ _ (ret6 hr4.out) Tryz.underlying47 rfl (by kernel_rfl))) rfl ?_;exact HR.out _ _ (JudP.of (hb.trans (hB4.mono hb.size)) hrl ⟨(hkey.out.below hB4),fun a q=>⟨(hak.out a q).2.2.1,(hak.out a q).1⟩⟩ (fun q=>by cases q))
  |some sg =>
   go_wp2_with (first
    |(go_at_call_of 33 (Value.string ⟨#[98,104]⟩);refine(c33q tv T [98,104] _ rfl _ HRP.out).mono ?_;rintro e wx⟨rfl,rfl⟩;rw[hv1.out])
    |(go_at_call_of 33 (Value.string ⟨#[98]⟩);refine(c33q tv T [98] _ rfl _ HRP.out).mono ?_;rintro e wx⟨rfl,rfl⟩;rw[hv2.out])
    |(go_at_call_of 50 (Value.string (B v1));refine(c50p v1 _ (by rw[size_B];omega)).mono ?_;rintro e w1⟨rfl,hb1⟩;rw[hs1.out])
    |(go_at_call_of 50 (Value.string (B v2));refine(c50p v2 _ (by rw[size_B];omega)).mono ?_;rintro e w3⟨rfl,hb3⟩;rw[hs2.out])
    |(go_at_call_of 76 (Value.string (B s1));refine(c76p s1 _ (by rw[size_B];omega)).mono ?_;rintro e w2⟨rfl,hb2⟩;rw[hu1.out];have hB2:=hb1.trans (hb2.mono hb1.size))
    |(go_at_call_of 76 (Value.string (B s2));refine(c76p s2 _ (by rw[size_B];omega)).mono ?_;rintro e w4⟨rfl,hb4⟩;rw[hu2.out];have hB4:=hB2.trans ((hb3.trans (hb4.mono hb3.size)).mono hB2.size)))
   refine useF 398 _ (by kernel_rfl) ?_;exact u37 _ ct2 hct2.out R w0 w4 hZ (hb.trans (hB4.mono hb.size)) hrl hvl hne (zH (hr.out.below hB4 hr.out.lt)) hT rfl rfl rfl rfl rfl rfl rfl htn hxn (zH (hkey.out.below hB4)) (zH (fun a q=>⟨(hak.out a q).1,zL (hak.out a q).2.1 hB4.size,(hak.out a q).2.2⟩)) rfl rfl rfl rfl rfl (zH ((hB4.cell (cell_lt hkc.out)).trans hkc.out)) (zH (hkb.out.below' hB4)) hkl hkv hkb2 (zH (hv.out.below hB4 hv.out.lt)) HR.out
end Go.Proofs.YtnkihlpmmfeioaaGreatDoor
