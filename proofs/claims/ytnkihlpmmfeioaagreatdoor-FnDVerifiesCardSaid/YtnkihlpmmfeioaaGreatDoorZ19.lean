/- Part of the proof that laws.FnDVerifies answers true: A50,A58 -/
import Derived.Test.YtnkihlpmmfeioaaGreatDoorZ18
set_option linter.unusedVariables false
set_option linter.unusedSimpArgs false
set_option maxRecDepth 1000000
set_option maxHeartbeats 16000000
namespace Go.Proofs.YtnkihlpmmfeioaaGreatDoor
open Go.RowKit
theorem DigAt.off{w:World}{g B0:Nat}{bv:Value}{l:List UInt8}(h:DigAt w g bv l)(hB:B0<=g):∀k,k < B0->¬(k=g\/bv.ownBlock=some k):=by
 obtain⟨st,_,_,ho⟩:=h;intro k hk q;rcases q with q|q
 ·omega
 have:=ho.lt k q;omega
theorem c242(v1 v2:Value)(k h:List UInt8)(w:World)(hk:RdB w v1 k)(hh:RdB w v2 h)(hkl:k.length<=536870912)(hhl:h.length<=536870912)(hK:KRow w) :
  Calls Tryz.prog 242 #[v1,v2] w fun e w'=>∃v,e=.returned v/\OwnB w' w.heap.size v (sha (k++h))/\Below w.heap.size w w':=by
 have HK:=zH hk;have HH:=zH hh;have HKR:=zH hK;obtain⟨A1,c1,rfl,_⟩:=hk;obtain⟨A2,c2,rfl,_⟩:=hh;obtain⟨g,hg⟩:∃g,Hid (w.heap.size=g):=⟨_,rfl⟩;clear hK;go_enter Tryz.func242,Tryz.ntmps242;go_wp2_with (first
  |(go_at_call 105;refine(c105 _).mono ?_;rintro e w1⟨rfl,hd1,hb1⟩;rw[hg.out]at hd1 ⊢;have hd1':=hd1;clear hd1)
  |(go_at_call_of 112 (Value.slice A1 k.length c1);refine(c112 g _ [] k A1 _ c1 _ hd1' (HK.out.below' hb1) (by simp;omega)).mono ?_;rintro e w2⟨rfl,bv2,hd2,hg2,_⟩;have hb2:=hb1.trans (hg2.below (B0:=w.heap.size) (by exact hb1.size) (by rw[hg.out];exact hd1'.off (zR _))))
  |(go_at_call_of 112 (Value.slice A2 h.length c2);refine(c112 g _ _ h A2 _ c2 _ hd2 (HH.out.below' hb2) (by simp;omega)).mono ?_;rintro e w3⟨rfl,bv3,hd3,hg3,_⟩;have hb3:=hb2.trans (hg3.below (B0:=w.heap.size) (by exact hb2.size) (by rw[hg.out];exact hd2.off (zR _))))
  |(go_at_call 108;refine(c108 g _ _ _ hd3 (by simp;omega) (HKR.out.below hb3 HKR.out.lt)).mono ?_;rintro e w4⟨v,rfl,ho4,hd4,hg4⟩;have hb4:=hb3.trans ((Gr.of_grown hg4).below (B0:=w.heap.size) (by exact hb3.size) (fun k hk q=>by injection q with q;rw[hg.out]at hk;omega));have HO4:=zH (ho4.mono hb3.size)))
 go_ret
 exact⟨_,rfl,by have:=HO4.out;simpa using this,hb4⟩
theorem c241(kd:ByteArray)(v1 v2 v3:Value)(k h s:List UInt8)(b3:Nat)(w:World)(hk:RdB w v1 k)(hh:RdB w v2 h)(hs:OwnB w b3 v3 s)(hkl:k.length<=536870912)(hhl:h.length<=536870912)(hK:KRow w) :
  Calls Tryz.prog 241 #[.agg #[.string kd,v1],v2,v3] w fun e w'=>∃err,e=.returned err/\(sha (k++h)=s->err=.nilIface)/\(¬sha (k++h)=s->∃m,ErrS w' err m/\m.size<=100)/\Below w.heap.size w w':=by
 have HK:=zH hk;have HH:=zH hh;have HS:=zH hs;have HKR:=zH hK;have hB0:Below w.heap.size w (w.alloc (.cells #[.string kd,v1] 82)):=(zB _ _).alloc (zR _) _;have HB0:=zH hB0;obtain⟨A1,c1,rfl,_⟩:=hk;obtain⟨A2,c2,rfl,_⟩:=hh;obtain⟨A3,c3,rfl,_⟩:=hs.slice;clear hK hs hB0;by_cases he:sha (k++h)=s
 ·have H0:=zH he
  have hbe:Hid ((sha (k++h) == s)=true):=by unfold Hid;rw[he];simp
  clear he;go_enter Tryz.func241,Tryz.ntmps241;go_wp2_with (first
   |(go_at_call 242;refine(c242 _ _ k h _ (HK.out.below' HB0.out) (HH.out.below' HB0.out) hkl hhl (HKR.out.below HB0.out HKR.out.lt)).mono ?_;rintro e w1⟨v,rfl,ho1,hb1⟩;have hb2:=bthen HB0.out hb1;obtain⟨A4,c4,rfl,_⟩:=ho1.slice)
   |(go_at_call 107;refine(c107 _ _ _ s _ ho1.str (HS.out.below hb2).str).mono ?_;rintro e w2⟨rfl,rfl⟩;rw[hbe.out]))
  go_ret
  exact⟨_,rfl,fun _=>rfl,fun q=>absurd H0.out q,hb2⟩
 have H0:=zH he;have hbe:Hid ((sha (k++h) == s)=false):=zF he;clear he;go_enter Tryz.func241,Tryz.ntmps241;go_wp2_with (first
  |(go_at_call 242;refine(c242 _ _ k h _ (HK.out.below' HB0.out) (HH.out.below' HB0.out) hkl hhl (HKR.out.below HB0.out HKR.out.lt)).mono ?_;rintro e w1⟨v,rfl,ho1,hb1⟩;have hb2:=bthen HB0.out hb1;obtain⟨A4,c4,rfl,_⟩:=ho1.slice)
  |(go_at_call 107;refine(c107 _ _ _ s _ ho1.str (HS.out.below hb2).str).mono ?_;rintro e w2⟨rfl,rfl⟩;rw[hbe.out])
  |(go_at_call 93;refine(c93 _ _).mono ?_;rintro e w3⟨rfl,rfl⟩))
 go_ret
 exact⟨_,rfl,fun q=>absurd q H0.out,fun _=>⟨_,⟨_,rfl,by rw[cells_row];rfl⟩,by decide⟩,hb2.alloc hb2.size _⟩
noncomputable def loop294(k:Nat):Code:=(((Tryz.f294.body.map loopsOf).getD [])[k]?).getD .skip
def relW : Bool->List UInt8->Bool
 |wt,[]=>wt
 |wt,c::l=>if(c.toNat:Int)=32\/(c.toNat:Int)=9 then relW true l else relW false l
def relB : List UInt8->List UInt8->List UInt8
 |e,[]=>e
 |e,c::l=>if(c.toNat:Int)=32\/(c.toNat:Int)=9 then relB e l else if(c.toNat:Int)=13\/(c.toNat:Int)=10 then relB (e++[c]) l else relB [] l
theorem OwnB.zero{w:World}{base:Nat}{A:Option Addr}{n c:Nat}{l:List UInt8}(h:OwnB w base (.slice A n c) l):OwnB w base (.slice A 0 c) []:=by
 rcases h with⟨he,_⟩|⟨g,off,cap,he,h1,h2,h3,h4,h5,h6,h7⟩
 ·injection he with h1 h2 h3;subst h1 h3;exact .inl ⟨rfl,rfl⟩
 injection he with e1 e2 e3
 subst e1 e3;exact .inr ⟨g,off,_,rfl,h1,h2,Nat.zero_le _,h4,fun i c hc=>by simp at hc,h6,h7⟩
theorem OwnB.setAt{w:World}{g k:Nat}{u:Value}{v:Value}{l:List UInt8}(h:OwnB w (g+1) v l):OwnB (w.setCell ⟨g,k,none⟩ u) (g+1) v l:=h.setNe (Nat.lt_succ_self g)
theorem gr_app{S:Nat->Prop}{w0 W w2:World}{o:Obj}{ob:Option Nat}(h:Gr S w0 W)(hg:(W.alloc o).grownBy w2 ob)(hs:∀k,ob=some k->S k):Gr S w0 w2 :=
 h.trans ((Gr.of_grown ((World.grownBy_alloc W o ob).trans hg)).mono (fun k _ q=>hs k q))
theorem gr_appB{S:Nat->Prop}{w0 W w2:World}{ob:Option Nat}(h:Gr S w0 W)(hg:W.grownBy w2 ob)(hs:∀k,ob=some k->S k):Gr S w0 w2 :=
 h.trans ((Gr.of_grown hg).mono (fun k _ q=>hs k q))
theorem gr_set{S:Nat->Prop}{w0 W:World}(h:Gr S w0 W)(g k:Nat)(u:Value)(hs:S g):Gr S w0 (W.setCell ⟨g,k,none⟩ u) :=
 h.trans ((Gr.of_grown (grown_set W g k u)).mono (fun k _ q=>by injection q with q;subst q;exact hs))
theorem blk_app{W w2:World}{o:Obj}{ob:Option Nat}{g:Nat}{cs:Array Value}{e:TypeId}(h:Blk W g cs e)(hg:(W.alloc o).grownBy w2 ob)(hn:some g≠ob):Blk w2 g cs e :=
 (((World.grownBy_alloc W o ob).trans hg).block g h.lt hn).trans h
theorem blk_appB{W w2:World}{ob:Option Nat}{g:Nat}{cs:Array Value}{e:TypeId}(h:Blk W g cs e)(hg:W.grownBy w2 ob)(hn:some g≠ob):Blk w2 g cs e :=
 (hg.block g h.lt hn).trans h
theorem own_ne{a b:Value}(h:∀k,a.ownBlock=some k->b.ownBlock≠some k):a.ownBlock=none\/a.ownBlock≠b.ownBlock:=by
 cases ha:a.ownBlock with
 |none=>exact .inl rfl
 |some k=>exact .inr (fun q=>h k ha q.symm)
theorem own_ne'{a b:Value}(h:∀k,a.ownBlock=some k->b.ownBlock≠some k):b.ownBlock=none\/b.ownBlock≠a.ownBlock:=by
 cases hb:b.ownBlock with
 |none=>exact .inl rfl
 |some k=>exact .inr (fun q=>h k q.symm hb)
theorem gc_ne{w:World}{bc gc:Nat}{v:Value}{l:List UInt8}(h:OwnB w bc v l)(hg:gc < bc):some gc≠v.ownBlock:=fun q=>by have:=(h.lt gc q.symm).1;omega
theorem dis_app{W:World}{base m:Nat}{cb v v2:Value}{l:List UInt8}(h:∀k,cb.ownBlock=some k->v.ownBlock≠some k)(hC:OwnB W base cb l)(hl:v2.ownBlock=v.ownBlock\/v2.ownBlock=some m)(hm:W.heap.size<=m) :
  ∀k,cb.ownBlock=some k->v2.ownBlock≠some k:=by
 intro k hk;rcases hl with hl|hl
 ·rw[hl];exact h k hk
 rw[hl];intro q;injection q with q;have:=(hC.lt k hk).2;omega
def relS(gc bc:Nat)(cb0:Value):Nat->Prop:=fun k=>k=gc\/cb0.ownBlock=some k\/bc<=k
theorem l294(f1 f2 f3 f4 f5 f6 f8 f9 f10 f11 f12 f13 f14 f15 f16 f17 f18 f19 f20 f21 f25 f26 f27 f28 f29 f30 f31 f32 f33 f34 f35 f36 f37 f38 f39 f40 f41 f42 f43 f44 f45 f46 f47 f48 f49 f50 f51 f52 f53 f54 f55 f56 f57 f58 f59 f60 f61 f62 f63 f64 f65 f66 f67 f68 f69 f70 f71 f72 f73 f74 f75 f76 f77 f78 f79 f80 f81 f82 f83 f84 f85 f86 f87 f88 f89 f90 f91 f92 f93 f94 f95 f96 f97 f98 f99 f100 f101 f102 f103 f104 f105 f106 f107 f108 f109 f110 f111 f112 f113 f114:Value)(Q:Exit->Act->World->Prop)(c294:Code)(hc:c294=loop294 0)(gc bc cB:Nat)(wv cb0 v0:Value)(AB:Option Addr)(l buf0:List UInt8)(ws0 wt cr:Bool)(w0:World)
  (hl:l.length<=2147483648)(hbl:buf0.length<=2147483648)(hgc:gc < bc)(hb0:bc<=w0.heap.size)
  (hB:Hid (0 < l.length->∃kb ob,AB=some ⟨kb,ob,none⟩/\kb≠gc/\cb0.ownBlock≠some kb/\kb < bc/\∀(i:Nat) (x:UInt8),l[i]?=some x->w0.cell? ⟨kb,ob+i,none⟩=some (byteV x)))
  (hv0:Hid (OwnB w0 bc v0 []))(hD0:Hid (Blk w0 gc #[wv,cb0,.bool ws0,.bool wt,.bool cr] 367))(hC0:Hid (OwnB w0 (gc+1) cb0 buf0))(hcb:Hid (∀k,cb0.ownBlock=some k->k < bc))
  (hexit:∀(v1 cb1:Value) (u9 u24 u25 u26 u27 u28 u29 u30 u31 u32 u33 u34 u35 u36 u37 u38 u39 u40 u41 u42 u43 u44 u45 u46 u47 u48 u49 u50 u51 u52 u53 u54 u55 u56 u57 u58 u59 u60 u61 u62 u63 u64 u65 u66 u67 u68 u69 u70 u71 u72 u73 u74 u75 u76 u77 u78 u79 u80 u81 u82 u83 u84 u85 u86 u87 u88 u89 u90:Value) (w':World),OwnB w' bc v1 (relaxed ws0 buf0 l)->Blk w' gc #[wv,cb1,.bool (relW ws0 l),.bool wt,.bool cr] 367->OwnB w' (gc+1) cb1 (relB buf0 l)->(∀k,cb1.ownBlock=some k->v1.ownBlock≠some k)->(∀k,cb1.ownBlock=some k->cb0.ownBlock=some k\/bc<=k)->Gr (relS gc bc cb0) w0 w' ->
   Q (.exit 0) ⟨((.pointer (some ⟨gc,0,none⟩))::f1::f2::f3::f4::f5::f6::(v1)::f8::u9::f10::f11::f12::f13::f14::f15::f16::f17::f18::f19::f20::f21::(.slice AB l.length cB)::(.int .i64 (l.length:Int))::u24::u25::u26::u27::u28::u29::u30::u31::u32::u33::u34::u35::u36::u37::u38::u39::u40::u41::u42::u43::u44::u45::u46::u47::u48::u49::u50::u51::u52::u53::u54::u55::u56::u57::u58::u59::u60::u61::u62::u63::u64::u65::u66::u67::u68::u69::u70::u71::u72::u73::u74::u75::u76::u77::u78::u79::u80::u81::u82::u83::u84::u85::u86::u87::u88::u89::u90::f91::f92::f93::f94::f95::f96::f97::f98::f99::f100::f101::f102::f103::f104::f105::f106::f107::f108::f109::f110::f111::f112::f113::f114::[]).toArray,[]⟩ w') :
  Code.wp Tryz.prog (Code.loop c294) Q ⟨((.pointer (some ⟨gc,0,none⟩))::f1::f2::f3::f4::f5::f6::(v0)::f8::f9::f10::f11::f12::f13::f14::f15::f16::f17::f18::f19::f20::f21::(.slice AB l.length cB)::(.int .i64 (l.length:Int))::(.int .i64 0)::f25::f26::f27::f28::f29::f30::f31::f32::f33::f34::f35::f36::f37::f38::f39::f40::f41::f42::f43::f44::f45::f46::f47::f48::f49::f50::f51::f52::f53::f54::f55::f56::f57::f58::f59::f60::f61::f62::f63::f64::f65::f66::f67::f68::f69::f70::f71::f72::f73::f74::f75::f76::f77::f78::f79::f80::f81::f82::f83::f84::f85::f86::f87::f88::f89::f90::f91::f92::f93::f94::f95::f96::f97::f98::f99::f100::f101::f102::f103::f104::f105::f106::f107::f108::f109::f110::f111::f112::f113::f114::[]).toArray,[]⟩ w0:=by
 subst hc;conv=>arg 2;arg 1;whnf
 have HEX:=zH hexit;clear hexit;obtain⟨R,hR⟩:∃R,Hid (relaxed ws0 buf0 l=R):=⟨_,rfl⟩;obtain⟨W_,hWW⟩:∃x,Hid (relW ws0 l=x):=⟨_,rfl⟩;obtain⟨B_,hBB⟩:∃x,Hid (relB buf0 l=x):=⟨_,rfl⟩;rw[hR.out,hWW.out,hBB.out]at HEX;go_loopg [7,24] l.length (fun g v ix w'=>∃i:Nat,∃out buf:List UInt8,∃ws:Bool,∃cb:Value,Hid (i+g=l.length)/\i<=l.length/\ix=.int .i64 (i:Int)/\Hid (out++relaxed ws buf (l.drop i)=R)/\Hid (relW ws (l.drop i)=W_)/\Hid (relB buf (l.drop i)=B_)/\Hid (out.length+buf.length<=buf0.length+2*i) /\
  Hid (OwnB w' bc v out)/\Hid (Blk w' gc #[wv,cb,.bool ws,.bool wt,.bool cr] 367)/\Hid (OwnB w' (gc+1) cb buf)/\Hid (∀k,cb.ownBlock=some k->v.ownBlock≠some k)/\Hid (∀k,cb.ownBlock=some k->cb0.ownBlock=some k\/bc<=k)/\Hid (Gr (relS gc bc cb0) w0 w'))
 case atStart=>exact⟨0,[],buf0,ws0,cb0,Nat.zero_add _,Nat.zero_le _,rfl,hR,hWW,hBB,by unfold Hid;simp,hv0,hD0,hC0,fun k hk q=>by have h1:=hv0.out.lt k q;have h2:=hcb.out k hk;omega,fun k hk=>.inl hk,Gr.refl _ _⟩
 clear hR hWW hBB;obtain⟨i,out,buf,ws,cb,hi,hil,rfl,hq,hqw,hqb,hlen,hv,hD,hC,hdis,horg,hG⟩:=hrel;obtain⟨Ac,nc,hcs,hnc,_⟩:=hC.out.slice;subst hcs;have HD0:=hD;by_cases hlt:i < l.length
 ·obtain⟨kb,ob,rfl,hk1,hk2,hk3,hcl⟩:=hB.out (by omega)
  obtain⟨x,hx⟩:∃x,Hid (l[i]=x):=⟨l[i],zH rfl⟩;have hc0:=hcl i x (by rw[<-hx.out];exact zG hlt);have e1:=(World.cell?_of_block (a:=⟨kb,ob+i,none⟩) (hG.out.block kb (cell_lt hc0) (by intro q;rcases q with q|q|q;exact hk1 q;exact hk2 q;omega))).trans hc0;unfold byteV at e1;have p1:=hD.out.cell 1;have p2:=hD.out.cell 2;have f1:=hD.out.frozen 1;have f2:=hD.out.frozen 2;have hq2:=hq.out;have hqw2:=hqw.out;have hqb2:=hqb.out;rw[List.drop_eq_getElem_cons hlt,hx.out,relaxed]at hq2;rw[List.drop_eq_getElem_cons hlt,hx.out,relW]at hqw2;rw[List.drop_eq_getElem_cons hlt,hx.out,relB]at hqb2;have hltI:(i:Int) < (l.length:Int):=by omega
  have hbw:bc<=wr.heap.size:=zT hb0 hG.out.size;have hgw:gc < wr.heap.size:=zL hgc hbw;have hgG:=Gr.then (T:=fun k=>some gc=some k) hG.out (Gr.of_grown (grown_set wr gc 2 (.bool true))) (fun k _ q=>.inl (by injection q with q;exact q.symm));have hgF:=Gr.then (T:=fun k=>some gc=some k) hG.out (Gr.of_grown (grown_set wr gc 2 (.bool false))) (fun k _ q=>.inl (by injection q with q;exact q.symm));have HGT:=zH hgG;have HGF:=zH hgF;clear hcl hc0 hk1 hk2 hk3 hq hqw hqb hgG hgF HD0;by_cases hsp:(x.toNat:Int)=32\/(x.toNat:Int)=9
  ·rw[if_pos hsp]at hq2 hqw2 hqb2
   have HQ:=zH (And.intro hq2 (And.intro hqw2 hqb2));clear hq2 hqw2 hqb2;rcases hsp with hs|hs
   ·have t1:((x.toNat:Int) == 32)=true:=zE hs
    clear hs;go_wp2;go_roundg (gk - 1)
    case measure=>have:=hi.out;omega
    case rel=>exact⟨i+1,out,buf,true,_,by have:=hi.out;unfold Hid;omega,by omega,by go_num,HQ.out.1,HQ.out.2.1,HQ.out.2.2,by have:=hlen.out;unfold Hid;omega,hv.out.setNe hgc,(hD.out.set_ 2 (.bool true)).to (by simp),OwnB.setAt hC.out,hdis,horg,HGT⟩
   have t1:((x.toNat:Int) == 32)=false:=zF (by omega);have t2:((x.toNat:Int) == 9)=true:=zE hs;clear hs;go_wp2;go_roundg (gk - 1)
   case measure=>have:=hi.out;omega
   case rel=>exact⟨i+1,out,buf,true,_,by have:=hi.out;unfold Hid;omega,by omega,by go_num,HQ.out.1,HQ.out.2.1,HQ.out.2.2,by have:=hlen.out;unfold Hid;omega,hv.out.setNe hgc,(hD.out.set_ 2 (.bool true)).to (by simp),OwnB.setAt hC.out,hdis,horg,HGT⟩
  rw[if_neg hsp]at hq2 hqw2 hqb2;have t1:((x.toNat:Int) == 32)=false:=zF (by omega);have t2:((x.toNat:Int) == 9)=false:=zF (by omega);by_cases hcr:(x.toNat:Int)=13\/(x.toNat:Int)=10
  ·rw[if_pos hcr]at hq2 hqb2
   have HQ:=zH (And.intro hq2 (And.intro hqw2 hqb2));clear hq2 hqw2 hqb2 hsp;rcases hcr with hs|hs
   ·have t3:((x.toNat:Int) == 13)=true:=zE hs
    clear hs;have HC1:=zH (OwnB.setAt (k:=2) (u:=.bool false) hC.out);have hD1:Blk (wr.setCell ⟨gc,2,none⟩ (.bool false)) gc #[wv,.slice Ac buf.length nc,.bool false,.bool wt,.bool cr] 367:=(hD.out.set_ 2 (.bool false)).to (by simp);have HD1:=zH hD1;have hs1:(wr.setCell ⟨gc,2,none⟩ (.bool false)).heap.size=wr.heap.size:=World.size_setCell _ _ _;have HS1:=zH hs1;clear hD1 hs1;go_wp2_with (at_builtin;refine wp_appb rfl (.tmp 50) (.tmp 52) rfl x rfl (by(repeat rw[World.size_setCell]);rfl) HC1.out (by have:=hlen.out;omega) (by rw[HS1.out];omega) ?_;intro v2 w2 hO2 hg2 _ hl2;have hD2:=blk_app HD1.out hg2 (gc_ne HC1.out (Nat.lt_succ_self gc));have p1':=hD2.cell 1;have f1':=hD2.frozen 1;have HL2:=zH hl2;have HG2:=zH hg2;have HD2:=zH hD2;clear hl2 hg2 hD2;obtain⟨A3,c3,hv2,_⟩:=hO2.slice;rw[zA]at hv2;subst hv2;have HO2:=zH hO2;clear hO2);go_roundg (gk - 1)
    case measure=>have:=hi.out;omega
    case rel =>
     have hl2:=HL2.out;rw[HS1.out]at hl2;have hdis2:∀k,(Value.slice A3 (buf.length+[x].length) c3).ownBlock=some k->u7.ownBlock≠some k:=fun k hk q=>by
      rcases hl2 with h|h
      ·exact hdis.out k (h ▸ hk) q
      rw[h]at hk;injection hk with hk;have:=(hv.out.lt k q).2;omega
     have horg2:∀k,(Value.slice A3 (buf.length+[x].length) c3).ownBlock=some k->cb0.ownBlock=some k\/bc<=k:=fun k hk=>by
      rcases hl2 with h|h
      ·exact horg.out k (h ▸ hk)
      rw[h]at hk;injection hk with hk;omega
     exact⟨i+1,out,buf++[x],false,_,by have:=hi.out;unfold Hid;omega,by omega,by go_num,HQ.out.1,HQ.out.2.1,HQ.out.2.2,by have:=hlen.out;unfold Hid;simp;omega,(((hv.out.setNe hgc).alloc _).grown HG2.out (own_ne' hdis.out)).setNe hgc,(HD2.out.set_ 1 _).to (by simp),HO2.out.setAt,hdis2,horg2,gr_set (gr_app HGF.out HG2.out (fun k q=>.inr (horg.out k q))) gc 1 _ (.inl rfl)⟩
   have t3:((x.toNat:Int) == 13)=false:=zF (by omega);have t4:((x.toNat:Int) == 10)=true:=zE hs;clear hs;have HC1:=zH (OwnB.setAt (k:=2) (u:=.bool false) hC.out);have hD1:Blk (wr.setCell ⟨gc,2,none⟩ (.bool false)) gc #[wv,.slice Ac buf.length nc,.bool false,.bool wt,.bool cr] 367:=(hD.out.set_ 2 (.bool false)).to (by simp);have HD1:=zH hD1;have hs1:(wr.setCell ⟨gc,2,none⟩ (.bool false)).heap.size=wr.heap.size:=World.size_setCell _ _ _;have HS1:=zH hs1;clear hD1 hs1;go_wp2_with (at_builtin;refine wp_appb rfl (.tmp 50) (.tmp 52) rfl x rfl (by(repeat rw[World.size_setCell]);rfl) HC1.out (by have:=hlen.out;omega) (by rw[HS1.out];omega) ?_;intro v2 w2 hO2 hg2 _ hl2;have hD2:=blk_app HD1.out hg2 (gc_ne HC1.out (Nat.lt_succ_self gc));have p1':=hD2.cell 1;have f1':=hD2.frozen 1;have HL2:=zH hl2;have HG2:=zH hg2;have HD2:=zH hD2;clear hl2 hg2 hD2;obtain⟨A3,c3,hv2,_⟩:=hO2.slice;rw[zA]at hv2;subst hv2;have HO2:=zH hO2;clear hO2);go_roundg (gk - 1)
   case measure=>have:=hi.out;omega
   case rel =>
    have hl2:=HL2.out;rw[HS1.out]at hl2;have hdis2:∀k,(Value.slice A3 (buf.length+[x].length) c3).ownBlock=some k->u7.ownBlock≠some k:=fun k hk q=>by
     rcases hl2 with h|h
     ·exact hdis.out k (h ▸ hk) q
     rw[h]at hk;injection hk with hk;have:=(hv.out.lt k q).2;omega
    have horg2:∀k,(Value.slice A3 (buf.length+[x].length) c3).ownBlock=some k->cb0.ownBlock=some k\/bc<=k:=fun k hk=>by
     rcases hl2 with h|h
     ·exact horg.out k (h ▸ hk)
     rw[h]at hk;injection hk with hk;omega
    exact⟨i+1,out,buf++[x],false,_,by have:=hi.out;unfold Hid;omega,by omega,by go_num,HQ.out.1,HQ.out.2.1,HQ.out.2.2,by have:=hlen.out;unfold Hid;simp;omega,(((hv.out.setNe hgc).alloc _).grown HG2.out (own_ne' hdis.out)).setNe hgc,(HD2.out.set_ 1 _).to (by simp),HO2.out.setAt,hdis2,horg2,gr_set (gr_app HGF.out HG2.out (fun k q=>.inr (horg.out k q))) gc 1 _ (.inl rfl)⟩
  rw[if_neg hcr]at hq2 hqb2;have t3:((x.toNat:Int) == 13)=false:=zF (by omega);have t4:((x.toNat:Int) == 10)=false:=zF (by omega);clear hsp hcr;cases buf with
  |nil =>
   cases ws with
   |false =>
    have HQ:Hid ((out++[x])++relaxed false [] (l.drop (i+1))=R/\relW false (l.drop (i+1))=W_/\relB [] (l.drop (i+1))=B_):=⟨by simpa using hq2,hqw2,hqb2⟩;clear hq2 hqw2 hqb2;go_wp2_with (at_builtin;refine wp_appb rfl (.tmp 86) (.tmp 88) rfl x rfl (by(repeat rw[World.size_setCell]);rfl) hv.out (by have:=hlen.out;simp;omega) (by exact zT hb0 (hG.out).size) ?_;intro v4 w4 hO4 hg4 _ hl4;have HX4:=zH (And.intro hO4 (And.intro hg4 hl4));clear hO4 hg4 hl4);go_roundg (gk - 1)
    case measure=>have:=hi.out;omega
    case rel=>exact⟨i+1,out++[x],[],false,_,by have:=hi.out;unfold Hid;omega,by omega,by go_num,HQ.out.1,HQ.out.2.1,HQ.out.2.2,by have:=hlen.out;unfold Hid;simp;omega,HX4.out.1,(blk_app hD.out HX4.out.2.1 (gc_ne hv.out hgc)),((hC.out).alloc _ |>.grown HX4.out.2.1 (own_ne hdis.out)),(dis_app hdis.out hC.out HX4.out.2.2 (Nat.le_succ _)),horg.out,(gr_app hG.out HX4.out.2.1 (fun k q=>.inr (.inr (hv.out.lt k q).1)))⟩
   |true =>
    have HQ:Hid (((out++[32])++[x])++relaxed false [] (l.drop (i+1))=R/\relW false (l.drop (i+1))=W_/\relB [] (l.drop (i+1))=B_):=⟨by simpa using hq2,hqw2,hqb2⟩;clear hq2 hqw2 hqb2;go_upto_region 17 with(at_builtin;refine wp_appb rfl (.tmp 80) (.tmp 81) rfl 32 rfl (by(repeat rw[World.size_setCell]);rfl) hv.out (by have:=hlen.out;simp;omega) (by exact zT hb0 (hG.out).size) ?_;intro v3 w3 hO3 hg3 _ hl3;have hD3:=blk_app hD.out hg3 (gc_ne hv.out hgc);have p2'':=hD3.cell 2;have f2'':=hD3.frozen 2;have HX3:=zH (And.intro hO3 (And.intro hg3 (And.intro hD3 hl3)));clear hO3 hg3 hD3 hl3)
    go_wp2_with (at_builtin;refine wp_appb rfl (.tmp 86) (.tmp 88) rfl x rfl (by(repeat rw[World.size_setCell]);rfl) (HX3.out.1.setNe hgc) (by have:=hlen.out;simp;omega) (by exact zT hb0 ((gr_set (gr_app hG.out HX3.out.2.1 (fun k q=>.inr (.inr (hv.out.lt k q).1))) gc 2 (.bool false) (.inl rfl))).size) ?_;intro v4 w4 hO4 hg4 _ hl4;have HX4:=zH (And.intro hO4 (And.intro hg4 hl4));clear hO4 hg4 hl4);go_roundg (gk - 1)
    case measure=>have:=hi.out;omega
    case rel=>exact⟨i+1,(out++[32])++[x],[],false,_,by have:=hi.out;unfold Hid;omega,by omega,by go_num,HQ.out.1,HQ.out.2.1,HQ.out.2.2,by have:=hlen.out;unfold Hid;simp;omega,HX4.out.1,(blk_app ((HX3.out.2.2.1.set_ 2 (.bool false)).to (cs':=#[wv,.slice Ac 0 nc,.bool false,.bool wt,.bool cr]) (by simp)) HX4.out.2.1 (gc_ne HX3.out.1 hgc)),(((OwnB.setAt ((hC.out).alloc _ |>.grown HX3.out.2.1 (own_ne hdis.out)))).alloc _ |>.grown HX4.out.2.1 (own_ne (dis_app hdis.out hC.out HX3.out.2.2.2 (Nat.le_succ _)))),(dis_app (dis_app hdis.out hC.out HX3.out.2.2.2 (Nat.le_succ _)) (OwnB.setAt ((hC.out).alloc _ |>.grown HX3.out.2.1 (own_ne hdis.out))) HX4.out.2.2 (Nat.le_succ _)),horg.out,(gr_app (gr_set (gr_app hG.out HX3.out.2.1 (fun k q=>.inr (.inr (hv.out.lt k q).1))) gc 2 (.bool false) (.inl rfl)) HX4.out.2.1 (fun k q=>.inr (.inr (HX3.out.1.lt k q).1)))⟩
  |cons y buf' =>
   obtain⟨buf,hbufe⟩:∃b,Hid (y::buf'=b):=⟨_,zH rfl⟩;rw[hbufe.out]at hq2 hlen hC hdis horg;have hCz:Hid (OwnB wr (gc+1) (.slice Ac 0 nc) []):=OwnB.zero hC.out;have hdz:Hid (∀k,(Value.slice Ac 0 nc).ownBlock=some k->u7.ownBlock≠some k):=fun k hk=>hdis.out k (by rw[<-hk];cases Ac <;> rfl)
   have horz:Hid (∀k,(Value.slice Ac 0 nc).ownBlock=some k->cb0.ownBlock=some k\/bc<=k):=fun k hk=>horg.out k (by rw[<-hk];cases Ac <;> rfl)
   have hbp:0 < (y::buf').length:=by simp
   rw[hbufe.out]at hbp p1 hD;have hbpI:(0:Int) < (buf.length:Int):=by omega
   cases ws with
   |false =>
    have HQ:Hid (((out++buf)++[x])++relaxed false [] (l.drop (i+1))=R/\relW false (l.drop (i+1))=W_/\relB [] (l.drop (i+1))=B_):=⟨by simpa using hq2,hqw2,hqb2⟩;clear hq2 hqw2 hqb2;go_upto_region 14 with(at_builtin;refine wp_appB rfl (.tmp 62) (.tmp 66) rfl rfl rfl hv.out (Src.bytes hC.out.rdB) (by have:=hlen.out;omega) hbw ?_;intro v2 w2 hO2 hg2 _ hl2;have hD2:=blk_appB hD.out hg2 (gc_ne hv.out hgc);have p1':=hD2.cell 1;have f1':=hD2.frozen 1;have p2':=hD2.cell 2;have f2':=hD2.frozen 2;have HX2:=zH (And.intro hO2 (And.intro hg2 (And.intro hD2 hl2)));clear hO2 hg2 hD2 hl2)
    go_wp2_with (at_builtin;refine wp_appb rfl (.tmp 86) (.tmp 88) rfl x rfl (by(repeat rw[World.size_setCell]);rfl) (HX2.out.1.setNe hgc) (by have:=hlen.out;simp;omega) (by exact zT hb0 ((gr_set (gr_appB hG.out HX2.out.2.1 (fun k q=>.inr (.inr (hv.out.lt k q).1))) gc 1 (.slice Ac 0 nc) (.inl rfl))).size) ?_;intro v4 w4 hO4 hg4 _ hl4;have HX4:=zH (And.intro hO4 (And.intro hg4 hl4));clear hO4 hg4 hl4);go_roundg (gk - 1)
    case measure=>have:=hi.out;omega
    case rel=>exact⟨i+1,(out++buf)++[x],[],false,_,by have:=hi.out;unfold Hid;omega,by omega,by go_num,HQ.out.1,HQ.out.2.1,HQ.out.2.2,by have:=hlen.out;unfold Hid;simp;omega,HX4.out.1,(blk_app ((HX2.out.2.2.1.set_ 1 (.slice Ac 0 nc)).to (cs':=#[wv,.slice Ac 0 nc,.bool false,.bool wt,.bool cr]) (by simp)) HX4.out.2.1 (gc_ne HX2.out.1 hgc)),(((OwnB.setAt (hCz.out.grown HX2.out.2.1 (own_ne hdz.out)))).alloc _ |>.grown HX4.out.2.1 (own_ne (dis_app hdz.out hCz.out HX2.out.2.2.2 (zR _)))),(dis_app (dis_app hdz.out hCz.out HX2.out.2.2.2 (zR _)) (OwnB.setAt (hCz.out.grown HX2.out.2.1 (own_ne hdz.out))) HX4.out.2.2 (Nat.le_succ _)),horz.out,(gr_app (gr_set (gr_appB hG.out HX2.out.2.1 (fun k q=>.inr (.inr (hv.out.lt k q).1))) gc 1 (.slice Ac 0 nc) (.inl rfl)) HX4.out.2.1 (fun k q=>.inr (.inr (HX2.out.1.lt k q).1)))⟩
   |true =>
    have HQ:Hid ((((out++buf)++[32])++[x])++relaxed false [] (l.drop (i+1))=R/\relW false (l.drop (i+1))=W_/\relB [] (l.drop (i+1))=B_):=⟨by simpa using hq2,hqw2,hqb2⟩;clear hq2 hqw2 hqb2;go_upto_region 14 with(at_builtin;refine wp_appB rfl (.tmp 62) (.tmp 66) rfl rfl rfl hv.out (Src.bytes hC.out.rdB) (by have:=hlen.out;omega) hbw ?_;intro v2 w2 hO2 hg2 _ hl2;have hD2:=blk_appB hD.out hg2 (gc_ne hv.out hgc);have p1':=hD2.cell 1;have f1':=hD2.frozen 1;have p2':=hD2.cell 2;have f2':=hD2.frozen 2;have HX2:=zH (And.intro hO2 (And.intro hg2 (And.intro hD2 hl2)));clear hO2 hg2 hD2 hl2)
    go_upto_region 17 with(at_builtin;refine wp_appb rfl (.tmp 80) (.tmp 81) rfl 32 rfl (by(repeat rw[World.size_setCell]);rfl) (HX2.out.1.setNe hgc) (by have:=hlen.out;simp;omega) (by exact zT hb0 ((gr_set (gr_appB hG.out HX2.out.2.1 (fun k q=>.inr (.inr (hv.out.lt k q).1))) gc 1 (.slice Ac 0 nc) (.inl rfl))).size) ?_;intro v3 w3 hO3 hg3 _ hl3;have hD3:=blk_app ((HX2.out.2.2.1.set_ 1 (.slice Ac 0 nc)).to (cs':=#[wv,.slice Ac 0 nc,.bool true,.bool wt,.bool cr]) (by simp)) hg3 (gc_ne HX2.out.1 hgc);have p2'':=hD3.cell 2;have f2'':=hD3.frozen 2;have HX3:=zH (And.intro hO3 (And.intro hg3 (And.intro hD3 hl3)));clear hO3 hg3 hD3 hl3)
    go_wp2_with (at_builtin;refine wp_appb rfl (.tmp 86) (.tmp 88) rfl x rfl (by(repeat rw[World.size_setCell]);rfl) (HX3.out.1.setNe hgc) (by have:=hlen.out;simp;omega) (by exact zT hb0 ((gr_set (gr_app (gr_set (gr_appB hG.out HX2.out.2.1 (fun k q=>.inr (.inr (hv.out.lt k q).1))) gc 1 (.slice Ac 0 nc) (.inl rfl)) HX3.out.2.1 (fun k q=>.inr (.inr (HX2.out.1.lt k q).1))) gc 2 (.bool false) (.inl rfl))).size) ?_;intro v4 w4 hO4 hg4 _ hl4;have HX4:=zH (And.intro hO4 (And.intro hg4 hl4));clear hO4 hg4 hl4);go_roundg (gk - 1)
    case measure=>have:=hi.out;omega
    case rel=>exact⟨i+1,((out++buf)++[32])++[x],[],false,_,by have:=hi.out;unfold Hid;omega,by omega,by go_num,HQ.out.1,HQ.out.2.1,HQ.out.2.2,by have:=hlen.out;unfold Hid;simp;omega,HX4.out.1,(blk_app ((HX3.out.2.2.1.set_ 2 (.bool false)).to (cs':=#[wv,.slice Ac 0 nc,.bool false,.bool wt,.bool cr]) (by simp)) HX4.out.2.1 (gc_ne HX3.out.1 hgc)),(((OwnB.setAt (((OwnB.setAt (hCz.out.grown HX2.out.2.1 (own_ne hdz.out)))).alloc _ |>.grown HX3.out.2.1 (own_ne (dis_app hdz.out hCz.out HX2.out.2.2.2 (zR _)))))).alloc _ |>.grown HX4.out.2.1 (own_ne (dis_app (dis_app hdz.out hCz.out HX2.out.2.2.2 (zR _)) (OwnB.setAt (hCz.out.grown HX2.out.2.1 (own_ne hdz.out))) HX3.out.2.2.2 (Nat.le_succ _)))),(dis_app (dis_app (dis_app hdz.out hCz.out HX2.out.2.2.2 (zR _)) (OwnB.setAt (hCz.out.grown HX2.out.2.1 (own_ne hdz.out))) HX3.out.2.2.2 (Nat.le_succ _)) (OwnB.setAt (((OwnB.setAt (hCz.out.grown HX2.out.2.1 (own_ne hdz.out)))).alloc _ |>.grown HX3.out.2.1 (own_ne (dis_app hdz.out hCz.out HX2.out.2.2.2 (zR _))))) HX4.out.2.2 (Nat.le_succ _)),horz.out,(gr_app (gr_set (gr_app (gr_set (gr_appB hG.out HX2.out.2.1 (fun k q=>.inr (.inr (hv.out.lt k q).1))) gc 1 (.slice Ac 0 nc) (.inl rfl)) HX3.out.2.1 (fun k q=>.inr (.inr (HX2.out.1.lt k q).1))) gc 2 (.bool false) (.inl rfl)) HX4.out.2.1 (fun k q=>.inr (.inr (HX3.out.1.lt k q).1)))⟩
 have hq2:=hq.out;have hqw2:=hqw.out;have hqb2:=hqb.out;rw[List.drop_eq_nil_of_le (by omega),relaxed,List.append_nil]at hq2;rw[List.drop_eq_nil_of_le (by omega),relW]at hqw2;rw[List.drop_eq_nil_of_le (by omega),relB]at hqb2;subst hq2 hqw2 hqb2;go_wp2;exact HEX.out _ _ _ _ _ _ _ _ _ _ _ _ _ _ _ _ _ _ _ _ _ _ _ _ _ _ _ _ _ _ _ _ _ _ _ _ _ _ _ _ _ _ _ _ _ _ _ _ _ _ _ _ _ _ _ _ _ _ _ _ _ _ _ _ _ _ _ _ _ _ _ hv.out hD.out hC.out hdis.out horg.out hG.out
end Go.Proofs.YtnkihlpmmfeioaaGreatDoor
