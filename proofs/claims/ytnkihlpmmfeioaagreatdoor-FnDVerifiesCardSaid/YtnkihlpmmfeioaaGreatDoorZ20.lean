/- Part of the proof that laws.FnDVerifies answers true: A51,A52,A59,A60,P6 -/
import Derived.Stop.Asserts
import Derived.Lib.SlBytesConst
import Derived.Test.YtnkihlpmmfeioaaGreatDoorZ19
set_option linter.unusedVariables false
set_option linter.unusedSimpArgs false
set_option maxRecDepth 1000000
set_option maxHeartbeats 16000000
namespace Go.Proofs.YtnkihlpmmfeioaaGreatDoor
open Go.RowKit
def findR(n:List UInt8):List Rec->Option Rec
 |[]=>none
 |r::l=>if r.nm=n then some r else findR n l
def LookAt(w:World)(tv err:Value):Option Rec->Prop
 |none=>tv=.slice none 0 0/\err=.iface 77 (.bool false)
 |some r=>if r.fl=true\/r.tp=true then tv=.slice none 0 0/\err=.iface 77 (.bool r.tp)else RdS w tv r.tx/\err=.nilIface
theorem LookAt_bad{w:World}{r:Rec}(h:r.fl=true\/r.tp=true):LookAt w (.slice none 0 0) (.iface 77 (.bool r.tp)) (some r):=by
 simp[LookAt,h]
theorem LookAt_ok{w:World}{tv:Value}{r:Rec}(h:¬(r.fl=true\/r.tp=true))(ht:RdS w tv r.tx):LookAt w tv .nilIface (some r):=by
 simp only[LookAt,if_neg h];exact⟨ht,trivial⟩
theorem c40(pa:Addr)(v:Value)(xs:List Rec)(s:ByteArray)(w:World)(hp:w.cell? pa=some v)(hv:RdR w v xs) :
  Calls Tryz.prog 40 #[.string s,.pointer (some pa)] w fun e w'=>∃tv err,e=.returned (.tuple #[tv,err])/\LookAt w' tv err (findR s.data.toList xs)/\Below w.heap.size w w':=by
 obtain⟨A,c,rfl,hc,hlen,hA⟩:=hv;obtain⟨R,hR⟩:∃R,Hid (findR s.data.toList xs=R):=⟨_,rfl⟩;rw[hR.out];have HA:=zH hA;clear hA;go_enter Tryz.func40,Tryz.ntmps40;go_wp2;go_loopg [9] xs.length (fun g i w'=>∃k:Nat,Hid (k+g=xs.length)/\i=.int .i64 (k:Int)/\Hid (findR s.data.toList (xs.drop k)=R)/\Hid (Below w.heap.size w w'))
 case atStart=>exact⟨0,Nat.zero_add _,rfl,hR,zB _ _⟩
 obtain⟨k,hk,rfl,hq,hb⟩:=hrel;have hk':k<=xs.length:=by have:=hk.out;omega
 by_cases hlt:k < xs.length
 ·obtain⟨g,off,rfl,hcell⟩:=HA.out (by omega)
  obtain⟨hc1,⟨tv,hc2,htv⟩,hc3,hc4⟩:=hcell k xs[k] (zG hlt);clear hcell;obtain⟨rec,hrec⟩:∃rec:Rec,Hid (xs[k]=rec):=⟨xs[k],zH rfl⟩;have hq2:=hq.out;rw[List.drop_eq_getElem_cons hlt,hrec.out,findR]at hq2;rw[hrec.out]at hc1 hc3 hc4 htv;have hbb:=hb.out;have e1:=(hbb.cell (p:=⟨g,off+k*4,none⟩) (cell_lt hc1)).trans hc1;have e2:=(hbb.cell (p:=⟨g,off+k*4+1,none⟩) (cell_lt hc2)).trans hc2;have e3:=(hbb.cell (p:=⟨g,off+k*4+2,none⟩) (cell_lt hc3)).trans hc3;have e4:=(hbb.cell (p:=⟨g,off+k*4+3,none⟩) (cell_lt hc4)).trans hc4;have HT:=zH htv;obtain⟨A2,c2,rfl,_⟩:=htv;clear hc1 hc2 hc3 hc4 hq hR;have hbq:=beq_str (B rec.nm) s;rw[L_B]at hbq;have hbS:=hbb.size;have HB:=zH hbb;clear hbb hb;by_cases h1:rec.nm=s.data.toList
  ·have hq:((B rec.nm).toList == s.toList)=true:=by rw[hbq];simpa using h1
   rw[if_pos h1]at hq2;obtain rfl:=hq2;clear hbq h1;cases hfl:rec.fl with
   |true =>
    rw[hfl]at e3;have H1:=zH hfl;clear hfl;go_upto_region 6 with fail
    go_quiet (fail)
    go_wp2;go_ret2
    exact⟨_,_,rfl,LookAt_bad (.inl H1.out),(by repeat(first|exact HB.out|refine below_drewN ?_ _|refine below_al ?_ _))⟩
   |false =>
    rw[hfl]at e3;cases htp:rec.tp with
    |true =>
     rw[htp]at e4;have H1:=zH (And.intro hfl htp);clear hfl htp;go_upto_region 6 with fail
     go_quiet (fail)
     go_wp2;go_ret2
     exact⟨_,_,rfl,by rw[<-H1.out.2];exact LookAt_bad (.inr H1.out.2),(by repeat(first|exact HB.out|refine below_drewN ?_ _|refine below_al ?_ _))⟩
    |false =>
     rw[htp]at e4;have H1:=zH (And.intro hfl htp);clear hfl htp;go_wp2;go_ret2
     exact⟨_,_,rfl,LookAt_ok (by rw[H1.out.1,H1.out.2];simp) (HT.out.below (by repeat(first|exact HB.out|refine below_drewN ?_ _|refine below_al ?_ _))),(by repeat(first|exact HB.out|refine below_drewN ?_ _|refine below_al ?_ _))⟩
  have hq:((B rec.nm).toList == s.toList)=false:=by rw[hbq];simpa using h1
  rw[if_neg h1]at hq2;have HQ:=zH hq2;clear hq2 hbq h1;go_wp2;go_roundg (gk - 1)
  case measure=>have:=hk.out;omega
  case rel=>exact⟨k+1,by have:=hk.out;unfold Hid;omega,by go_num,HQ,(by repeat(first|exact HB.out|refine below_drewN ?_ _|refine below_al ?_ _))⟩
 have hq2:=hq.out;rw[List.drop_eq_nil_of_le (by omega),findR]at hq2;subst hq2;go_wp2;go_ret2
 exact⟨_,_,rfl,⟨rfl,rfl⟩,hb.out⟩
theorem c270(p:Addr)(m:ByteArray)(w:World)(h:w.cell? p=some (.string m)):Calls Tryz.prog 270 #[.pointer (some p)] w fun e w'=>e=.returned (.string m)/\w=w':=by
 go_enter Tryz.func270,Tryz.ntmps270;go_wp2;go_ret
 exact⟨rfl,rfl⟩
theorem c237(b:Bool)(w:World):Calls Tryz.prog 237 #[.bool b] w fun e w'=>e=.returned (.string ⟨#[108,111,111,107,117,112]⟩)/\w=w':=by
 go_enter Tryz.func237,Tryz.ntmps237;go_wp2;go_ret
 exact⟨rfl,rfl⟩
theorem c238(b:Bool)(w:World):Calls Tryz.prog 238 #[.bool b] w fun e w'=>e=.returned (.bool b)/\w=w':=by
 go_enter Tryz.func238,Tryz.ntmps238;go_wp2;go_ret
 exact⟨rfl,rfl⟩
theorem tmp_yes(v:Value)(w:World):(Instr.typeAssert (.iface 77 v) 68 270 true).run Tryz.prog w=.ok (.tuple #[.iface 77 v,.bool true]) w:=run_typeAssert_hasB Tryz.underlying270 (by kernel_rfl) v 68 w
theorem tmp_nil(w:World):(Instr.typeAssert .nilIface 68 270 true).run Tryz.prog w=.ok (.tuple #[.nilIface,.bool false]) w:=by kernel_rfl
theorem mErr(b:Nat)(w:World):(method 488 235 (.pointer (some ⟨b,0,none⟩)) "Error").run Tryz.prog w=.ok (270,.pointer (some ⟨b,0,none⟩)) w:=by kernel_rfl
theorem mLk(b:Bool)(w:World):(method 488 77 (.bool b) "Error").run Tryz.prog w=.ok (237,.bool b) w:=by kernel_rfl
theorem mTmp(b:Bool)(w:World):(method 488 77 (.bool b) "Temporary").run Tryz.prog w=.ok (238,.bool b) w:=by kernel_rfl
theorem mWr(p:Addr)(w:World):(method 488 176 (.pointer (some p)) "Write").run Tryz.prog w=.ok (112,.pointer (some p)) w:=by kernel_rfl
theorem mVer(v:Value)(w:World):(method 488 82 v "Verify").run Tryz.prog w=.ok (241,v) w:=by kernel_rfl
theorem DigAt.gr{S:Nat->Prop}{w w':World}{g:Nat}{bv:Value}{l:List UInt8}(h:DigAt w g bv l)(hG:Gr S w w')(hg:¬S g)(hb:∀k,bv.ownBlock=some k->¬S k):DigAt w' g bv l:=by
 obtain⟨st,h1,h2,h3⟩:=h;exact⟨st,h1,(hG.block g h2.lt hg).trans h2,h3.gr hG hb⟩
theorem DigAt.lt{w:World}{g:Nat}{bv:Value}{l:List UInt8}(h:DigAt w g bv l):g < w.heap.size:=by obtain⟨st,_,h2,_⟩:=h;exact h2.lt
theorem DigAt.row{w:World}{g:Nat}{bv:Value}{l:List UInt8}(h:DigAt w g bv l){k:Nat}(hk:bv.ownBlock=some k):g < k/\k < w.heap.size:=by
 obtain⟨st,_,_,h3⟩:=h;have:=h3.lt k hk;omega
structure RelAt(w:World)(gc g:Nat)(cb bv:Value)(ws wt cr:Bool)(buf lh:List UInt8):Prop where
 blk:Blk w gc #[.iface 176 (.pointer (some ⟨g,0,none⟩)),cb,.bool ws,.bool wt,.bool cr] 367
 own:OwnB w (gc+1) cb buf
 dig:DigAt w g bv lh
 lt:g < gc
 ngc:bv.ownBlock≠some gc
 dis:∀k,cb.ownBlock=some k->bv.ownBlock≠some k
theorem rel_fin{W w4:World}{gc g:Nat}{cb1 bv bv2:Value}{ws' wt' cr':Bool}{B L:List UInt8}(hD:Blk W gc #[.iface 176 (.pointer (some ⟨g,0,none⟩)),cb1,.bool ws',.bool wt',.bool cr'] 367)(hC:OwnB W (gc+1) cb1 B)(hdg:DigAt w4 g bv2 L)
  (hG4:Gr (fun k=>k=g\/bv.ownBlock=some k) W w4)(hl4:bv2.ownBlock=bv.ownBlock\/bv2.ownBlock=some W.heap.size)(hlt:g < gc)(hngc:bv.ownBlock≠some gc)(hdis:∀k,cb1.ownBlock=some k->bv.ownBlock≠some k):RelAt w4 gc g cb1 bv2 ws' wt' cr' B L:=by
 refine⟨(hG4.block gc hD.lt (fun q=>q.elim (fun h=>by omega) hngc)).trans hD,hC.gr hG4 (fun k hk q=>q.elim (fun h=>by have:=(hC.lt k hk).1;omega) (hdis k hk)),hdg,hlt,fun q=>?_,fun k hk q=>?_⟩
 ·rcases hl4 with h|h
  ·exact hngc (h ▸ q)
  rw[h]at q;injection q with q;have:=hD.lt;omega
 rcases hl4 with h|h
 ·exact hdis k hk (h ▸ q)
 rw[h]at q;injection q with q;have:=(hC.lt k hk).2;omega
theorem c294(gc g:Nat)(cb bv v:Value)(ws wt cr:Bool)(buf lh l:List UInt8)(w:World)(h:RelAt w gc g cb bv ws wt cr buf lh)(hv:RdB w v l)(hne:∀g' o n c,v=.slice (some ⟨g',o,none⟩) n c->g'≠gc)
  (hl:l.length<=1073741824)(hbl:buf.length<=1073741824)(hlh:lh.length<=1073741824) :
  Calls Tryz.prog 294 #[.pointer (some ⟨gc,0,none⟩),v] w fun e w'=>e=.returned (.tuple #[.int .i64 (l.length:Int),.nilIface])/\∃cb' bv',RelAt w' gc g cb' bv' (relW ws (ended cr l)) (wt || !(relaxed ws buf (ended cr l)).isEmpty) (crN cr l) (relB buf (ended cr l)) (lh++relaxed ws buf (ended cr l)) /\
   Gr (fun k=>k=gc\/k=g\/cb.ownBlock=some k\/bv.ownBlock=some k) w w':=by
 obtain⟨E,hE⟩:∃E,Hid (ended cr l=E):=⟨_,rfl⟩;rw[hE.out];have hEl:E.length<=2147483648:=by rw[<-hE.out];have:=endedLe cr l;omega
 obtain⟨R,hR⟩:∃R,Hid (relaxed ws buf E=R):=⟨_,rfl⟩;rw[hR.out];have hRl:R.length<=10000000000:=by
  rw[<-hR.out];have key:∀(l:List UInt8) (ws:Bool) (b:List UInt8),(relaxed ws b l).length<=b.length+2*l.length:=by
   intro l;induction l with
   |nil=>intro ws b;simp[relaxed]
   |cons c l ih =>
    intro ws b;rw[relaxed];split
    ·have:=ih true b;simp;omega
    split
    ·have:=ih false (b++[c]);simp at this ⊢;omega
    have:=ih false [];cases ws <;> (simp at this ⊢;omega)
  have:=key E ws buf;omega
 have HH:=zH h;have HV:=zH hv;have HNE:=zH hne;have hgcl:=h.blk.lt;have hmk:=make_bytes E.length (by omega);have hmW:=mWr;have hcbl:Hid (∀k,cb.ownBlock=some k->gc < k/\k < w.heap.size):=fun k hk=>by have:=h.own.lt k hk;omega
 have hbvl:Hid (∀k,bv.ownBlock=some k->g < k/\k < w.heap.size):=fun k hk=>h.dig.row hk
 obtain⟨A0,c0,rfl,_⟩:=hv;clear h hne;go_enter Tryz.func294,Tryz.ntmps294;go_upto_region 3 with(go_at_call 292;refine(c292 gc 4 _ 367 cr _ l _ HH.out.blk rfl HV.out HNE.out hl).mono ?_;rintro e w1⟨v1,rfl,hO1,hD1,hG1⟩;rw[hE.out]at hO1;have hsz1:=hG1.size)
 obtain⟨AB,cB,rfl,_,_,hAB⟩:=hO1.slice;have hw2:Hid (w1.heap.size<=(w1.alloc (.cells (madeCells #[.int .u8 0] E.length) 5)).heap.size):=by unfold Hid;simp
 have hB:Hid (0 < E.length->∃kb ob,AB=some ⟨kb,ob,none⟩/\kb≠gc/\cb.ownBlock≠some kb/\kb < w1.heap.size/\∀(i:Nat) (x:UInt8),E[i]?=some x->(w1.alloc (.cells (madeCells #[.int .u8 0] E.length) 5)).cell? ⟨kb,ob+i,none⟩=some (byteV x)):=fun hp=>by
  obtain⟨kb,ob,h1,h2,h3,h4,_⟩:=hAB hp;refine⟨kb,ob,h1,by omega,fun q=>by have:=(hcbl.out kb q).2;omega,h3,fun i x hx=>?_⟩;exact((zB w1.heap.size w1).alloc (zR _) _).cell (p:=⟨kb,ob+i,none⟩) h3 |>.trans (h4 i x hx)
 have hv0:=zH (own_made E.length (by omega) w1 w1.heap.size (zR _));have hgc1:gc < w1.heap.size:=zL hgcl hsz1;have hD2:Hid (Blk (w1.alloc (.cells (madeCells #[.int .u8 0] E.length) 5)) gc #[.iface 176 (.pointer (some ⟨g,0,none⟩)),cb,.bool ws,.bool wt,.bool (crN cr l)] 367) :=
  (hD1.below ((zB w1.heap.size w1).alloc (zR _) _) hgc1).to (by simp)
 have hC1:OwnB w1 (gc+1) cb buf:=HH.out.own.grown hG1 (HH.out.own.off (Nat.lt_succ_self gc));have hC2:=zH (hC1.alloc (.cells (madeCells #[.int .u8 0] E.length) 5));have hcb1:Hid (∀k,cb.ownBlock=some k->k < w1.heap.size):=fun k hk=>by have:=(hcbl.out k hk).2;omega
 have hGG:Hid (Gr (relS gc w1.heap.size cb) w (w1.alloc (.cells (madeCells #[.int .u8 0] E.length) 5))):=((Gr.of_grown hG1).mono (fun k _ q=>.inl (by injection q with q;exact q.symm))).trans (Gr.of_below ((zB w1.heap.size w1).alloc (zR _) _));have HS1:=zH hsz1;clear hO1 hAB hD1 hC1 hG1 hsz1;go_wp2;clear hmk;generalize w1.alloc (.cells (madeCells #[.int .u8 0] E.length) 5)=w2 at *
 obtain⟨bc,hbc⟩:∃bc,Hid (w1.heap.size=bc):=⟨_,rfl⟩;rw[hbc.out]at hw2 hB hv0 hcb1 hGG hgc1 HS1 ⊢;refine l294 _ _ _ _ _ _ _ _ _ _ _ _ _ _ _ _ _ _ _ _ _ _ _ _ _ _ _ _ _ _ _ _ _ _ _ _ _ _ _ _ _ _ _ _ _ _ _ _ _ _ _ _ _ _ _ _ _ _ _ _ _ _ _ _ _ _ _ _ _ _ _ _ _ _ _ _ _ _ _ _ _ _ _ _ _ _ _ _ _ _ _ _ _ _ _ _ _ _ _ _ _ _ _ _ _ _ _ _ _ _ _ _ (by kernel_rfl) gc bc cB _ cb _ AB E buf ws wt (crN cr l) w2 hEl (by omega) hgc1 hw2.out hB hv0 hD2 hC2 hcb1 ?_;intro v3 cb1 u9 u24 u25 u26 u27 u28 u29 u30 u31 u32 u33 u34 u35 u36 u37 u38 u39 u40 u41 u42 u43 u44 u45 u46 u47 u48 u49 u50 u51 u52 u53 u54 u55 u56 u57 u58 u59 u60 u61 u62 u63 u64 u65 u66 u67 u68 u69 u70 u71 u72 u73 u74 u75 u76 u77 u78 u79 u80 u81 u82 u83 u84 u85 u86 u87 u88 u89 u90 w3 hO3 hD3 hC3 hdis3 horg3 hG3;rw[hR.out]at hO3;have hGw3:Gr (relS gc bc cb) w w3:=hGG.out.trans hG3;have hdg3:DigAt w3 g bv lh:=HH.out.dig.gr hGw3 (by
   have h1:=HH.out.lt;have h2:=HH.out.dig.lt;have h3:=HS1.out;intro q;rcases q with q|q|q
   ·omega
   ·have:=(hcbl.out g q).1;omega
   ·omega) (fun k hk q=>by
   have h1:=hbvl.out k hk;have h3:=HS1.out;rcases q with q|q|q
   ·exact HH.out.ngc (by rw[hk,q])
   ·exact HH.out.dis k q hk
   omega)
 obtain⟨A3,c3,rfl,_⟩:=hO3.slice;have HX:=zH (And.intro hO3 (And.intro hD3 (And.intro hC3 (And.intro hdis3 (And.intro horg3 (And.intro hGw3 hdg3))))));have p3:=hD3.cell 3;have p0:=hD3.cell 0;have f3:=hD3.frozen 3;have hsz3:=zH hGw3.size;clear hO3 hD3 hC3 hdis3 horg3 hG3 hGw3 hdg3 hB hv0 hD2 hC2 hGG;cases wt with
 |true =>
  go_wp2_with (go_at_call 112;refine(c112 g bv lh R A3 _ c3 _ (HX.out.2.2.2.2.2.2) (HX.out.1.rdB) (by omega)).mono ?_;rintro e w4⟨rfl,bv2,hd4,hG4,hl4⟩);go_ret2
  have hb4:Hid (∀k,cb1.ownBlock=some k->bv.ownBlock≠some k):=fun k hk q=>by
   rcases HX.out.2.2.2.2.1 k hk with h|h
   ·exact HH.out.dis k h q
   have:=(hbvl.out k q).2;have:=HS1.out;omega
  have hfst:Gr (fun k=>k=gc\/k=g\/cb.ownBlock=some k\/bv.ownBlock=some k) w w3:=HX.out.2.2.2.2.2.1.mono (fun k hk q=>by
   rcases q with q|q|q
   ·exact .inl q
   ·exact .inr (.inr (.inl q))
   have:=HS1.out;omega)
  exact⟨rfl,cb1,bv2,rel_fin (HX.out.2.1.to (by simp)) (HX.out.2.2.1) hd4 hG4 hl4 HH.out.lt HH.out.ngc hb4.out,(hfst).then hG4 (fun k _ q=>q.elim (fun h=>.inr (.inl h)) (fun h=>.inr (.inr (.inr h))))⟩
 |false =>
  by_cases hR0:R.length=0
  ·have hRe:R=[]:=List.eq_nil_of_length_eq_zero hR0
   have hI:¬(0:Int) < (R.length:Int):=by omega
   have HRE:=zH hRe;clear hRe hR0;go_wp2_with (go_at_call 112;refine(c112 g bv lh R A3 _ c3 _ (HX.out.2.2.2.2.2.2) (HX.out.1.rdB) (by omega)).mono ?_;rintro e w4⟨rfl,bv2,hd4,hG4,hl4⟩);go_ret2
   have hb4:Hid (∀k,cb1.ownBlock=some k->bv.ownBlock≠some k):=fun k hk q=>by
    rcases HX.out.2.2.2.2.1 k hk with h|h
    ·exact HH.out.dis k h q
    have:=(hbvl.out k q).2;have:=HS1.out;omega
   have hfst:Gr (fun k=>k=gc\/k=g\/cb.ownBlock=some k\/bv.ownBlock=some k) w w3:=HX.out.2.2.2.2.2.1.mono (fun k hk q=>by
    rcases q with q|q|q
    ·exact .inl q
    ·exact .inr (.inr (.inl q))
    have:=HS1.out;omega)
   exact⟨rfl,cb1,bv2,rel_fin (HX.out.2.1.to (by rw[HRE.out];simp)) (HX.out.2.2.1) hd4 hG4 hl4 HH.out.lt HH.out.ngc hb4.out,(hfst).then hG4 (fun k _ q=>q.elim (fun h=>.inr (.inl h)) (fun h=>.inr (.inr (.inr h))))⟩
  have hI:(0:Int) < (R.length:Int):=by omega
  have HRE:Hid ((false || !R.isEmpty)=true):=by unfold Hid;cases R with
   |nil=>exact absurd rfl hR0
   |cons y r=>rfl
  clear hR0;go_wp2_with (go_at_call 112;refine(c112 g bv lh R A3 _ c3 _ (HX.out.2.2.2.2.2.2.gr (Gr.of_grown (grown_set w3 gc 3 (.bool true))) (fun q=>by injection q with q;have:=HH.out.lt;omega) (fun k hk q=>by injection q with q;exact HH.out.ngc (q ▸ hk))) ((HX.out.1.setNe hgc1).rdB) (by omega)).mono ?_;rintro e w4⟨rfl,bv2,hd4,hG4,hl4⟩);go_ret2
  have hb4:Hid (∀k,cb1.ownBlock=some k->bv.ownBlock≠some k):=fun k hk q=>by
   rcases HX.out.2.2.2.2.1 k hk with h|h
   ·exact HH.out.dis k h q
   have:=(hbvl.out k q).2;have:=HS1.out;omega
  have hfst:Gr (fun k=>k=gc\/k=g\/cb.ownBlock=some k\/bv.ownBlock=some k) w w3:=HX.out.2.2.2.2.2.1.mono (fun k hk q=>by
   rcases q with q|q|q
   ·exact .inl q
   ·exact .inr (.inr (.inl q))
   have:=HS1.out;omega)
  exact⟨rfl,cb1,bv2,rel_fin ((HX.out.2.1.set_ 3 (.bool true)).to (by rw[HRE.out];simp)) (HX.out.2.2.1.setAt) hd4 hG4 hl4 HH.out.lt HH.out.ngc hb4.out,(gr_set hfst gc 3 (.bool true) (.inl rfl)).then hG4 (fun k _ q=>q.elim (fun h=>.inr (.inl h)) (fun h=>.inr (.inr (.inr h))))⟩
theorem c293(gc g:Nat)(cb bv:Value)(ws wt cr:Bool)(buf lh:List UInt8)(w:World)(h:RelAt w gc g cb bv ws wt cr buf lh)(hlh:lh.length<=1073741824) :
  Calls Tryz.prog 293 #[.pointer (some ⟨gc,0,none⟩)] w fun e w'=>e=.returned .nilIface/\∃bv',DigAt w' g bv' (lh++if wt=true then[13,10]else[])/\Gr (fun k=>k=g\/bv.ownBlock=some k) w w'/\(bv'.ownBlock=bv.ownBlock\/∃m,w.heap.size<=m/\bv'.ownBlock=some m):=by
 have HH:=zH h;have p0:=h.blk.cell 0;have p3:=h.blk.cell 3;have hmW:=mWr;have hgc:=h.blk.lt;clear h;cases wt with
 |false =>
  go_enter Tryz.func293,Tryz.ntmps293;go_wp2;go_ret
  exact⟨rfl,bv,by simpa using HH.out.dig,Gr.refl _ _,.inl rfl⟩
 |true =>
  have hcv:=fun(W:World) (C:Array Value) (n c:Nat)=>Lib.run_convert_bytes_const (P:=Tryz.prog) W 33 5 C n c Tryz.underlying33 Tryz.underlying5
  have hgr:=HH.out.dig.gr (Gr.of_below (S:=fun _=>False) ((zB w.heap.size w).alloc (zR _) (.cells #[.int .u8 13,.int .u8 10] 5 (2,3)))) (fun h=>h) (fun _ _ h=>h);have hrd:RdB (w.alloc (.cells #[.int .u8 13,.int .u8 10] 5 (2,3))) (.slice (some ⟨w.heap.size,0,none⟩) 2 2) [13,10]:=⟨_,_,rfl,by decide,fun _=>⟨_,_,rfl,fun i x hx=>by
   match i,hx with
   |0,hx=>injection hx with hx;subst hx;simp only[World.cell?,World.alloc,Array.getElem?_push_size];rfl
   |1,hx=>injection hx with hx;subst hx;simp only[World.cell?,World.alloc,Array.getElem?_push_size];rfl⟩⟩
  have HX:=zH (And.intro hgr hrd);clear hgr hrd;go_enter Tryz.func293,Tryz.ntmps293;go_wp2_with (go_at_call 112;refine(c112 g bv lh [13,10] _ _ _ _ HX.out.1 HX.out.2 (by simp;omega)).mono ?_;rintro e w4⟨rfl,bv2,hd4,hG4,hl4⟩);go_ret
  refine⟨rfl,bv2,hd4,((Gr.of_below ((zB w.heap.size w).alloc (zR _) _)).trans hG4),hl4.elim .inl (fun h=>.inr ⟨_,?_,h⟩)⟩;simp
theorem crN_app(c:Bool)(l m:List UInt8):crN c (l++m)=crN (crN c l) m:=by
 induction l generalizing c with
 |nil=>rfl
 |cons x l ih=>simp only[List.cons_append,crN];exact ih _
theorem crN_ne(c d:Bool){l:List UInt8}(h:l≠[]):crN c l=crN d l:=by
 cases l with
 |nil=>exact absurd rfl h
 |cons x l=>rfl
theorem ended_app(c:Bool)(l m:List UInt8):ended c (l++m)=ended c l++ended (crN c l) m:=by
 induction l generalizing c with
 |nil=>rfl
 |cons x l ih =>
  simp only[List.cons_append,ended,crN];split
  ·rename_i h
   have:((x.toNat:Int) == 13)=false:=zF (by omega);rw[ih,this];rfl
  rw[ih];rfl
theorem crN_ended(c:Bool)(l:List UInt8):crN c (ended c l)=crN c l:=by
 induction l generalizing c with
 |nil=>rfl
 |cons x l ih =>
  simp only[ended];split
  ·rename_i h
   have:((x.toNat:Int) == 13)=false:=zF (by omega);have h10:(((10:UInt8).toNat:Int) == 13)=false:=rfl;simp only[crN,this,h10];exact ih false
  simp only[crN];exact ih _
theorem ended_no10(l:List UInt8)(x:UInt8)(m:List UInt8)(h:ended false l=x::m):(x.toNat:Int)≠10:=by
 cases l with
 |nil=>simp[ended]at h
 |cons y l =>
  rw[ended]at h;split at h
  ·injection h with h1 h2;subst h1;decide
  rename_i hn;injection h with h1 h2;subst h1
  intro q;exact hn ⟨q,rfl⟩
theorem relW_app(ws:Bool)(l m:List UInt8):relW ws (l++m)=relW (relW ws l) m:=by
 induction l generalizing ws with
 |nil=>rfl
 |cons x l ih=>simp only[List.cons_append,relW];split <;> exact ih _
theorem relB_app(e l m:List UInt8):relB e (l++m)=relB (relB e l) m:=by
 induction l generalizing e with
 |nil=>rfl
 |cons x l ih=>simp only[List.cons_append,relB];split;exact ih _;split <;> exact ih _
theorem relaxed_app(ws:Bool)(e l m:List UInt8):relaxed ws e (l++m)=relaxed ws e l++relaxed (relW ws l) (relB e l) m:=by
 induction l generalizing ws e with
 |nil=>rfl
 |cons x l ih =>
  simp only[List.cons_append,relaxed,relW,relB];split
  ·exact ih _ _
  split
  ·exact ih _ _
  rw[ih];simp
def pend : List UInt8->Prop
 |[]=>True
 |[c]=>(c.toNat:Int)=13
 |c::d::l=>(c.toNat:Int)=13/\(d.toNat:Int)=10/\pend l
theorem pend_head{x:UInt8}{l:List UInt8}(h:pend (x::l)):(x.toNat:Int)=13:=by
 cases l with
 |nil=>exact h
 |cons y l=>exact h.1
theorem ended_pend : ∀(n:Nat) (c:Bool) (l:List UInt8),l.length<=n->pend l->ended c l=l:=by
 intro n;induction n with
 |zero=>intro c l hl _;rw[List.eq_nil_of_length_eq_zero (Nat.le_zero.1 hl)];rfl
 |succ n ih =>
  intro c l hl h
  match l,h with
  |[],_=>rfl
  |[x],h=>simp only[ended];rw[if_neg (fun q=>by have:=q.1;unfold pend at h;omega)]
  |x::y::l,h =>
   have hx:((x.toNat:Int) == 13)=true:=zE h.1;have hy:((y.toNat:Int) == 13)=false:=zF (by have:=h.2.1;omega);have h1:=h.1;rw[ended,if_neg (fun q=>by have:=q.1;omega),hx,ended,if_neg (fun q=>by have:=q.2;simp at this),hy,ih false l (by simp at hl;omega) h.2.2]
theorem pend_pairs : ∀(n:Nat) (r:List UInt8),r.length<=n->∃p,r=p++dropCRLF r/\(∀q,pend q->pend (p.reverse++q)):=by
 intro n;induction n with
 |zero=>intro r hr;obtain rfl:=List.eq_nil_of_length_eq_zero (Nat.le_zero.1 hr);exact⟨[],rfl,fun q h=>h⟩
 |succ n ih =>
  intro r hr
  match r with
  |[]=>exact⟨[],rfl,fun q h=>h⟩
  |[x]=>exact⟨[],rfl,fun q h=>h⟩
  |x::y::r =>
   rw[dropCRLF];split
   ·rename_i h
    obtain⟨p,h1,h2⟩:=ih r (by simp at hr;omega);refine⟨x::y::p,by simpa using h1,fun q hq=>?_⟩;have:=h2 (y::x::q) ⟨h.2,h.1,hq⟩
    simpa using this
   exact⟨[],rfl,fun q h=>h⟩
theorem drop_idem : ∀(n:Nat) (r:List UInt8),r.length<=n->dropCRLF (dropCRLF r)=dropCRLF r:=by
 intro n;induction n with
 |zero=>intro r hr;obtain rfl:=List.eq_nil_of_length_eq_zero (Nat.le_zero.1 hr);rfl
 |succ n ih =>
  intro r hr
  match r with
  |[]=>rfl
  |[x]=>rfl
  |x::y::r =>
   by_cases h:(x.toNat:Int)=10/\(y.toNat:Int)=13
   ·rw[show dropCRLF (x::y::r)=dropCRLF r from by rw[dropCRLF,if_pos h]];exact ih r (by simp at hr;omega)
   rw[show dropCRLF (x::y::r)=x::y::r from by rw[dropCRLF,if_neg h]];rw[dropCRLF,if_neg h]
theorem drop_app : ∀(n:Nat) (r s:List UInt8),r.length<=n->dropCRLF s=s->(∀x,r.getLast?=some x->(x.toNat:Int)≠10)->dropCRLF (r++s)=dropCRLF r++s:=by
 intro n;induction n with
 |zero=>intro r s hr hs _;obtain rfl:=List.eq_nil_of_length_eq_zero (Nat.le_zero.1 hr);exact hs
 |succ n ih =>
  intro r s hr hs hl
  match r with
  |[]=>exact hs
  |[x] =>
   have hx:=hl x rfl;cases s with
   |nil=>rfl
   |cons y s=>rw[show[x]++y::s=x::y::s from rfl,dropCRLF,if_neg (fun q=>hx q.1)];rfl
  |x::y::r =>
   simp only[List.cons_append];rw[dropCRLF,dropCRLF];split
   ·refine ih r s (by simp at hr;omega) hs fun z hz=>hl z ?_
    cases r with
    |nil=>simp at hz
    |cons a r=>simpa using hz
   rfl
structure SimpI(lh buf:List UInt8)(cr:Bool):Prop where
 pend:pend buf
 head:dropCRLF lh.reverse=lh.reverse
 none:buf=[]->cr=false
 crb:crN cr buf=cr
theorem SimpI.zero : SimpI [] [] false:=⟨trivial,rfl,fun _=>rfl,rfl⟩
theorem simp_fix{lh buf:List UInt8}{cr:Bool}(h:SimpI lh buf cr)(l:List UInt8):ended cr (buf++l)=buf++ended cr l/\crN cr (buf++l)=crN cr l:=by
 rw[ended_app,crN_app,h.crb,ended_pend _ cr buf (zR _) h.pend];exact⟨rfl,rfl⟩
theorem simp_step{lh buf:List UInt8}{cr:Bool}(h:SimpI lh buf cr)(l b:List UInt8)(hb:b=buf++ended cr l)(e0 e:Nat)(he0:e0<=b.length)
  (h0:(e0=b.length/\∀x,b.getLast?=some x->(x.toNat:Int)≠13)\/(∃x,(x.toNat:Int)=13/\b.drop e0=[x]))(he:b.take e=(dropCRLF (b.take e0).reverse).reverse)(hee:e<=e0) :
  SimpI (lh++b.take e) (b.drop e) (crN cr l):=by
 obtain⟨p,hp1,hp2⟩:=pend_pairs _ (b.take e0).reverse (zR _);have hsplit:b=b.take e++(p.reverse++b.drop e0):=by
  have h1:b.take e0=b.take e++p.reverse:=by
   have:=congrArg List.reverse hp1;rw[List.reverse_reverse,List.reverse_append]at this;rw[this,<-he]
  rw[<-List.append_assoc,<-h1,List.take_append_drop]
 have hd:b.drop e=p.reverse++b.drop e0:=by
  have:=hsplit.symm.trans (List.take_append_drop e b).symm;exact(List.append_cancel_left this).symm
 have hfirst:∀x m,b=x::m->(x.toNat:Int)≠10:=by
  intro x m hx;cases hbuf:buf with
  |nil =>
   rw[hbuf,h.none hbuf,List.nil_append]at hb;exact ended_no10 l x m (hb.symm.trans hx)
  |cons y buf2 =>
   rw[hbuf,hx]at hb;injection hb with h1 h2
   have:=pend_head (hbuf ▸ h.pend);rw[h1];omega
 have hcrb:crN cr b=crN cr l:=by rw[hb,crN_app,h.crb,crN_ended]
 refine⟨?_,?_,fun hn=>?_,?_⟩
 ·rw[hd];refine hp2 _ ?_
  rcases h0 with⟨h0,_⟩|⟨x,hx,h0⟩
  ·rw[h0,List.drop_length];trivial
  rw[h0];exact hx
 ·rw[List.reverse_append]
  have hr:(b.take e).reverse=dropCRLF (b.take e0).reverse:=by rw[he,List.reverse_reverse]
  rw[drop_app _ _ _ (zR _) h.head,hr,drop_idem _ _ (zR _)];intro x hx;rw[List.getLast?_reverse]at hx;cases hb':b with
  |nil=>rw[hb']at hx;simp at hx
  |cons y m =>
   rw[hb']at hx;cases e with
   |zero=>simp at hx
   |succ e=>simp at hx;subst hx;exact hfirst y m hb'
 ·rw[<-hcrb]
  have hbe:b.take e=b:=by have:=List.take_append_drop e b;rw[hn,List.append_nil]at this;exact this
  rcases h0 with⟨_,h0⟩|⟨x,hx,h0⟩
  ·rcases List.eq_nil_or_concat b with hbn|⟨m,z,hz⟩
   ·rw[hbn]
    have:buf=[]:=by rw[hbn]at hb;exact(List.append_eq_nil_iff.1 hb.symm).1
    exact h.none this
   rw[hz,List.concat_eq_append,crN_app];have:=h0 z (by rw[hz];simp)
   simpa [crN]using this
  have h2:=hd.symm.trans hn;rw[h0]at h2;simp at h2
 cases hbe:b.drop e with
 |nil=>rfl
 |cons y m =>
  have h1:crN (crN cr l) (y::m)=crN (crN cr (b.take e)) (y::m):=crN_ne _ _ (by simp);rw[h1,<-crN_app,<-hbe,List.take_append_drop,hcrb]
theorem crN_last(c:Bool)(l:List UInt8)(x:UInt8):crN c (l++[x])=((x.toNat:Int) == 13):=by rw[crN_app];rfl
theorem pend_even : ∀(n:Nat) (lh l:List UInt8),l.length<=n->pend l->(∀x,l.getLast?=some x->(x.toNat:Int)≠13)->bodyS (lh++l)=bodyS lh:=by
 intro n;induction n with
 |zero=>intro lh l hl _ _;rw[List.eq_nil_of_length_eq_zero (Nat.le_zero.1 hl),List.append_nil]
 |succ n ih =>
  intro lh l hl h hla
  match l,h with
  |[],_=>rw[List.append_nil]
  |[x],h=>exact absurd h (hla x rfl)
  |x::y::l,h =>
   have hx:x=13:=UInt8.toNat_inj.1 (by have:=h.1;simp;omega);have hy:y=10:=UInt8.toNat_inj.1 (by have:=h.2.1;simp;omega);subst hx hy;rw[show lh++13::10::l=(lh++[13,10])++l from by simp,ih _ l (by simp at hl;omega) h.2.2 (fun z hz=>hla z (by cases l with|nil=>simp at hz|cons a r=>simpa using hz)),bodyS_end]
theorem simp_close{lh buf:List UInt8}{cr:Bool}(h:SimpI lh buf cr):(if cr=true then lh++buf else lh)=bodyS (lh++buf):=by
 have hlh:bodyS lh=lh:=by unfold bodyS;rw[h.head,List.reverse_reverse]
 rcases List.eq_nil_or_concat buf with hn|⟨m,z,hz⟩
 ·rw[h.none hn,hn,List.append_nil,hlh];rfl
 rw[List.concat_eq_append]at hz;have hcr:cr=((z.toNat:Int) == 13):=by rw[<-h.crb,hz,crN_last]
 by_cases hz13:(z.toNat:Int)=13
 ·rw[hcr,zE hz13,if_pos rfl,hz]
  unfold bodyS;rw[<-List.append_assoc,List.reverse_append];show _=(dropCRLF (z::(lh++m).reverse)).reverse;cases hr:(lh++m).reverse with
  |nil=>rw[List.reverse_eq_nil_iff.1 hr];rfl
  |cons y r=>rw[dropCRLF,if_neg (fun q=>by omega),<-hr];simp
 have hne:cr=false:=by rw[hcr];exact zF hz13
 rw[hne,pend_even _ lh buf (zR _) h.pend (fun x hx=>by rw[hz]at hx;simp at hx;subst hx;exact hz13),hlh];rfl
end Go.Proofs.YtnkihlpmmfeioaaGreatDoor
