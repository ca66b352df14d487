/- Part of the proof that laws.FnDVerifies answers true: A111,A112 -/
import Derived.Test.YtnkihlpmmfeioaaGreatDoorZ45
set_option linter.unusedVariables false
set_option linter.unusedSimpArgs false
set_option maxRecDepth 1000000
set_option maxHeartbeats 16000000
namespace Go.Proofs.YtnkihlpmmfeioaaGreatDoor
open Go.RowKit
theorem RdrAt.bytes{w:World}{A:Option Addr}{n c:Nat}{v:Value}{body:List UInt8}{b0:Nat}(hv:v=.slice A n c)(ho:OwnB w b0 v body)(hl:body.length<=20000000) :
  RdrAt (w.alloc (.cells #[v,.int .i64 0,.int .i64 (-1)] 251)) (fun k=>k=w.heap.size) (w.heap.size+1) 196 (.pointer (some ⟨w.heap.size,0,none⟩)) body:=by
 subst hv;refine .inr ⟨w.heap.size,A,n,c,-1,rfl,rfl,Blk.new _ _ _,(ho.alloc _).rdB,hl,rfl,Nat.lt_succ_self _,fun a ha=>?_⟩;subst ha;rcases ho with⟨h,_⟩|⟨g,off,cap,h,h1,h2,_⟩
 ·cases h
 injection h with h _ _
 injection h with h
 subst h;exact⟨by show g < _;omega,rfl,by show ¬g=_;omega⟩
theorem info88 : (Tryz.prog.info? 88).map (fun i=>(i.zero,i.size,i.bytes))=some (some (.pointer none),1,8):=by kernel_rfl
theorem make_ptrs(n:Nat)(hn:n<=1000000000)(W:World):(Instr.makeSlice 66 (.int .i64 (n:Int)) (.int .i64 (n:Int))).run Tryz.prog W=.ok (.slice (some ⟨W.heap.size,0,none⟩) n n) (W.alloc (.cells (ptrRow [] n) 88)):=by
 obtain⟨i,hi,hz0,hz1,hz2⟩:=info_parts info88;have:=run_make (P:=Tryz.prog) W 66 88 i (.pointer none) Tryz.underlying66 hi hz0 .i64 .i64 n n (by omega) (Int.le_refl _) (by rw[hz2];omega) (by omega);simp only[Int.toNat_natCast,hz1,Nat.mul_one]at this;rw[this,show madeCells (Value.pointer none).cells n=ptrRow [] n from ?_];rw[show(Value.pointer none).cells=#[.pointer none]from rfl];apply Array.ext
 ·simp[ptrRow,size_madeCells]
 intro j h1 h2;simp[madeCells,ptrRow,Nat.mod_one]
theorem ErrIs.form{err:Value}{c:Int}(h:ErrIs err c):err=.nilIface\/∃t m,err=.iface t (.string m):=by
 rcases h with⟨h,_⟩|⟨m,h,_⟩|⟨m,h,_⟩|⟨m,h,_⟩
 ·exact .inl h
 all_goals exact .inr ⟨_,_,h⟩
theorem c68(gb gd gs r q i:Nat)(err:Value)(T S:List UInt8)(pE pF:Addr)(w:World)(h:BufAt w gb gd gs r q i err T S)(hok:errOk err i S pE)(hE:Errs w pE pF)(hS:S.length<=1099511627776)(h3:errTop pE pF < gb/\errTop pE pF < gd/\errTop pE pF < gs)
  (po:Nat)(pa:Addr)(v0:Value)(recs:List Rec)(pS pR:Addr)(txS txR:ByteArray)(now:Int)(nb:Bool)(fs sigs:List (List UInt8))(cH:Nat)(AH:Option Addr)(sv:Value)(body:List UInt8)(hbody:restOf r q i T S=body)(hF:FB fs body recs)(hsn:sigs.length<=20000)
  (hK:∀W,Gr (fun k=>(k=gb\/k=gd\/k=gs)\/w.heap.size<=k) w W->VE W po pa v0 recs pS pR txS txR now nb/\RdS W (.slice AH fs.length cH) fs/\SigAt W sv fs sigs)(hAH:∀a,AH=some a->a.block < w.heap.size)(h3w:gb < w.heap.size/\gd < w.heap.size/\gs < w.heap.size) :
  Calls Tryz.prog 68 #[.iface 107 (.pointer (some ⟨gb,0,none⟩)),.slice AH fs.length cH,sv,.pointer (some ⟨po,0,none⟩)] w fun e w'=>∃v,e=.returned (.tuple #[v,.nilIface])/\RdPV w' v fs body recs now sigs/\Gr (fun k=>(k=gb\/k=gd\/k=gs)\/w.heap.size<=k) w w':=by
 have HK:=zH hK;have HF:=zH hF;have hbl:=hF.bl;have hAHH:=zH hAH;have h115:Hid (Calls Tryz.prog 115 #[.iface 107 (.pointer (some ⟨gb,0,none⟩))] w fun e w'=>∃v,e=.returned (.tuple #[v,.nilIface])/\OwnB w' w.heap.size v body/\Gr (fun k=>k=gb\/k=gd\/k=gs) w w'):=by
  have:=c115 gb gd gs r q i err T S pE pF w h hok hE hS h3 (by rw[hbody];omega);rw[hbody]at this;exact this
 obtain⟨_,⟨A2,c2,hsv,hsc,_⟩⟩:=(hK w (Gr.refl _ _)).2;subst hsv;clear hK hF h hok hE h3 hAH;go_enter Tryz.func68,Tryz.ntmps68;have i1:(0:Int)<=(sigs.length:Int):=Int.natCast_nonneg _;have i2:(sigs.length:Int)<=20000:=by omega
 go_upto_region 4 with(go_at_call 115;refine h115.out.mono ?_;rintro e w1⟨bv,rfl,ho,hg1⟩)
 obtain⟨gm,hgm⟩:∃gm,Hid (w1.heap.size=gm):=⟨_,rfl⟩;have hmk:=make_ptrs sigs.length (by omega) w1;obtain⟨W1,hW1⟩:∃W,Hid (w1.alloc (.cells (ptrRow [] sigs.length) 88)=W):=⟨_,rfl⟩;rw[hW1.out,hgm.out]at hmk;have hb01:Below w1.heap.size w1 W1:=by rw[<-hW1.out];exact(zB _ _).alloc (zR _) _
 have hm1:Hid (Blk W1 gm (ptrRow [] sigs.length) 88):=by rw[<-hW1.out,<-hgm.out];exact Blk.new _ _ _
 have hgw:w.heap.size<=gm:=by rw[<-hgm.out];exact hg1.size
 have hG1:Hid (Gr (fun k=>(k=gb\/k=gd\/k=gs)\/w.heap.size<=k) w W1):=(hg1.mono fun k _ q=>.inl q).trans (Gr.of_below hb01);have hbv:Hid (OwnB W1 w.heap.size bv body/\∀k,bv.ownBlock=some k->k≠gm):=⟨ho.below hb01,fun k hk=>by have:=ho.lt k hk;have:=hgm.out;omega⟩;clear hW1 hb01 ho hg1;go_wp2;go_loopg [33] sigs.length (fun g j w'=>∃k:Nat,∃ps:List Nat,Hid (k+g=sigs.length)/\j=.int .i64 k/\Hid (ps.length=k)/\Hid (Blk w' gm (ptrRow ps sigs.length) 88)/\Hid (OwnB w' w.heap.size bv body/\∀k,bv.ownBlock=some k->k≠gm)/\Hid (Gr (fun k=>(k=gb\/k=gd\/k=gs)\/w.heap.size<=k) w w')/\Hid (∀(j vp:Nat) (f:List UInt8),ps[j]?=some vp->sigs[j]?=some f->vp≠gm/\VerF w' vp fs body recs now f))
 case atStart=>exact⟨0,[],Nat.zero_add _,rfl,rfl,hm1,hbv,hG1,fun j vp f h=>by simp at h⟩
 clear hmk hm1 hbv hG1;obtain⟨k,ps,hk,rfl,hpl,hm,hbo,hG,hver⟩:=hrel;have hk':k<=sigs.length:=by have:=hk.out;omega
 by_cases hlt:k < sigs.length
 ·obtain⟨hEk,hRow,hSig⟩:=HK.out wr hG.out
  obtain⟨As,cs,hs1,_,hs2⟩:=hSig;injection hs1 with hs1 _ hs3
  subst hs1 hs3;obtain⟨gq,rfl,hs4⟩:=hs2 (by omega);obtain⟨f,hf⟩:∃f:List UInt8,Hid (sigs[k]?=some f):=⟨sigs[k],zG hlt⟩;obtain⟨b,ix,e1,e2,e3,hfi⟩:=hs4 k f hf.out;have hil:=(List.getElem?_eq_some_iff.1 hfi).1;obtain⟨Ah,ch,hr1,hr2,_,hr3⟩:=hRow;injection hr1 with hr1 _ hr4
  subst hr1 hr4;obtain⟨gf,off,rfl,hr5⟩:=hr3 (by omega);have e4:=hr5 ix f hfi;have hfm:Hid (f∈fs):=List.mem_of_getElem? hfi;have hfn:fs.length<=20000:=HF.out.fn;have hgk:∃G,Hid (k+1+G=sigs.length/\G < gk):=⟨gk - 1,by have:=hk.out;unfold Hid;omega⟩;obtain⟨G,hgk⟩:=hgk;obtain⟨Ab,cb,hbs,_⟩:=hbo.out.1.slice;have HBS:=zH hbs;have hwg:=hG.out.size;have hml:=hm.out.lt;have hmk2:(ptrRow ps sigs.length)[k]?=some (.pointer none):=by rw[<-hpl.out];exact ptrRow_at (by rw[hpl.out];exact hlt)
  have HMK:=zH hmk2;have j1:(0:Int)<=(ix:Int):=Int.natCast_nonneg _;have j2:(ix:Int) < (fs.length:Int):=by omega
  have j3:(k:Int) < (sigs.length:Int):=by omega
  have j4:(0:Int)<=(k:Int):=Int.natCast_nonneg _;have hSS:Hid (∀W',Below wr.heap.size wr W'->W'.cell? ⟨b,0,none⟩=some (.int .i64 (ix:Int))/\W'.cell? ⟨b,1,none⟩=some (.string (B (trim (cutZ 58 f))))/\W'.cell? ⟨gf,off+ix,none⟩=some (.string (B f))):=fun W' hb=>⟨(hb.cell (cell_lt e2)).trans e2,(hb.cell (cell_lt e3)).trans e3,(hb.cell (cell_lt e4)).trans e4⟩
  clear hs4 hr5 hr3 hs2 hEk hmk2 hbs hfi e2 e3 e4;go_upto_region 8 with fail
  go_region_held3 (fun w'=>w'.cell? ⟨b,0,none⟩=some (.int .i64 (ix:Int))/\w'.cell? ⟨b,1,none⟩=some (.string (B (trim (cutZ 58 f))))/\w'.cell? ⟨gf,off+ix,none⟩=some (.string (B f)))
   (first|exact hSS.out _ (below_dr (zB _ _))|exact hSS.out _ hb2|exact hSS.out _ hb4)
   (first
    |(go_at_call 116;refine(c116 _ _ _ _ HBS.out _).mono ?_;rintro e w2⟨rfl,hw2⟩;have hb2:Below wr.heap.size wr w2:=(by rw[hw2];exact(below_dr (zB _ _)).alloc (zR _) _);have hrd:Hid (RdrAt w2 (fun k=>k=wr.heap.size) (wr.heap.size+1) 196 (.pointer (some ⟨wr.heap.size,0,none⟩)) body):=(by rw[hw2];exact RdrAt.bytes (w:=wr.drew) HBS.out hbo.out.1 hbl);have hs2:Hid (w2.heap.size=wr.heap.size+1):=(by unfold Hid;rw[hw2];simp);clear hw2)
    |(go_at_call 64;have hZ:=(HK.out w2 (hG.out.trans (Gr.of_below hb2)));refine(c64 w2 _ (wr.heap.size+1) 196 po _ _ _ pa v0 recs pS pR txS txR now nb body f fs (VZ.mk' hZ.1 HF.out hZ.2.1 hrd.out (Nat.le_of_eq hs2.out.symm) (fun k q=>by omega) (fun a ha=>by have h1:=hAHH.out a ha;have h2:=hb2.size;exact⟨by omega,by omega⟩) (by have:=hZ.1.kr.lt;have h6:=(HK.out wr hG.out).1.kr.lt;omega) hfm.out)).mono ?_;rintro e w4 hp;obtain⟨vp,er,rfl,hvp1,hvp2,her,hc7,hf7,hvf,hG4⟩:=VerF.of hp;have hb4:Below wr.heap.size wr w4:=hb2.trans (hG4.below hb2.size (fun k hk q=>by have:=hs2.out;rcases q with q|q <;> omega));have HVF:=zH hvf;have HER:=zH her;clear hp hvf her hG4))
  have herf:=HER.out.form;have hvw:wr.heap.size<=vp:=by have:=hs2.out;omega
  have hvg:Hid (vp≠gm):=by unfold Hid;omega
  have hb5:Below wr.heap.size wr (w4.setCell ⟨vp,7,none⟩ er):=belowB_set hb4 hvw hb4.size;have hm5:Hid (Blk (w4.setCell ⟨vp,7,none⟩ er) gm (ptrRow ps sigs.length) 88):=hm.out.below hb5 hml;have m0:=hm5.out.cell k;rw[HMK.out]at m0;have m1:=hm5.out.frozen k;have M0:=zH m0;rcases herf with rfl|⟨ty,ms,rfl⟩;all_goals
   go_wp2;go_roundg G
   case measure=>exact hgk.out.2
   case rel =>
    have hps:ps.length < sigs.length:=by rw[hpl.out];exact hlt
    have hset:=hm5.out.set_ k (ptrV vp);rw[<-hpl.out,ptrRow_set hps,hpl.out]at hset;refine⟨k+1,ps++[vp],hgk.out.1,by go_num,by unfold Hid;rw[zA,hpl.out];rfl,hset,⟨(hbo.out.1.below hb5).grown (grown_set _ gm k _) ?_,hbo.out.2⟩,(hG.out.belowNew hb5).setNew hgw,?_⟩
    ·cases hq:bv.ownBlock with
     |none=>exact .inl rfl
     |some g9=>exact .inr (fun e=>hbo.out.2 g9 hq (by injection e))
    intro j vp' f' hj hf';rcases Nat.lt_or_ge j ps.length with hjl|hjl
    ·rw[List.getElem?_append_left hjl]at hj
     obtain⟨q1,q2⟩:=hver.out j vp' f' hj hf';exact⟨q1,(q2.below hb5).setOther q1 M0.out (by intro s q;cases q)⟩
    rw[List.getElem?_append_right hjl]at hj;have hj0:j=k:=by
     have:=(List.getElem?_eq_some_iff.1 hj).1;have:=hpl.out;simp at *;omega
    subst hj0;rw[hpl.out,Nat.sub_self]at hj;simp at hj;subst hj;rw[hf.out]at hf';injection hf' with hf'
    subst hf';exact⟨hvg.out,HVF.out.setOther hvg.out M0.out (by intro s q;cases q)⟩
 skip
 obtain rfl:k=sigs.length:=by omega
 have hfin:Hid (RdPV wr (.slice (some ⟨gm,0,none⟩) sigs.length sigs.length) fs body recs now sigs):=by
  refine⟨_,_,rfl,zR _,fun h0=>⟨gm,rfl,fun j f hf=>?_⟩⟩;obtain⟨vp,hvp⟩:∃vp,ps[j]?=some vp:=⟨ps[j]'(by rw[hpl.out];exact(List.getElem?_eq_some_iff.1 hf).1),zG _⟩;exact⟨vp,(hm.out.cell j).trans (ptrRow_get hvp),(hver.out j vp f hvp hf).2⟩
 have HV:=zH (fun(j:Nat) (f:List UInt8) (hf:sigs[j]?=some f)=>(show ∃vp:Nat,wr.cell? ⟨gm,j,none⟩=some (.pointer (some ⟨vp,0,none⟩))/\VerF wr vp fs body recs now f from by
  obtain⟨vp,hvp⟩:∃vp,ps[j]?=some vp:=⟨ps[j]'(by rw[hpl.out];exact(List.getElem?_eq_some_iff.1 hf).1),zG _⟩;exact⟨vp,(hm.out.cell j).trans (ptrRow_get hvp),(hver.out j vp f hvp hf).2⟩))
 clear hm hver hbo;obtain⟨wo,hwo⟩:∃wo:World,Hid (wo=wr):=⟨_,rfl⟩;go_wp2;rw[<-hwo.out]at HV hfin hG ⊢;go_loopg [69] sigs.length (fun g j w'=>∃k:Nat,Hid (k+g=sigs.length)/\j=.int .i64 k/\wo=w')
 case atStart=>exact⟨0,Nat.zero_add _,rfl,rfl⟩
 obtain⟨k,hk2,rfl,rfl⟩:=hrel;have hk3:k<=sigs.length:=by have:=hk2.out;omega
 by_cases hlt2:k < sigs.length
 ·obtain⟨f,hf⟩:∃f:List UInt8,Hid (sigs[k]?=some f):=⟨sigs[k],zG hlt2⟩
  obtain⟨vp,e1,x,ks,tb,xb,er,hb,_,he,_⟩:=HV.out k f hf.out;have q7:=hb.cell 7;have hgk:Hid (k+1+(gk - 1)=sigs.length/\gk - 1 < gk):=by have:=hk2.out;unfold Hid;omega
  have q7':wo.cell? ⟨vp,7,none⟩=some er:=q7.trans rfl;have HE:=zH he;clear q7 hb he;rcases HE.out with⟨rfl,hc⟩|⟨m,rfl,hc⟩|⟨m,rfl,hc⟩|⟨m,rfl,hc⟩
  ·have HE0:=zH hc
   go_wp2;go_roundg (gk - 1)
   case measure=>exact hgk.out.2
   case rel=>exact⟨k+1,hgk.out.1,by go_num,rfl⟩
  ·have hce:Hid (ErrIs (.iface 158 (.string m)) 2):=by unfold Hid;rw[<-hc];exact HE.out
   clear hc HE;go_wp2_with (first
    |(go_at_call 65;refine(c65 _ _ _ hce.out).mono ?_;rintro e wx⟨rfl,rfl⟩;rw[show decide ((2:Int)=3)=false from rfl])
    |(go_at_call 66;refine(c66 _ _ _ hce.out).mono ?_;rintro e wx⟨rfl,rfl⟩;rw[show decide ((2:Int)=2)=true from rfl])
    |(go_at_call 67;refine(c67 _ _ _ hce.out).mono ?_;rintro e wx⟨rfl,rfl⟩;rw[show decide ((2:Int)=1)=false from rfl]))
   go_roundg (gk - 1)
   case measure=>exact hgk.out.2
   case rel=>exact⟨k+1,hgk.out.1,by go_num,rfl⟩
  ·have hce:Hid (ErrIs (.iface 191 (.string m)) 3):=by unfold Hid;rw[<-hc];exact HE.out
   clear hc HE;go_wp2_with (first
    |(go_at_call 65;refine(c65 _ _ _ hce.out).mono ?_;rintro e wx⟨rfl,rfl⟩;rw[show decide ((3:Int)=3)=true from rfl])
    |(go_at_call 66;refine(c66 _ _ _ hce.out).mono ?_;rintro e wx⟨rfl,rfl⟩;rw[show decide ((3:Int)=2)=false from rfl])
    |(go_at_call 67;refine(c67 _ _ _ hce.out).mono ?_;rintro e wx⟨rfl,rfl⟩;rw[show decide ((3:Int)=1)=false from rfl]))
   go_roundg (gk - 1)
   case measure=>exact hgk.out.2
   case rel=>exact⟨k+1,hgk.out.1,by go_num,rfl⟩
  have hce:Hid (ErrIs (.iface 173 (.string m)) 1):=by unfold Hid;rw[<-hc];exact HE.out
  clear hc HE;go_wp2_with (first
   |(go_at_call 65;refine(c65 _ _ _ hce.out).mono ?_;rintro e wx⟨rfl,rfl⟩;rw[show decide ((1:Int)=3)=false from rfl])
   |(go_at_call 66;refine(c66 _ _ _ hce.out).mono ?_;rintro e wx⟨rfl,rfl⟩;rw[show decide ((1:Int)=2)=false from rfl])
   |(go_at_call 67;refine(c67 _ _ _ hce.out).mono ?_;rintro e wx⟨rfl,rfl⟩;rw[show decide ((1:Int)=1)=true from rfl]))
  go_roundg (gk - 1)
  case measure=>exact hgk.out.2
  case rel=>exact⟨k+1,hgk.out.1,by go_num,rfl⟩
 obtain rfl:k=sigs.length:=by omega
 go_wp2;go_ret2
 exact⟨_,rfl,hfin.out,hG.out⟩
theorem fr140(F:Nat->Value):frS 140 F=(F 0::F 1::F 2::F 3::F 4::F 5::F 6::F 7::F 8::F 9::F 10::F 11::F 12::F 13::F 14::F 15::F 16::F 17::F 18::F 19::F 20::F 21::F 22::F 23::F 24::F 25::F 26::F 27::F 28::F 29::F 30::F 31::F 32::F 33::F 34::F 35::F 36::F 37::F 38::F 39::F 40::F 41::F 42::F 43::F 44::F 45::F 46::F 47::F 48::F 49::F 50::F 51::F 52::F 53::F 54::F 55::F 56::F 57::F 58::F 59::F 60::F 61::F 62::F 63::F 64::F 65::F 66::F 67::F 68::F 69::F 70::F 71::F 72::F 73::F 74::F 75::F 76::F 77::F 78::F 79::F 80::F 81::F 82::F 83::F 84::F 85::F 86::F 87::F 88::F 89::F 90::F 91::F 92::F 93::F 94::F 95::F 96::F 97::F 98::F 99::F 100::F 101::F 102::F 103::F 104::F 105::F 106::F 107::F 108::F 109::F 110::F 111::F 112::F 113::F 114::F 115::F 116::F 117::F 118::F 119::F 120::F 121::F 122::F 123::F 124::F 125::F 126::F 127::F 128::F 129::F 130::F 131::F 132::F 133::F 134::F 135::F 136::F 137::F 138::F 139::[]).toArray:=rfl
noncomputable def B37 : Code:=Tryz.f37.body.getD .skip
structure RX(w:World)(gb gd gs:Nat)(S:List UInt8)(pE pF:Addr)(body:List UInt8):Prop where
 buf:∃r q i err T,BufAt w gb gd gs r q i err T S/\errOk err i S pE/\restOf r q i T S=body
 ers:Errs w pE pF
 len:S.length<=20000000
 top:errTop pE pF < gb/\errTop pE pF < gd/\errTop pE pF < gs
 six:6 < gb/\6 < gd/\6 < gs
 lt:gb < w.heap.size/\gd < w.heap.size/\gs < w.heap.size
theorem RdPV.one{w:World}{vp:Nat}{fs:List (List UInt8)}{body:List UInt8}{recs:List Rec}{now:Int}{f:List UInt8}(h:VerF w vp fs body recs now f):RdPV (w.alloc (.cells #[.pointer (some ⟨vp,0,none⟩)] 88)) (.slice (some ⟨w.heap.size,0,none⟩) 1 1) fs body recs now [f]:=by
 refine⟨_,1,rfl,zR _,fun _=>⟨_,rfl,fun j g hg=>?_⟩⟩;cases j with
 |zero =>
  simp at hg;subst hg;exact⟨vp,cell_of_row _ _ 0 _ _ _ (heap_alloc_new w _),h.below ((zB _ _).alloc (zR _) _)⟩
 |succ j=>simp at hg
theorem s37(F:Nat->Value)(ct:Code)(hct:ct=tlS B37 9)(R:Ending->World->Prop)(w:World)(gb gd gs:Nat)(S:List UInt8)(pE pF:Addr)(po:Nat)(pa:Addr)(v0:Value)(recs:List Rec)(pS pR:Addr)(txS txR:ByteArray)(now:Int)(nb:Bool)(fs sigs:List (List UInt8))(cH:Nat)(AH:Option Addr)(sv:Value)(body:List UInt8)(many:Bool)(pT:Addr)
  (hX:RX w gb gd gs S pE pF body)(hF:FB fs body recs)(hsn:sigs.length<=20000)
  (hK:∀W,Gr (fun k=>(k=gb\/k=gd\/k=gs)\/w.heap.size<=k) w W->(VE W po pa v0 recs pS pR txS txR now nb/\W.cell? ⟨0,0,none⟩=some (.iface 235 (.pointer (some pT))))/\RdS W (.slice AH fs.length cH) fs/\SigAt W sv fs sigs)
  (hAH:∀a,AH=some a->a.block < w.heap.size/\¬(a.block=gb\/a.block=gd\/a.block=gs))
  (h1:F 1=.pointer (some ⟨po,0,none⟩))(h6:F 6=.pointer (some ⟨gb,0,none⟩))(h7:F 7=.slice AH fs.length cH)(h8:F 8=.nilIface)(h9:F 9=sv)(h14:F 14=.bool many)
  (hR:∀v w',RdPV w' v fs body recs now sigs->Gr (fun k=>(k=gb\/k=gd\/k=gs)\/w.heap.size<=k) w w'->R (.returned (.tuple #[v,if many=true then .iface 235 (.pointer (some pT))else .nilIface])) w') :
  Code.wp Tryz.prog ct (bodyPost Tryz.prog Tryz.f37 R) ⟨frS 140 F,[]⟩ w:=by
 subst hct;conv=>arg 2;whnf
 rw[fr140,h1,h6,h7,h8,h9,h14];have HR:=zH hR;have HK:=zH hK;have HX:=zH hX;have HF:=zH hF;have HA:=zH hAH;obtain⟨As,cs,hsv,hsc,_⟩:=(hK w (Gr.refl _ _)).2.2;subst hsv;clear hK hX hR hF hAH;have FIN:Hid (∀v w',RdPV w' v fs body recs now sigs->Gr (fun k=>(k=gb\/k=gd\/k=gs)\/w.heap.size<=k) w w'->w'.cell? ⟨0,0,none⟩=some (.iface 235 (.pointer (some pT)))):=fun v w' _ hG=>(HK.out w' hG).1.2
 by_cases hn:sigs.length=1
 ·obtain⟨f,rfl⟩:∃f,sigs=[f]:=by
   match sigs,hn with
   |[f],_=>exact⟨f,rfl⟩
  clear hn;obtain⟨hE0,hRow,hSig⟩:=HK.out w (Gr.refl _ _);obtain⟨_,_,hs1,_,hs2⟩:=hSig;injection hs1 with hs1 _ hs3
  subst hs1 hs3;obtain⟨gq,rfl,hs4⟩:=hs2 (by simp);obtain⟨b,ix,e1,e2,e3,hfi⟩:=hs4 0 f rfl;have hil:=(List.getElem?_eq_some_iff.1 hfi).1;obtain⟨_,_,hr1,hr2,_,hr3⟩:=hRow;injection hr1 with hr1 _ hr4
  subst hr1 hr4;obtain⟨gf,off,rfl,hr5⟩:=hr3 (by omega);have e4:=hr5 ix f hfi;have hfm:Hid (f∈fs):=List.mem_of_getElem? hfi;have hfn:fs.length<=20000:=HF.out.fn;have j1:(0:Int)<=(ix:Int):=Int.natCast_nonneg _;have j2:(ix:Int) < (fs.length:Int):=by omega
  clear hs2 hs4 hr3 hr5 hE0 hfi;have hlen:((([f]:List (List UInt8)).length:Nat):Int)=1:=rfl;go_upto_region 19 with fail
  refine wp_quiet_call 19 24 (by kernel_rfl) (by kernel_rfl) rfl ?_;simp only[List.take_succ_cons,List.take_zero,List.drop_succ_cons,List.drop_zero];repeat(quiet_step (fail))
  refine wpQuiet_nil ?_;intro _ hw';obtain⟨nq,hw''⟩:=hw';subst hw'';go_wp2_with (go_at_call 64;have hw64:=HK.out (w.drewN nq) (Gr.of_below (below_drewN (zB _ _) nq));obtain⟨r,q,i,err,T,hbuf,hok,hrest⟩:=HX.out.buf;refine(c64 (w.drewN nq) (fun k=>k=gb\/k=gd\/k=gs) w.heap.size 107 po _ _ _ pa v0 recs pS pR txS txR now nb body f fs (VZ.mk' hw64.1.1 HF.out hw64.2.1 (.inl ⟨gb,gd,gs,r,q,i,err,T,S,rfl,rfl,hbuf.drewN nq,hrest,HX.out.len,rfl,HX.out.lt⟩) (zR _) (fun k q=>by have:=HX.out.lt;rcases q with q|q|q <;> omega) HA.out (by have:=HX.out.six;intro q;rcases q with q|q|q <;> omega) hfm.out)).mono ?_;rintro e w4 hp;obtain⟨vp,er,rfl,hvp1,hvp2,her,hc7,hf7,hvf,hG4⟩:=VerF.of hp;have hG4':Hid (Gr (fun k=>(k=gb\/k=gd\/k=gs)\/w.heap.size<=k) w w4):=(Gr.of_below (below_drewN (zB _ _) nq)).trans hG4;have HVF:=zH hvf;have HER:=zH her;clear hp hvf her hG4);refine callQ_normal ?_;repeat(quiet_step (fail))
  refine wpQuiet_nil ?_;intro _ hw';obtain⟨nq2,hw''⟩:=hw';subst hw'';obtain⟨W4,hW4⟩:∃W,Hid (w4.drewN nq2=W):=⟨_,rfl⟩;have hc8:W4.cell? ⟨vp,7,none⟩=some .nilIface:=by rw[<-hW4.out];exact hc7
  have hf8:W4.frozen? ⟨vp,7,none⟩=false:=by rw[<-hW4.out];exact hf7
  have hvf8:Hid (VerF (W4.setCell ⟨vp,7,none⟩ er) vp fs body recs now f):=by rw[<-hW4.out];exact HVF.out
  have hwv:w.heap.size<=vp:=hvp1;have hG8:Hid (Gr (fun k=>(k=gb\/k=gd\/k=gs)\/w.heap.size<=k) w (W4.setCell ⟨vp,7,none⟩ er)):=by rw[<-hW4.out];exact Gr.setNew (w':=w4.drewN nq2) (hG4'.out.trans (Gr.of_below (below_drewN (zB _ _) nq2))) hwv
  obtain⟨W6,hW6⟩:∃W,Hid ((W4.setCell ⟨vp,7,none⟩ er).alloc (.cells #[.pointer (some ⟨vp,0,none⟩)] 88)=W):=⟨_,rfl⟩;have hG9:Hid (Gr (fun k=>(k=gb\/k=gd\/k=gs)\/w.heap.size<=k) w W6):=by rw[<-hW6.out];exact hG8.out.trans (Gr.of_below ((zB _ _).alloc (zR _) _))
  have hrd:=RdPV.one hvf8.out;rw[hW6.out]at hrd;have hsz:(W4.setCell ⟨vp,7,none⟩ er).heap.size=W4.heap.size:=World.size_setCell _ _ _;rw[hsz]at hrd;have HRD:=zH hrd;have k0:=(HK.out W6 hG9.out).1.2;rw[hW4.out];clear hc7 hf7 hsz hrd e1 e2 e3 e4;rcases HER.out with⟨rfl,hc⟩|⟨m,rfl,hc⟩|⟨m,rfl,hc⟩|⟨m,rfl,hc⟩
  ·skip
   clear hc;cases many with
   |false =>
    go_wp2;rw[hW6.out];exact HR.out _ _ HRD.out hG9.out
   |true =>
    go_upto_region 28 with fail
    rw[hW6.out];go_quiet (fail)
    go_wp2;exact HR.out _ _ (HRD.out.below (below_drewN (zB _ _) _)) (hG9.out.trans (Gr.of_below (below_drewN (zB _ _) _)))
  ·have hce:Hid (ErrIs (.iface 158 (.string m)) 2):=by unfold Hid;rw[<-hc];exact HER.out
   clear hc;cases many with
   |false =>
    go_wp2_with (first
     |(go_at_call 65;refine(c65 _ _ _ hce.out).mono ?_;rintro e wx⟨rfl,rfl⟩;rw[show decide ((2:Int)=3)=false from rfl])
     |(go_at_call 66;refine(c66 _ _ _ hce.out).mono ?_;rintro e wx⟨rfl,rfl⟩;rw[show decide ((2:Int)=2)=true from rfl])
     |(go_at_call 67;refine(c67 _ _ _ hce.out).mono ?_;rintro e wx⟨rfl,rfl⟩;rw[show decide ((2:Int)=1)=false from rfl]))
    rw[hW6.out];exact HR.out _ _ HRD.out hG9.out
   |true =>
    go_upto_region 28 with(first
     |(go_at_call 65;refine(c65 _ _ _ hce.out).mono ?_;rintro e wx⟨rfl,rfl⟩;rw[show decide ((2:Int)=3)=false from rfl])
     |(go_at_call 66;refine(c66 _ _ _ hce.out).mono ?_;rintro e wx⟨rfl,rfl⟩;rw[show decide ((2:Int)=2)=true from rfl])
     |(go_at_call 67;refine(c67 _ _ _ hce.out).mono ?_;rintro e wx⟨rfl,rfl⟩;rw[show decide ((2:Int)=1)=false from rfl]))
    rw[hW6.out];go_quiet (fail)
    go_wp2;exact HR.out _ _ (HRD.out.below (below_drewN (zB _ _) _)) (hG9.out.trans (Gr.of_below (below_drewN (zB _ _) _)))
  ·have hce:Hid (ErrIs (.iface 191 (.string m)) 3):=by unfold Hid;rw[<-hc];exact HER.out
   clear hc;cases many with
   |false =>
    go_wp2_with (first
     |(go_at_call 65;refine(c65 _ _ _ hce.out).mono ?_;rintro e wx⟨rfl,rfl⟩;rw[show decide ((3:Int)=3)=true from rfl])
     |(go_at_call 66;refine(c66 _ _ _ hce.out).mono ?_;rintro e wx⟨rfl,rfl⟩;rw[show decide ((3:Int)=2)=false from rfl])
     |(go_at_call 67;refine(c67 _ _ _ hce.out).mono ?_;rintro e wx⟨rfl,rfl⟩;rw[show decide ((3:Int)=1)=false from rfl]))
    rw[hW6.out];exact HR.out _ _ HRD.out hG9.out
   |true =>
    go_upto_region 28 with(first
     |(go_at_call 65;refine(c65 _ _ _ hce.out).mono ?_;rintro e wx⟨rfl,rfl⟩;rw[show decide ((3:Int)=3)=true from rfl])
     |(go_at_call 66;refine(c66 _ _ _ hce.out).mono ?_;rintro e wx⟨rfl,rfl⟩;rw[show decide ((3:Int)=2)=false from rfl])
     |(go_at_call 67;refine(c67 _ _ _ hce.out).mono ?_;rintro e wx⟨rfl,rfl⟩;rw[show decide ((3:Int)=1)=false from rfl]))
    rw[hW6.out];go_quiet (fail)
    go_wp2;exact HR.out _ _ (HRD.out.below (below_drewN (zB _ _) _)) (hG9.out.trans (Gr.of_below (below_drewN (zB _ _) _)))
  have hce:Hid (ErrIs (.iface 173 (.string m)) 1):=by unfold Hid;rw[<-hc];exact HER.out
  clear hc;cases many with
  |false =>
   go_wp2_with (first
    |(go_at_call 65;refine(c65 _ _ _ hce.out).mono ?_;rintro e wx⟨rfl,rfl⟩;rw[show decide ((1:Int)=3)=false from rfl])
    |(go_at_call 66;refine(c66 _ _ _ hce.out).mono ?_;rintro e wx⟨rfl,rfl⟩;rw[show decide ((1:Int)=2)=false from rfl])
    |(go_at_call 67;refine(c67 _ _ _ hce.out).mono ?_;rintro e wx⟨rfl,rfl⟩;rw[show decide ((1:Int)=1)=true from rfl]))
   rw[hW6.out];exact HR.out _ _ HRD.out hG9.out
  |true =>
   go_upto_region 28 with(first
    |(go_at_call 65;refine(c65 _ _ _ hce.out).mono ?_;rintro e wx⟨rfl,rfl⟩;rw[show decide ((1:Int)=3)=false from rfl])
    |(go_at_call 66;refine(c66 _ _ _ hce.out).mono ?_;rintro e wx⟨rfl,rfl⟩;rw[show decide ((1:Int)=2)=false from rfl])
    |(go_at_call 67;refine(c67 _ _ _ hce.out).mono ?_;rintro e wx⟨rfl,rfl⟩;rw[show decide ((1:Int)=1)=true from rfl]))
   rw[hW6.out];go_quiet (fail)
   go_wp2;exact HR.out _ _ (HRD.out.below (below_drewN (zB _ _) _)) (hG9.out.trans (Gr.of_below (below_drewN (zB _ _) _)))
 have hn1:((sigs.length:Int) == 1)=false:=zF (by omega);obtain⟨r,q,i,err,T,hbuf,hok,hrest⟩:=HX.out.buf;have h68:Hid (Calls Tryz.prog 68 #[.iface 107 (.pointer (some ⟨gb,0,none⟩)),.slice AH fs.length cH,.slice As sigs.length cs,.pointer (some ⟨po,0,none⟩)] w fun e w'=>∃v,e=.returned (.tuple #[v,.nilIface])/\RdPV w' v fs body recs now sigs/\Gr (fun k=>(k=gb\/k=gd\/k=gs)\/w.heap.size<=k) w w') :=
  c68 gb gd gs r q i err T S pE pF w hbuf hok HX.out.ers (zT HX.out.len (by decide)) HX.out.top po pa v0 recs pS pR txS txR now nb fs sigs cH AH _ body hrest HF.out hsn (fun W hG=>⟨(HK.out W hG).1.1,(HK.out W hG).2⟩) (fun a ha=>(HA.out a ha).1) HX.out.lt
 clear hbuf hok hrest;cases many with
 |false =>
  go_wp2_with (go_at_call 68;refine h68.out.mono ?_;rintro e w4⟨v,rfl,hv,hG⟩);exact HR.out _ _ hv hG
 |true =>
  go_upto_region 28 with(go_at_call 68;refine h68.out.mono ?_;rintro e w4⟨v,rfl,hv,hG⟩;have k0:=(HK.out w4 hG).1.2)
  go_quiet (fail)
  go_wp2;exact HR.out _ _ (hv.below (below_drewN (zB _ _) _)) (hG.trans (Gr.of_below (below_drewN (zB _ _) _)))
end Go.Proofs.YtnkihlpmmfeioaaGreatDoor
