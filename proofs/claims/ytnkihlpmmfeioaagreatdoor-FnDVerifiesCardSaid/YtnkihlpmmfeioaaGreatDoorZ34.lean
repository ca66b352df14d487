/- Part of the proof that laws.FnDVerifies answers true: A55,A75 -/
import Derived.Test.YtnkihlpmmfeioaaGreatDoorZ28
import Derived.Test.YtnkihlpmmfeioaaGreatDoorZ33
set_option linter.unusedVariables false
set_option linter.unusedSimpArgs false
set_option maxRecDepth 1000000
set_option maxHeartbeats 16000000
namespace Go.Proofs.YtnkihlpmmfeioaaGreatDoor
open Go.RowKit
theorem ask_find(n:List UInt8):∀xs:List Rec,askC n xs=(match findR n xs with|none=>2|some r=>if r.tp=true then 3 else if r.fl=true\/r.tx.length≠1 then 2 else 0) /\
  askT n xs=(match findR n xs with|none=>[]|some r=>if r.tp=true then[]else if r.fl=true\/r.tx.length≠1 then[]else r.tx.headD []):=by
 intro xs;induction xs with
 |nil=>exact⟨rfl,rfl⟩
 |cons r l ih =>
  rw[askC,askT,findR];by_cases h:r.nm=n
  ·rw[if_pos h,if_pos h,if_pos h];exact⟨rfl,rfl⟩
  rw[if_neg h,if_neg h,if_neg h];exact ih
theorem findR_mem{n:List UInt8}{xs:List Rec}{r:Rec}(h:findR n xs=some r):r∈xs:=by
 induction xs with
 |nil=>cases h
 |cons x l ih =>
  rw[findR]at h;split at h
  ·injection h with h;rw[h];simp
  exact List.mem_cons_of_mem _ (ih h)
def QueryAt(w:World)(base:Nat)(v err:Value)(n:List UInt8)(recs:List Rec):Prop :=
 if askC n recs=0 then QAt w base v err (readM (askT n recs))else v=.pointer none/\ErrIs err (askC n recs)
theorem QAt.mono{w:World}{b b':Nat}{v err:Value}{o:Option Key}(h:QAt w b v err o)(hb:b'<=b):QAt w b' v err o:=by
 cases o with
 |none=>exact h
 |some K =>
  obtain⟨h0,gq,bv,hv,nt,sv,fv,h1,h2,h3,h4,h5,h6⟩:=h;exact⟨h0,gq,bv,hv,nt,sv,fv,h1,zT hb h2,h3,h4.mono hb,h5.mono hb,h6.mono hb⟩
def recsOk(recs:List Rec):Prop:=∀r∈recs,∀t∈r.tx,plainL t/\t.length<=268435456
theorem c40p(pa:Addr)(v:Value)(xs:List Rec)(l:List UInt8)(w:World)(hp:w.cell? pa=some v)(hv:RdR w v xs) :
  Calls Tryz.prog 40 #[.string (B l),.pointer (some pa)] w fun e w'=>∃tv err,e=.returned (.tuple #[tv,err])/\LookAt w' tv err (findR l xs)/\Below w.heap.size w w':=c40 pa v xs (B l) w hp hv
theorem c148p(l:List UInt8)(w:World)(hs:(B l).size<=268435456)(hp:plainL l)(hT:GTab w) :
  Calls Tryz.prog 148 #[.string (B l),.func (.func 41) #[] #[]] w fun e w'=>∃v err,e=.returned (.tuple #[v,err])/\QAt w' w.heap.size v err (readM l)/\Below w.heap.size w w':=c148 (B l) w hs hp hT
theorem BapC(l:List UInt8)(a:Array UInt8):B l++(⟨a⟩:ByteArray)=B (l++a.toList):=by rw[<-B_L (B l++(⟨a⟩:ByteArray)),L_append];rfl
theorem Bap(l m:List UInt8):B l++B m=B (l++m):=by rw[<-B_L (B l++B m),L_append];rfl
theorem c136(pa:Addr)(v0:Value)(recs:List Rec)(dom sel:List UInt8)(w:World)(hp:w.cell? pa=some v0)(hv:RdR w v0 recs)(hr:recsOk recs)(hT:GTab w)(hd:dom.length<=1073741824)(hs:sel.length<=1073741824) :
  Calls Tryz.prog 136 #[.string (B dom),.string (B sel),.func (.func 40) #[] #[.pointer (some pa)],.func (.func 41) #[] #[]] w fun e w'=>∃v err,e=.returned (.tuple #[v,err])/\QueryAt w' w.heap.size v err (sel++(domkeyL++dom)) recs/\Below w.heap.size w w':=by
 have hap1:B sel++(⟨#[46,95,100,111,109,97,105,110,107,101,121,46]⟩:ByteArray)=B (sel++domkeyL):=BapC sel _;have hap2:=Bap (sel++domkeyL) dom;rw[List.append_assoc]at hap2;have hdB:(B dom).size<=1073741824:=hd;have hsB:(B sel).size<=1073741824:=hs;have hsB2:(B (sel++domkeyL)).size<=1073741836:=by rw[size_B,zA];simp[domkeyL];omega
 obtain⟨nm,hnm⟩:∃nm,Hid (sel++(domkeyL++dom)=nm):=⟨_,rfl⟩;rw[hnm.out]at hap2 ⊢;obtain⟨F,hF⟩:∃F,Hid (findR nm recs=F):=⟨_,rfl⟩;have hask:=ask_find nm recs;rw[hF.out]at hask;have HA:=zH hask;have HV:=zH hv;have HR:=zH hr;have HT:=zH hT;have hmE:=mErr;have hmL:=mLk;have hmT:=mTmp;have htY:=tmp_yes;have htN:=tmp_nil;clear hask hv hr hT;go_enter Tryz.func136,Tryz.ntmps136;go_upto_region 2 with(go_at_call 40;refine(c40p pa v0 recs nm _ hp HV.out).mono ?_;rintro e w1⟨tv,er,rfl,hL,hb1⟩;rw[hF.out]at hL)
 have HB1:=zH hb1;clear hb1;cases F with
 |none =>
  obtain⟨rfl,rfl⟩:=hL;have hc:Hid (askC nm recs=2):=HA.out.1;go_wp2_with (first
   |(go_at_call 238;refine(c238 _ _).mono ?_;rintro e w2⟨rfl,rfl⟩)
   |(go_at_call 237;refine(c237 _ _).mono ?_;rintro e w2⟨rfl,rfl⟩))
  go_ret2
  exact⟨_,_,rfl,by unfold QueryAt;rw[hc.out,if_neg (by decide)];exact⟨rfl,.inr (.inl ⟨_,rfl,rfl⟩)⟩,HB1.out⟩
 |some r =>
  by_cases hft:r.fl=true\/r.tp=true
  ·rw[LookAt,if_pos hft]at hL
   obtain⟨rfl,rfl⟩:=hL;cases htp:r.tp with
   |true =>
    have hc:Hid (askC nm recs=3):=by unfold Hid;rw[HA.out.1];simp only[if_pos htp]
    clear htp hft;go_wp2_with (first
     |(go_at_call 238;refine(c238 _ _).mono ?_;rintro e w2⟨rfl,rfl⟩)
     |(go_at_call 237;refine(c237 _ _).mono ?_;rintro e w2⟨rfl,rfl⟩))
    go_ret2
    exact⟨_,_,rfl,by unfold QueryAt;rw[hc.out,if_neg (by decide)];exact⟨rfl,.inr (.inr (.inl ⟨_,rfl,rfl⟩))⟩,HB1.out⟩
   |false =>
    have hfl:r.fl=true:=by rcases hft with h|h;exact h;rw[htp]at h;cases h
    have hc:Hid (askC nm recs=2):=by unfold Hid;rw[HA.out.1];simp only[if_neg (show ¬r.tp=true by rw[htp];decide),if_pos (Or.inl hfl:r.fl=true\/r.tx.length≠1)]
    clear htp hft hfl;go_wp2_with (first
     |(go_at_call 238;refine(c238 _ _).mono ?_;rintro e w2⟨rfl,rfl⟩)
     |(go_at_call 237;refine(c237 _ _).mono ?_;rintro e w2⟨rfl,rfl⟩))
    go_ret2
    exact⟨_,_,rfl,by unfold QueryAt;rw[hc.out,if_neg (by decide)];exact⟨rfl,.inr (.inl ⟨_,rfl,rfl⟩)⟩,HB1.out⟩
  rw[LookAt,if_neg hft]at hL;obtain⟨htx,rfl⟩:=hL;have htp:¬r.tp=true:=fun h=>hft (.inr h)
  have hfl:¬r.fl=true:=fun h=>hft (.inl h)
  have hmem:=findR_mem hF.out;obtain⟨A,c,rfl,hcc,hll,hcell⟩:=htx;by_cases h1:r.tx.length=1
  ·obtain⟨t0,ht0⟩:∃t0,r.tx=[t0]:=List.length_eq_one_iff.1 h1
   obtain⟨g2,o2,rfl,hct⟩:=hcell (by omega);have hc0:=hct 0 t0 (by rw[ht0];rfl);rw[Nat.add_zero]at hc0;have hok:=HR.out r hmem t0 (by rw[ht0];simp);have hc:Hid (askC nm recs=0/\askT nm recs=t0):=by
    unfold Hid;rw[HA.out.1,HA.out.2];simp only[if_neg htp];rw[if_neg (show ¬(r.fl=true\/r.tx.length≠1)from fun h=>h.elim hfl (fun q=>q h1)),if_neg (show ¬(r.fl=true\/r.tx.length≠1)from fun h=>h.elim hfl (fun q=>q h1)),ht0];exact⟨rfl,rfl⟩
   have hsz:(B t0).size<=268435456:=hok.2;have HPl:=zH hok.1;have hT1:=zH (HT.out.below HB1.out);rw[h1];clear hct hcell htp hfl hft hok;go_wp2_with (go_at_call 148;refine(c148p t0 _ hsz HPl.out hT1.out).mono ?_;rintro e w2⟨v,er2,rfl,hq,hb2⟩;have HQ2:=zH (And.intro hq hb2);clear hq hb2);go_ret2
   exact⟨_,_,rfl,by unfold QueryAt;rw[hc.out.1,if_pos rfl,hc.out.2];exact QAt.mono HQ2.out.1 HB1.out.size,bthen HB1.out HQ2.out.2⟩
  have hc:Hid (askC nm recs=2):=by unfold Hid;rw[HA.out.1];simp only[if_neg htp,if_pos (Or.inr h1:r.fl=true\/r.tx.length≠1)]
  clear hcell htp hfl hft;by_cases h0:r.tx.length=0
  ·rw[h0]
   clear h1;go_wp2;go_ret2
   exact⟨_,_,rfl,by unfold QueryAt;rw[hc.out,if_neg (by decide)];exact⟨rfl,.inr (.inl ⟨_,rfl,rfl⟩)⟩,HB1.out⟩
  have n0:((r.tx.length:Int) == 0)=false:=zF (by omega);have n1:((r.tx.length:Int) == 1)=false:=zF (by omega);clear h0 h1;go_wp2;go_ret2
  exact⟨_,_,rfl,by unfold QueryAt;rw[hc.out,if_neg (by decide)];exact⟨rfl,.inr (.inl ⟨_,rfl,rfl⟩)⟩,HB1.out⟩
theorem BufAt.setL{w:World}{gb gd gs r q i:Nat}{err:Value}{T S:List UInt8}(h:BufAt w gb gd gs r q i err T S)(k:Nat)(x:Int)(hk:k=5\/k=6):BufAt (w.setCell ⟨gb,k,none⟩ (.int .i64 x)) gb gd gs r q i err T S:=by
 obtain⟨lb,ls,hb⟩:=h.blk;have hG:=grown_set w gb k (.int .i64 x);refine⟨?_,h.buf.setNe h.nbd.symm,h.len,h.rd.gr (Gr.of_grown hG) (fun q=>h.nbs (Option.some.inj q)),h.le,h.wle,h.nbd,h.nbs,h.nds⟩;rcases hk with rfl|rfl
 ·exact⟨x,ls,(hb.set_ 5 _).to (by simp)⟩
 exact⟨lb,x,(hb.set_ 6 _).to (by simp)⟩
def RdPost(w w':World)(gb gd gs g o n:Nat)(rest S:List UInt8)(pE:Addr)(e:Ending):Prop :=
 (∃(k:Nat) (X:List UInt8),0 < k/\k<=n/\X.length=k/\e=.returned (.tuple #[.int .i64 (k:Int),.nilIface])/\w'.heap[g]?=(w.setCells g o (byteVs X)).heap[g]?/\Gr (fun k=>k=g\/k=gb\/k=gd\/k=gs) w w' /\
   ∃r' q' i' err' T',BufAt w' gb gd gs r' q' i' err' T' S/\errOk err' i' S pE/\rest=X++restOf r' q' i' T' S) \/
 (rest=[]/\e=.returned (.tuple #[.int .i64 0,eofV pE])/\w'.heap[g]?=w.heap[g]?/\Gr (fun k=>k=g\/k=gb\/k=gd\/k=gs) w w'/\∃r' q' i' err' T',BufAt w' gb gd gs r' q' i' err' T' S/\errOk err' i' S pE/\restOf r' q' i' T' S=[])
theorem BufAt.setE{w:World}{gb gd gs r q i:Nat}{err:Value}{T S:List UInt8}(h:BufAt w gb gd gs r q i err T S)(v:Value):BufAt (w.setCell ⟨gb,4,none⟩ v) gb gd gs r q i v T S:=by
 obtain⟨lb,ls,hb⟩:=h.blk;have hG:=grown_set w gb 4 v;exact⟨⟨lb,ls,(hb.set_ 4 _).to (by simp)⟩,h.buf.setNe h.nbd.symm,h.len,h.rd.gr (Gr.of_grown hG) (fun q=>h.nbs (Option.some.inj q)),h.le,h.wle,h.nbd,h.nbs,h.nds⟩
theorem BufAt.setW{w:World}{gb gd gs r q i m:Nat}{err:Value}{T S:List UInt8}(h:BufAt w gb gd gs r q i err T S)(hm:r<=m)(hm2:m<=4096):BufAt (w.setCell ⟨gb,3,none⟩ (.int .i64 (m:Int))) gb gd gs r m i err T S:=by
 obtain⟨lb,ls,hb⟩:=h.blk;have hG:=grown_set w gb 3 (.int .i64 (m:Int));exact⟨⟨lb,ls,(hb.set_ 3 _).to (by simp)⟩,h.buf.setNe h.nbd.symm,h.len,h.rd.gr (Gr.of_grown hG) (fun q=>h.nbs (Option.some.inj q)),hm,hm2,h.nbd,h.nbs,h.nds⟩
theorem BufAt.setRW{w:World}{gb gd gs r q i:Nat}{err:Value}{T S:List UInt8}(h:BufAt w gb gd gs r q i err T S):BufAt ((w.setCell ⟨gb,2,none⟩ (.int .i64 0)).setCell ⟨gb,3,none⟩ (.int .i64 0)) gb gd gs 0 0 i err T S:=by
 obtain⟨lb,ls,hb⟩:=h.blk;have hG:=grownBy.trans' (grown_set w gb 2 (.int .i64 0)) (grown_set _ gb 3 (.int .i64 0));exact⟨⟨lb,ls,((hb.set_ 2 _).set_ 3 _).to (by simp)⟩,(hG.block gd h.buf.lt (fun q=>h.nbd (Option.some.inj q).symm)).trans h.buf,h.len,h.rd.gr (Gr.of_grown hG) (fun q=>h.nbs (Option.some.inj q)),zR _,by omega,h.nbd,h.nbs,h.nds⟩
theorem cell_lt'{w:World}{g o:Nat}(h:(w.cell? ⟨g,o,none⟩).isSome=true):g < w.heap.size:=by
 obtain⟨v,hv⟩:=Option.isSome_iff_exists.1 h;exact cell_lt hv
theorem c243(gb gd gs r q i g o n c:Nat)(err:Value)(T S:List UInt8)(pE pF:Addr)(w:World)(h:BufAt w gb gd gs r q i err T S)(hok:errOk err i S pE)(hE:Errs w pE pF)(hS:S.length<=1099511627776)(h3:errTop pE pF < gb/\errTop pE pF < gd/\errTop pE pF < gs)
  (hn0:0 < n)(hc:∀j,j < n->(w.cell? ⟨g,o+j,none⟩).isSome=true)(hf:∀j,j < n->w.frozen? ⟨g,o+j,none⟩=false)(hg:g≠gb/\g≠gd/\g≠gs)(hgE:errTop pE pF < g) :
  Calls Tryz.prog 243 #[.pointer (some ⟨gb,0,none⟩),.slice (some ⟨g,o,none⟩) n c] w fun e w'=>RdPost w w' gb gd gs g o n (restOf r q i T S) S pE e:=by
 obtain⟨rest,hrest⟩:∃rest,Hid (restOf r q i T S=rest):=⟨_,rfl⟩;rw[hrest.out];have hle:=h.le;have hwl:=h.wle;have hilen:=h.rd.1;obtain⟨lb,ls,hb⟩:=h.blk;have p2:=hb.cell 2;have p3:=hb.cell 3;have z0:((n:Int) == 0)=false:=zF (by omega);have H:=zH h;have HE:=zH hE;have HOK:=zH hok;have HC:=zH hc;have HF:=zH hf;have HNE:=zH hg;have HBB:=zH hb;clear h hE hc hf hg hb;by_cases hrq:r < q
 ·have z1:((r:Int) == (q:Int))=false:=zF (by omega)
  go_enter Tryz.func243,Tryz.ntmps243;go_upto_region 6 with fail
  go_quiet (fail)
  go_upto_region 25 with fail
  have hX:=H.out.drewN nq;have HGX:Hid (Gr (fun k=>k=g\/k=gb\/k=gd\/k=gs) w (w.drewN nq)):=(Gr.refl _ w).drw nq;have hgX:(w.drewN nq).heap[g]?=w.heap[g]?:=rfl;have HRS:=hrest;have HOK1:=HOK;have hrq1:=hrq;clear p2 p3;generalize w.drewN nq=WX at *
  have hle1:=hX.le;have hwl1:=hX.wle;obtain⟨D,hD⟩:∃D,Hid ((T.take q).drop r=D):=⟨_,rfl⟩;have hDl:Hid (D.length=q - r):=by unfold Hid;rw[<-hD.out,List.length_drop,List.length_take,hX.len];omega
  obtain⟨X,hXx⟩:∃X,Hid (D.take n=X):=⟨_,rfl⟩;obtain⟨k,hk⟩:∃k,Hid (X.length=k):=⟨_,rfl⟩;have hkk:Hid (k=min n (q - r)):=by unfold Hid;rw[<-hk.out,<-hXx.out,List.length_take,hDl.out]
  obtain⟨m,hm⟩:∃m,Hid (m=r+k):=⟨_,rfl⟩;have hkb:0 < k/\k<=n/\m<=q:=by have:=hkk.out;have:=hm.out;omega
  obtain⟨lb1,ls1,hb1⟩:=hX.blk;have HRD:Hid (RdB WX (.slice (sAd gd 0 r 4096) (q - r) (4096 - r)) D):=by
   unfold Hid;rw[<-hD.out];exact RdB.sAd hX.cell hle1 (by rw[hX.len];exact hwl1) (by rw[hX.len];omega)
  have hdc:Hid (∀j,j < n->(WX.cell? ⟨g,o+j,none⟩).isSome=true):=fun j hj=>by rw[World.cell?_of_block (a:=⟨g,o+j,none⟩) hgX];exact HC.out j hj
  have hdf:Hid (∀j,j < n->WX.frozen? ⟨g,o+j,none⟩=false):=fun j hj=>by rw[World.frozen?_of_block (a:=⟨g,o+j,none⟩) hgX];exact HF.out j hj
  have hsl:=slRun gd 0 4096 4096 r q hle1 hwl1;have p0:=hb1.cell 0;have p2:=hb1.cell 2;have p3:=hb1.cell 3;have e1:IntKind.i64.wrap ((r:Int)+(k:Int))=(m:Int):=by have:=hm.out;rw[IntWalk.i64_in _ (by omega)];omega
  have HX:=zH hX;have HBB1:=zH hb1;have HgX:=zH hgX;clear hX hb1 hgX;generalize hbv:Value.slice (some ⟨gd,0,none⟩) 4096 4096=bv at p0 hsl
  go_wp2;refine wp_quiet_tail_lit 14 (by kernel_rfl) (by kernel_rfl) ?_;simp only[List.take_succ_cons,List.take_zero,List.drop_succ_cons,List.drop_zero];repeat(quiet_step (fail))
  refine wpQuiet_nil ?_;intro _ hw';obtain⟨nq,hw''⟩:=hw';subst hw'';refine wp_copyB rfl (.tmp 109) (.tmp 122) rfl g o n c _ D rfl rfl (HRD.out.drewN _) X k hXx.out hk.out hdc.out hdf.out ?_;subst hbv;have hgs2:=grown_sets g (byteVs X) o (WX.drewN nq);have hB2:BufAt ((WX.drewN nq).setCells g o (byteVs X)) gb gd gs r q i err T S:=(HX.out.drewN nq).gr (Gr.of_grown hgs2) (fun q=>HNE.out.1 (Option.some.inj q)) (fun q=>HNE.out.2.1 (Option.some.inj q)) (fun q=>HNE.out.2.2 (Option.some.inj q));have hq2:Hid (((WX.drewN nq).setCells g o (byteVs X)).heap[g]?=(w.setCells g o (byteVs X)).heap[g]?):=heap_setCells_congr (byteVs X) o w _ HgX.out;have HG2:Hid (Gr (fun k=>k=g\/k=gb\/k=gd\/k=gs) w ((WX.drewN nq).setCells g o (byteVs X))):=(HGX.out.drw nq).trans ((Gr.of_grown hgs2).mono fun _ _ q=>.inl (Option.some.inj q).symm);clear p0 p2 p3 hsl hgs2 hdc hdf HRD;generalize (WX.drewN nq).setCells g o (byteVs X)=w2 at *
  obtain⟨lb2,ls2,hb2⟩:=hB2.blk;have p2:=hb2.cell 2;have f2:=hb2.frozen 2;have HB2:=zH hB2;have HBB2:=zH hb2;clear hB2 hb2;go_upto_region 27 with fail
  have hB3:BufAt (w2.setCell ⟨gb,2,none⟩ (.int .i64 (m:Int))) gb gd gs m q i err T S:=HB2.out.setR hkb.2.2;have hq3:Hid ((w2.setCell ⟨gb,2,none⟩ (.int .i64 (m:Int))).heap[g]?=(w.setCells g o (byteVs X)).heap[g]?):=(heap_setCell_other w2 ⟨gb,2,none⟩ g _ (fun q=>HNE.out.1 q)).trans hq2.out;have HG3:Hid (Gr (fun k=>k=g\/k=gb\/k=gd\/k=gs) w (w2.setCell ⟨gb,2,none⟩ (.int .i64 (m:Int)))):=gr_set0 HG2.out gb 2 _ (.inr (.inl rfl));clear p2 f2;generalize w2.setCell ⟨gb,2,none⟩ (.int .i64 (m:Int))=w3 at *
  obtain⟨lb3,ls3,hb3⟩:=hB3.blk;have p0:=hb3.cell 0;have p2:=hb3.cell 2;have f5:=hb3.frozen 5;have f6:=hb3.frozen 6;have p5:=hb3.cell 5;have p6:=hb3.cell 6;obtain⟨m1,hm1⟩:∃m1,m1+1=m:=⟨m - 1,by have:=hm.out;omega⟩;have e2:IntKind.i64.wrap ((m:Int) - 1)=(m1:Int):=by have:=hkb.2.2;rw[IntWalk.i64_in _ (by omega)];omega
  have e3:(0:Int)<=(m1:Int):=by omega
  have e4:(m1:Int) < 4096:=by have:=hkb.2.2;omega
  obtain⟨x,hx⟩:∃x,T[m1]?=some x:=⟨_,zG (by rw[hB3.len];have:=hkb.2.2;omega)⟩;have e5:=hB3.cell m1 x hx;rw[Nat.zero_add]at e5;unfold byteV at e5;have hcv:IntKind.i64.wrap (x.toNat:Int)=(x.toNat:Int):=by have:=x.toNat_lt;rw[IntWalk.i64_in _ (by omega)]
  have HB3:=zH hB3;have HBB3:=zH hb3;clear hB3 hb3 hm1 hx;refine wp_quiet_tail_lit 15 (by kernel_rfl) (by kernel_rfl) ?_;simp only[List.take_succ_cons,List.take_zero,List.drop_succ_cons,List.drop_zero];repeat(quiet_step (fail))
  refine wpQuiet_nil ?_;intro _ hw';obtain⟨nq9,hw''⟩:=hw';subst hw'';go_wp2;go_ret2
  refine .inl ⟨k,X,hkb.1,hkb.2.1,hk.out,rfl,?_,?_,m,q,i,err,T,?_,HOK1.out,?_⟩
  ·exact(heap_setCell_other _ ⟨gb,6,none⟩ g _ (fun q=>HNE.out.1 q)).trans ((heap_setCell_other _ ⟨gb,5,none⟩ g _ (fun q=>HNE.out.1 q)).trans hq3.out)
  ·exact gr_set0 (gr_set0 (HG3.out.drw _) gb 5 _ (.inr (.inl rfl))) gb 6 _ (.inr (.inl rfl))
  ·exact((HB3.out.drewN _).setL 5 _ (.inl rfl)).setL 6 _ (.inr rfl)
  rw[restOf,hm.out,<-List.drop_drop,hD.out,<-HRS.out,restOf,hD.out,<-List.append_assoc];congr 1
  have h1:X=D.take k:=by
   have:k=min n D.length:=by rw[hkk.out,hDl.out]
   rw[this,<-List.take_eq_take_min];exact hXx.out.symm
  rw[h1,List.take_append_drop]
 have hrq':r=q:=by omega
 subst hrq';have z1:((r:Int) == (r:Int))=true:=by simp
 have hrS:Hid (rest=S.drop i):=by unfold Hid;rw[<-hrest.out,restOf,List.drop_eq_nil_of_le (by rw[List.length_take];omega)];rfl
 have hr0:∀(T':List UInt8) (r' i':Nat),restOf r' r' i' T' S=S.drop i':=fun T' r' i'=>by rw[restOf,List.drop_eq_nil_of_le (by rw[List.length_take];omega)];rfl
 have HR0:=zH hr0;clear hr0;have p4:=HBB.out.cell 4;have p0:=HBB.out.cell 0;have p1:=HBB.out.cell 1;rcases hok with he|⟨he,hie⟩
 ·subst he
  have hmR:=mRdS;by_cases hbig:4096<=n
  ·have z2:(4096:Int)<=(n:Int):=by omega
   by_cases hlt:i < S.length
   ·obtain⟨X,hXx⟩:∃X,Hid ((S.drop i).take n=X):=⟨_,rfl⟩
    obtain⟨k,hk⟩:∃k,Hid (min n (S.length - i)=k):=⟨_,rfl⟩;have hXk:Hid (X.length=k):=by unfold Hid;rw[<-hXx.out,<-hk.out,List.length_take,List.length_drop]
    have hkn:0 < k/\k<=n/\i+k<=S.length:=by have:=hk.out;omega
    have b1:¬((k:Int) < 0):=by omega
    have b2:(0:Int) < (k:Int):=by omega
    go_enter Tryz.func243,Tryz.ntmps243;go_upto_region 6 with fail
    go_quiet (fail)
    go_upto_region 10 with fail
    go_upto_region 11 with(go_at_call 235;refine(c235y gs i g o n c S pE pF _ (H.out.rd.drewN _) (HE.out.drewN _) HC.out HF.out HNE.out.2.2 hS hlt).mono ?_;rintro e w2⟨rfl,hh,hs2,hG2⟩;rw[hk.out]at hs2 ⊢;rw[hXx.out]at hh;have hb2:=(hG2.block gb (show gb < (w.drewN _).heap.size from HBB.out.lt) (fun q=>q.elim (fun q=>HNE.out.1 q.symm) H.out.nbs)).trans HBB.out;have p4':=Blk.cell hb2 4;have f4':=Blk.frozen hb2 4)
    have HH:=zH hh;have HG2:Hid (Gr (fun k=>k=g\/k=gb\/k=gd\/k=gs) w w2):=((Gr.refl _ w).drw _).trans (hG2.mono fun _ _ q=>q.elim .inl (fun q=>.inr (.inr (.inr q))));have hB3:BufAt (w2.setCell ⟨gb,4,none⟩ .nilIface) gb gd gs r r (i+k) .nilIface T S:=by
     have hgs3:=gr_set0 (Z:=fun k=>k=gb) (Gr.refl _ w2) gb 4 .nilIface rfl;exact⟨⟨lb,ls,((show Blk w2 gb _ 231 from hb2).set_ 4 _).to (by simp)⟩,(hgs3.block gd (zL H.out.buf.lt (by have:=hG2.size;exact this)) H.out.nbd.symm).trans ((hG2.block gd (show gd < (w.drewN _).heap.size from H.out.buf.lt) (fun q=>q.elim (fun q=>HNE.out.2.1 q.symm) H.out.nds)).trans H.out.buf),H.out.len,hs2.gr hgs3 H.out.nbs.symm,zR _,hwl,H.out.nbd,H.out.nbs,H.out.nds⟩
    have hq3:Hid ((w2.setCell ⟨gb,4,none⟩ .nilIface).heap[g]?=(w.setCells g o (byteVs X)).heap[g]?):=(heap_setCell_other w2 ⟨gb,4,none⟩ g _ (fun q=>HNE.out.1 q)).trans (HH.out.trans (heap_setCells_congr (byteVs X) o w _ rfl));have HG3:Hid (Gr (fun k=>k=g\/k=gb\/k=gd\/k=gs) w (w2.setCell ⟨gb,4,none⟩ .nilIface)):=gr_set0 HG2.out gb 4 _ (.inr (.inl rfl));clear hb2 hG2 hs2 hh p4' f4' p0 p1 p2 p3 p4;generalize w2.setCell ⟨gb,4,none⟩ .nilIface=w3 at *
    obtain⟨lb3,ls3,hb3⟩:=hB3.blk;have f5:=hb3.frozen 5;have f6:=hb3.frozen 6;have p5:=hb3.cell 5;have p6:=hb3.cell 6;obtain⟨k1,hk1⟩:∃k1,k1+1=k:=⟨k - 1,by omega⟩;have e2:IntKind.i64.wrap ((k:Int) - 1)=(k1:Int):=by rw[IntWalk.i64_in _ (by omega)];omega
    have e3:(0:Int)<=(k1:Int):=by omega
    have e4:(k1:Int) < (n:Int):=by omega
    obtain⟨x,hx⟩:∃x,X[k1]?=some x:=⟨_,zG (by rw[hXk.out];omega)⟩;have e5:w3.cell? ⟨g,o+k1,none⟩=some (.int .u8 (x.toNat:Int)):=by
     rw[World.cell?_of_block (a:=⟨g,o+k1,none⟩) hq3.out];have:=World.cell?_setCells_in g (byteVs X) o w (fun j hj=>HC.out j (by rw[byteVs_len,hXk.out]at hj;omega)) k1 (by rw[byteVs_len,hXk.out];omega);rw[this];have h2:=byteVs_at hx;rw[zG (by rw[byteVs_len,hXk.out];omega)]at h2;exact h2
    have hcv:IntKind.i64.wrap (x.toNat:Int)=(x.toNat:Int):=by have:=x.toNat_lt;rw[IntWalk.i64_in _ (by omega)]
    have HB3:=zH hB3;clear hB3 hb3 hk1 hx;go_wp2_with (go_at_call 157;refine(c157 gb gd gs r r (i+k) .nilIface T S _ ((HB3.out.setL 5 _ (.inl rfl)).setL 6 _ (.inr rfl))).mono ?_;rintro e w4⟨rfl,hB4,hG4⟩);go_ret2
    refine .inl ⟨k,X,hkn.1,hkn.2.1,hXk.out,rfl,?_,?_,r,r,i+k,.nilIface,T,hB4,.inl rfl,?_⟩
    ·refine(hG4.block g ?_ (fun q=>HNE.out.1 (Option.some.inj q))).trans ((heap_setCell_other _ ⟨gb,6,none⟩ g _ (fun q=>HNE.out.1 q)).trans ((heap_setCell_other _ ⟨gb,5,none⟩ g _ (fun q=>HNE.out.1 q)).trans hq3.out))
     rw[World.size_setCell,World.size_setCell];exact zL (cell_lt' (HC.out 0 hn0)) HG3.out.size
    ·exact(gr_set0 (gr_set0 HG3.out gb 5 _ (.inr (.inl rfl))) gb 6 _ (.inr (.inl rfl))).trans ((Gr.of_grown hG4).mono fun _ _ q=>.inr (.inl (Option.some.inj q).symm))
    rw[HR0.out,hrS.out,<-List.drop_drop];have h1:X=(S.drop i).take k:=by
     have:k=min n (S.drop i).length:=by rw[<-hk.out,List.length_drop]
     rw[this,<-List.take_eq_take_min];exact hXx.out.symm
    rw[h1,List.take_append_drop]
   have hie:i=S.length:=by omega
   have hSn:Hid (S.drop i=[]):=List.drop_eq_nil_of_le (by omega);go_enter Tryz.func243,Tryz.ntmps243;go_upto_region 6 with fail
   go_quiet (fail)
   go_upto_region 10 with fail
   go_upto_region 11 with(go_at_call 235;refine(c235n gs i g o n c S pE pF _ (H.out.rd.drewN _) (HE.out.drewN _) HC.out HF.out HNE.out.2.2 hS hlt).mono ?_;rintro e w2⟨rfl,hG2⟩;unfold eofV;have hb2:=(hG2.block gb (show gb < (w.drewN _).heap.size from HBB.out.lt)).trans HBB.out;have p4':=Blk.cell hb2 4;have f4':=Blk.frozen hb2 4)
   have hB2:BufAt w2 gb gd gs r r i .nilIface T S:=(H.out.drewN _).gr (Z:=fun _=>False) (Gr.of_below hG2) id id id;have HB3:Hid (BufAt (w2.setCell ⟨gb,4,none⟩ (.iface 235 (.pointer (some pE)))) gb gd gs r r i (eofV pE) T S):=hB2.setE _;have HG3:Hid (Gr (fun k=>k=g\/k=gb\/k=gd\/k=gs) w (w2.setCell ⟨gb,4,none⟩ (.iface 235 (.pointer (some pE))))):=gr_set0 (((Gr.refl _ w).drw _).trans (Gr.of_below hG2)) gb 4 _ (.inr (.inl rfl));have hq3:Hid ((w2.setCell ⟨gb,4,none⟩ (.iface 235 (.pointer (some pE)))).heap[g]?=w.heap[g]?):=(heap_setCell_other w2 ⟨gb,4,none⟩ g _ (fun q=>HNE.out.1 q)).trans (hG2.block g (cell_lt' (HC.out 0 hn0)));clear hb2 hG2 hB2 p4' f4' p0 p1 p2 p3 p4;generalize w2.setCell ⟨gb,4,none⟩ (.iface 235 (.pointer (some pE)))=w3 at *
   go_wp2_with (go_at_call 157;refine(c157 gb gd gs r r i (eofV pE) T S _ HB3.out).mono ?_;rintro e w4⟨rfl,hB4,hG4⟩;unfold eofV);go_ret2
   exact .inr ⟨by rw[hrS.out,hSn.out],rfl,(hG4.block g (zL (cell_lt' (HC.out 0 hn0)) HG3.out.size) (fun q=>HNE.out.1 (Option.some.inj q))).trans hq3.out,HG3.out.trans ((Gr.of_grown hG4).mono fun _ _ q=>.inr (.inl (Option.some.inj q).symm)),r,r,i,.nilIface,T,hB4,.inl rfl,by rw[HR0.out,hSn.out]⟩
  have z2:¬((4096:Int)<=(n:Int)):=by omega
  go_enter Tryz.func243,Tryz.ntmps243;go_upto_region 6 with fail
  have f2:=HBB.out.frozen 2;have f3:=HBB.out.frozen 3;go_quiet (fail)
  go_upto_region 19 with fail
  have hB1:BufAt (World.setCell (World.setCell (w.drewN nq) ⟨gb,2,none⟩ (.int .i64 0)) ⟨gb,3,none⟩ (.int .i64 0)) gb gd gs 0 0 i .nilIface T S:=(H.out.drewN nq).setRW;have hG1:Gr (fun k=>k=gb) w (World.setCell (World.setCell (w.drewN nq) ⟨gb,2,none⟩ (.int .i64 0)) ⟨gb,3,none⟩ (.int .i64 0)):=gr_set0 (gr_set0 ((Gr.refl (fun k=>k=gb) w).drw nq) gb 2 _ rfl) gb 3 _ rfl;clear p0 p1 p2 p3 p4 f2 f3;generalize World.setCell (World.setCell (w.drewN nq) ⟨gb,2,none⟩ (.int .i64 0)) ⟨gb,3,none⟩ (.int .i64 0)=w1 at *
  obtain⟨lb1,ls1,hb1⟩:=hB1.blk;have p0:=hb1.cell 0;have p1:=hb1.cell 1;have p4:=hb1.cell 4;have f4:=hb1.frozen 4;have HB1:=zH hB1;have HG1:=zH hG1;have HE1:Hid (Errs w1 pE pF):=HE.out.gr hG1 (fun k hk q=>by omega);have HBB1:=zH hb1;clear hB1 hG1 hb1;by_cases hlt:i < S.length
  ·have hbc:Hid (∀j,j < 4096->(w1.cell? ⟨gd,0+j,none⟩).isSome=true):=fun j hj=>by
    rw[HB1.out.buf.cell,List.getElem?_toArray,zG (by rw[byteVs_len,HB1.out.len];omega)];rfl
   have hbf:Hid (∀j,j < 4096->w1.frozen? ⟨gd,0+j,none⟩=false):=fun j hj=>HB1.out.buf.frozen _
   obtain⟨X0,hXx⟩:∃X0,Hid ((S.drop i).take 4096=X0):=⟨_,rfl⟩;obtain⟨k0,hk⟩:∃k0,Hid (min 4096 (S.length - i)=k0):=⟨_,rfl⟩
   go_region_with (go_at_call 235;refine(c235y gs i gd 0 4096 4096 S pE pF _ (HB1.out.rd.drewN _) (HE1.out.drewN _) hbc.out hbf.out H.out.nds hS hlt).mono ?_;rintro e w2⟨rfl,hh,hs2,hG2⟩;rw[hk.out]at hs2 ⊢;rw[hXx.out]at hh;have hb2:=(hG2.block gb (show gb < (w1.drewN _).heap.size from HBB1.out.lt) (fun q=>q.elim H.out.nbd H.out.nbs)).trans HBB1.out;have p4':=Blk.cell hb2 4;have f4':=Blk.frozen hb2 4)
   all_goals
    have hXk:Hid (X0.length=k0):=by unfold Hid;rw[<-hXx.out,<-hk.out,List.length_take,List.length_drop]
    have hkn:0 < k0/\k0<=4096/\i+k0<=S.length:=by have:=hk.out;omega
    have hbuf:Blk w2 gd (byteVs (X0++T.drop k0)).toArray 5:=by
     have h1:=Blk.setCells (w:=w1) (o:=0) (X:=X0) HB1.out.buf (by rw[hXk.out,HB1.out.len];omega);rw[List.take_zero,List.nil_append,Nat.zero_add,hXk.out]at h1;exact(hh.trans (heap_setCells_congr (byteVs X0) 0 w1 _ rfl)).trans h1
    obtain⟨r1,hr1⟩:∃r1:Nat,Hid (r1=0):=⟨_,rfl⟩;obtain⟨q0,hq0⟩:∃q0:Nat,Hid (q0=0):=⟨_,rfl⟩;obtain⟨i1,hi1⟩:∃i1,Hid (i1=i+k0):=⟨i+k0,rfl⟩;obtain⟨T1,hT1⟩:∃T1,Hid (T1=X0++T.drop k0):=⟨X0++T.drop k0,rfl⟩;have hT1l:T1.length=4096:=by rw[hT1.out,zA,hXk.out,List.length_drop,HB1.out.len];omega
    have hB2:BufAt w2 gb gd gs r1 q0 i1 .nilIface T1 S:=by
     rw[hr1.out,hq0.out,hi1.out,hT1.out];exact⟨⟨lb1,ls1,hb2⟩,hbuf,by rw[<-hT1.out];exact hT1l,hs2,zR _,by omega,H.out.nbd,H.out.nbs,H.out.nds⟩
    have hg1:w1.heap[g]?=w.heap[g]?:=HG1.out.block g (cell_lt' (HC.out 0 hn0)) (fun q=>HNE.out.1 q);have hg2:w2.heap[g]?=w.heap[g]?:=(hG2.block g (zL (cell_lt' (HC.out 0 hn0)) HG1.out.size) (fun q=>q.elim HNE.out.2.1 HNE.out.2.2)).trans hg1;have hG3:Gr (fun k=>k=g\/k=gb\/k=gd\/k=gs) w w2:=(HG1.out.mono fun _ _ q=>.inr (.inl q)).trans (((Gr.refl _ w1).drw _).trans (hG2.mono fun _ _ q=>q.elim (fun q=>.inr (.inr (.inl q))) (fun q=>.inr (.inr (.inr q)))));have hB3:BufAt (w2.setCell ⟨gb,4,none⟩ .nilIface) gb gd gs r1 q0 i1 .nilIface T1 S:=hB2.setE _;have hg3:(w2.setCell ⟨gb,4,none⟩ .nilIface).heap[g]?=w.heap[g]?:=(heap_setCell_other w2 ⟨gb,4,none⟩ g _ (fun q=>HNE.out.1 q)).trans hg2;have hG4:=gr_set0 hG3 gb 4 .nilIface (.inr (.inl rfl));clear hb2 hG2 hs2 hh p4' f4' p0 p1 p4 f4 hbuf hB2 hg1 hg2 hG3;generalize w2.setCell ⟨gb,4,none⟩ .nilIface=w3 at *
    obtain⟨lb3,ls3,hb3⟩:=hB3.blk;have hb3':Blk w3 gb #[.slice (some ⟨gd,0,none⟩) 4096 4096,.iface 71 (.pointer (some ⟨gs,0,none⟩)),.int .i64 (r1:Int),.int .i64 0,.nilIface,.int .i64 lb3,.int .i64 ls3] 231:=hb3.to (by rw[hq0.out];rfl);have p3:=hb3'.cell 3;have f3:=hb3'.frozen 3;have b1:¬((k0:Int) < 0):=by omega
    have b2:((k0:Int) == 0)=false:=zF (by omega);have b3:IntKind.i64.wrap (0+(k0:Int))=(k0:Int):=by rw[Int.zero_add,IntWalk.i64_in _ (by omega)]
    have HB3:=zH hB3;have HG4:=zH hG4;have Hg3:=zH hg3;clear hb3 hb3' hB3 hG4 hg3;go_upto_region 25 with fail
    have hX:BufAt (w3.setCell ⟨gb,3,none⟩ (.int .i64 (k0:Int))) gb gd gs r1 k0 i1 .nilIface T1 S:=HB3.out.setW (by rw[hr1.out];omega) hkn.2.1;have HGX:Hid (Gr (fun k=>k=g\/k=gb\/k=gd\/k=gs) w (w3.setCell ⟨gb,3,none⟩ (.int .i64 (k0:Int)))):=gr_set0 HG4.out gb 3 _ (.inr (.inl rfl));have hgX:(w3.setCell ⟨gb,3,none⟩ (.int .i64 (k0:Int))).heap[g]?=w.heap[g]?:=(heap_setCell_other w3 ⟨gb,3,none⟩ g _ (fun q=>HNE.out.1 q)).trans Hg3.out;have HRS:Hid (restOf r1 k0 i1 T1 S=rest):=by
     unfold Hid;rw[hrS.out,restOf,hr1.out,List.drop_zero,hT1.out,List.take_left' hXk.out,hi1.out,<-List.drop_drop];have h1:X0=(S.drop i).take k0:=by
      have:k0=min 4096 (S.drop i).length:=by rw[<-hk.out,List.length_drop]
      rw[this,<-List.take_eq_take_min];exact hXx.out.symm
     rw[h1,List.take_append_drop]
    have HOK1:Hid (errOk .nilIface i1 S pE):=.inl rfl;have hrq1:r1 < k0:=by rw[hr1.out];exact hkn.1
    obtain⟨q1,hq1⟩:∃q1,q1=k0:=⟨_,rfl⟩;rw[<-hq1]at hX HGX hgX HRS hrq1 ⊢;have HQ1:=zH hq1;clear p3 f3 hrq z1 hq1;generalize w3.setCell ⟨gb,3,none⟩ (.int .i64 (q1:Int))=WX at *
    clear hXx hk hXk b1 b2 b3 hkn hT1;have hle1:=hX.le;have hwl1:=hX.wle;obtain⟨D,hD⟩:∃D,Hid ((T1.take q1).drop r1=D):=⟨_,rfl⟩;have hDl:Hid (D.length=q1 - r1):=by unfold Hid;rw[<-hD.out,List.length_drop,List.length_take,hX.len];omega
    obtain⟨X,hXx⟩:∃X,Hid (D.take n=X):=⟨_,rfl⟩;obtain⟨k,hk⟩:∃k,Hid (X.length=k):=⟨_,rfl⟩;have hkk:Hid (k=min n (q1 - r1)):=by unfold Hid;rw[<-hk.out,<-hXx.out,List.length_take,hDl.out]
    obtain⟨m,hm⟩:∃m,Hid (m=r1+k):=⟨_,rfl⟩;have hkb:0 < k/\k<=n/\m<=q1:=by have:=hkk.out;have:=hm.out;omega
    obtain⟨lb1,ls1,hb1⟩:=hX.blk;have HRD:Hid (RdB WX (.slice (sAd gd 0 r1 4096) (q1 - r1) (4096 - r1)) D):=by
     unfold Hid;rw[<-hD.out];exact RdB.sAd hX.cell hle1 (by rw[hX.len];exact hwl1) (by rw[hX.len];omega)
    have hdc:Hid (∀j,j < n->(WX.cell? ⟨g,o+j,none⟩).isSome=true):=fun j hj=>by rw[World.cell?_of_block (a:=⟨g,o+j,none⟩) hgX];exact HC.out j hj
    have hdf:Hid (∀j,j < n->WX.frozen? ⟨g,o+j,none⟩=false):=fun j hj=>by rw[World.frozen?_of_block (a:=⟨g,o+j,none⟩) hgX];exact HF.out j hj
    have hsl:=slRun gd 0 4096 4096 r1 q1 hle1 hwl1;have p0:=hb1.cell 0;have p2:=hb1.cell 2;have p3:=hb1.cell 3;have e1:IntKind.i64.wrap ((r1:Int)+(k:Int))=(m:Int):=by have:=hm.out;rw[IntWalk.i64_in _ (by omega)];omega
    have HX:=zH hX;have HBB1:=zH hb1;have HgX:=zH hgX;clear hX hb1 hgX;generalize hbv:Value.slice (some ⟨gd,0,none⟩) 4096 4096=bv at p0 hsl
    go_wp2;refine wp_quiet_tail_lit 14 (by kernel_rfl) (by kernel_rfl) ?_;simp only[List.take_succ_cons,List.take_zero,List.drop_succ_cons,List.drop_zero];repeat(quiet_step (fail))
    refine wpQuiet_nil ?_;intro _ hw';obtain⟨nq,hw''⟩:=hw';subst hw'';refine wp_copyB rfl (.tmp 109) (.tmp 122) rfl g o n c _ D rfl rfl (HRD.out.drewN _) X k hXx.out hk.out hdc.out hdf.out ?_;subst hbv;have hgs2:=grown_sets g (byteVs X) o (WX.drewN nq);have hB2:BufAt ((WX.drewN nq).setCells g o (byteVs X)) gb gd gs r1 q1 i1 .nilIface T1 S:=(HX.out.drewN nq).gr (Gr.of_grown hgs2) (fun q=>HNE.out.1 (Option.some.inj q)) (fun q=>HNE.out.2.1 (Option.some.inj q)) (fun q=>HNE.out.2.2 (Option.some.inj q));have hq2:Hid (((WX.drewN nq).setCells g o (byteVs X)).heap[g]?=(w.setCells g o (byteVs X)).heap[g]?):=heap_setCells_congr (byteVs X) o w _ HgX.out;have HG2:Hid (Gr (fun k=>k=g\/k=gb\/k=gd\/k=gs) w ((WX.drewN nq).setCells g o (byteVs X))):=(HGX.out.drw nq).trans ((Gr.of_grown hgs2).mono fun _ _ q=>.inl (Option.some.inj q).symm);clear p0 p2 p3 hsl hgs2 hdc hdf HRD;generalize (WX.drewN nq).setCells g o (byteVs X)=w2 at *
    obtain⟨lb2,ls2,hb2⟩:=hB2.blk;have p2:=hb2.cell 2;have f2:=hb2.frozen 2;have HB2:=zH hB2;have HBB2:=zH hb2;clear hB2 hb2;go_upto_region 27 with fail
    have hB3:BufAt (w2.setCell ⟨gb,2,none⟩ (.int .i64 (m:Int))) gb gd gs m q1 i1 .nilIface T1 S:=HB2.out.setR hkb.2.2;have hq3:Hid ((w2.setCell ⟨gb,2,none⟩ (.int .i64 (m:Int))).heap[g]?=(w.setCells g o (byteVs X)).heap[g]?):=(heap_setCell_other w2 ⟨gb,2,none⟩ g _ (fun q=>HNE.out.1 q)).trans hq2.out;have HG3:Hid (Gr (fun k=>k=g\/k=gb\/k=gd\/k=gs) w (w2.setCell ⟨gb,2,none⟩ (.int .i64 (m:Int)))):=gr_set0 HG2.out gb 2 _ (.inr (.inl rfl));clear p2 f2;generalize w2.setCell ⟨gb,2,none⟩ (.int .i64 (m:Int))=w3 at *
    obtain⟨lb3,ls3,hb3⟩:=hB3.blk;have p0:=hb3.cell 0;have p2:=hb3.cell 2;have f5:=hb3.frozen 5;have f6:=hb3.frozen 6;have p5:=hb3.cell 5;have p6:=hb3.cell 6;obtain⟨m1,hm1⟩:∃m1,m1+1=m:=⟨m - 1,by have:=hm.out;omega⟩;have e2:IntKind.i64.wrap ((m:Int) - 1)=(m1:Int):=by have:=hkb.2.2;rw[IntWalk.i64_in _ (by omega)];omega
    have e3:(0:Int)<=(m1:Int):=by omega
    have e4:(m1:Int) < 4096:=by have:=hkb.2.2;omega
    obtain⟨x,hx⟩:∃x,T1[m1]?=some x:=⟨_,zG (by rw[hB3.len];have:=hkb.2.2;omega)⟩;have e5:=hB3.cell m1 x hx;rw[Nat.zero_add]at e5;unfold byteV at e5;have hcv:IntKind.i64.wrap (x.toNat:Int)=(x.toNat:Int):=by have:=x.toNat_lt;rw[IntWalk.i64_in _ (by omega)]
    have HB3:=zH hB3;have HBB3:=zH hb3;clear hB3 hb3 hm1 hx;refine wp_quiet_tail_lit 15 (by kernel_rfl) (by kernel_rfl) ?_;simp only[List.take_succ_cons,List.take_zero,List.drop_succ_cons,List.drop_zero];repeat(quiet_step (fail))
    refine wpQuiet_nil ?_;intro _ hw';obtain⟨nq9,hw''⟩:=hw';subst hw'';go_wp2;go_ret2
    refine .inl ⟨k,X,hkb.1,hkb.2.1,hk.out,rfl,?_,?_,m,q1,i1,.nilIface,T1,?_,HOK1.out,?_⟩
    ·exact(heap_setCell_other _ ⟨gb,6,none⟩ g _ (fun q=>HNE.out.1 q)).trans ((heap_setCell_other _ ⟨gb,5,none⟩ g _ (fun q=>HNE.out.1 q)).trans hq3.out)
    ·exact gr_set0 (gr_set0 (HG3.out.drw _) gb 5 _ (.inr (.inl rfl))) gb 6 _ (.inr (.inl rfl))
    ·exact((HB3.out.drewN _).setL 5 _ (.inl rfl)).setL 6 _ (.inr rfl)
    rw[restOf,hm.out,<-List.drop_drop,hD.out,<-HRS.out,restOf,hD.out,<-List.append_assoc];congr 1
    have h1:X=D.take k:=by
     have:k=min n D.length:=by rw[hkk.out,hDl.out]
     rw[this,<-List.take_eq_take_min];exact hXx.out.symm
    rw[h1,List.take_append_drop]
  have hbc:Hid (∀j,j < 4096->(w1.cell? ⟨gd,0+j,none⟩).isSome=true):=fun j hj=>by
   rw[HB1.out.buf.cell,List.getElem?_toArray,zG (by rw[byteVs_len,HB1.out.len];omega)];rfl
  have hbf:Hid (∀j,j < 4096->w1.frozen? ⟨gd,0+j,none⟩=false):=fun j hj=>HB1.out.buf.frozen _
  have hie:i=S.length:=by omega
  have hSn:Hid (S.drop i=[]):=List.drop_eq_nil_of_le (by omega)
  go_region_with (go_at_call 235;refine(c235n gs i gd 0 4096 4096 S pE pF _ (HB1.out.rd.drewN _) (HE1.out.drewN _) hbc.out hbf.out H.out.nds hS hlt).mono ?_;rintro e w2⟨rfl,hG2⟩;unfold eofV;have hb2:=(hG2.block gb (show gb < (w1.drewN _).heap.size from HBB1.out.lt)).trans HBB1.out;have p4':=Blk.cell hb2 4;have f4':=Blk.frozen hb2 4)
  all_goals
   have hB2:BufAt w2 gb gd gs 0 0 i .nilIface T S:=(HB1.out.drewN _).gr (Z:=fun _=>False) (Gr.of_below hG2) id id id;have HB3:Hid (BufAt (w2.setCell ⟨gb,4,none⟩ (.iface 235 (.pointer (some pE)))) gb gd gs 0 0 i (eofV pE) T S):=hB2.setE _;have HG3:Hid (Gr (fun k=>k=g\/k=gb\/k=gd\/k=gs) w (w2.setCell ⟨gb,4,none⟩ (.iface 235 (.pointer (some pE))))):=gr_set0 ((HG1.out.mono fun _ _ q=>.inr (.inl q)).trans (((Gr.refl _ w1).drw _).trans (Gr.of_below hG2))) gb 4 _ (.inr (.inl rfl));have hq3:Hid ((w2.setCell ⟨gb,4,none⟩ (.iface 235 (.pointer (some pE)))).heap[g]?=w.heap[g]?):=(heap_setCell_other w2 ⟨gb,4,none⟩ g _ (fun q=>HNE.out.1 q)).trans ((hG2.block g (zL (cell_lt' (HC.out 0 hn0)) HG1.out.size)).trans (HG1.out.block g (cell_lt' (HC.out 0 hn0)) (fun q=>HNE.out.1 q)));clear hb2 hG2 hB2 p4' f4' p0 p1 p4 f4;generalize w2.setCell ⟨gb,4,none⟩ (.iface 235 (.pointer (some pE)))=w3 at *
   go_wp2_with (go_at_call 157;refine(c157 gb gd gs 0 0 i (eofV pE) T S _ HB3.out).mono ?_;rintro e w4⟨rfl,hB4,hG4⟩;unfold eofV);go_ret2
   exact .inr ⟨by rw[hrS.out,hSn.out],rfl,(hG4.block g (zL (cell_lt' (HC.out 0 hn0)) HG3.out.size) (fun q=>HNE.out.1 (Option.some.inj q))).trans hq3.out,HG3.out.trans ((Gr.of_grown hG4).mono fun _ _ q=>.inr (.inl (Option.some.inj q).symm)),0,0,i,.nilIface,T,hB4,.inl rfl,by rw[HR0.out,hSn.out]⟩
 subst he;have hSn:Hid (S.drop i=[]):=List.drop_eq_nil_of_le (by omega);unfold eofV at p4;go_enter Tryz.func243,Tryz.ntmps243;go_upto_region 6 with fail
 go_quiet (fail)
 go_wp2_with (go_at_call 157;refine(c157 gb gd gs r r i (eofV pE) T S _ (H.out.drewN _)).mono ?_;rintro e w3⟨rfl,hB3,hG3⟩;unfold eofV);go_ret2
 exact .inr ⟨by rw[hrS.out,hSn.out],rfl,hG3.block g (cell_lt' (HC.out 0 hn0)) (fun q=>HNE.out.1 (Option.some.inj q)),((Gr.refl _ w).drw _).trans ((Gr.of_grown hG3).mono fun _ _ q=>.inr (.inl (Option.some.inj q).symm)),r,r,i,.nilIface,T,hB3,.inl rfl,by rw[HR0.out,hSn.out]⟩
end Go.Proofs.YtnkihlpmmfeioaaGreatDoor
