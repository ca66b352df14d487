/- Part of the proof that laws.FnDVerifies answers true: A113,A114 -/
import Derived.Test.YtnkihlpmmfeioaaGreatDoorZ46
set_option linter.unusedVariables false
set_option linter.unusedSimpArgs false
set_option maxRecDepth 1000000
set_option maxHeartbeats 16000000
namespace Go.Proofs.YtnkihlpmmfeioaaGreatDoor
open Go.RowKit
theorem info116 : (Tryz.prog.info? 116).map (fun i=>(i.zero,i.size,i.bytes))=some (some (.pointer none),1,8):=by kernel_rfl
theorem body37(ct:Code)(h:ct=tlS B37 9):Tryz.f37.body=some (joinS 9 B37 ct):=by subst h;kernel_rfl
def SgB(w:World)(lo:Nat)(v:Value)(fs sg:List (List UInt8))(ps:List Nat):Prop :=
 ps.length=sg.length/\∀(j p:Nat) (f:List UInt8),ps[j]?=some p->sg[j]?=some f->lo<=p/\p < w.heap.size/\v.ownBlock≠some p/\∃ix:Nat,w.cell? ⟨p,0,none⟩=some (.int .i64 (ix:Int))/\w.cell? ⟨p,1,none⟩=some (.string (B (trim (cutZ 58 f))))/\fs[ix]?=some f
theorem SgB.below{w w':World}{lo:Nat}{v:Value}{fs sg:List (List UInt8)}{ps:List Nat}(h:SgB w lo v fs sg ps)(hb:Below w.heap.size w w'):SgB w' lo v fs sg ps :=
 ⟨h.1,fun j p f hp hf=>by
  obtain⟨h1,h2,h3,ix,h4,h5,h6⟩:=h.2 j p f hp hf;exact⟨h1,zL h2 hb.size,h3,ix,(hb.cell (cell_lt h4)).trans h4,(hb.cell (cell_lt h5)).trans h5,h6⟩⟩
theorem SgB.grown{w w':World}{lo:Nat}{v v':Value}{fs sg:List (List UInt8)}{ps:List Nat}(h:SgB w lo v fs sg ps)(hg:w.grownBy w' v.ownBlock)(hv:v'.ownBlock=v.ownBlock\/∃b,v'.ownBlock=some b/\w.heap.size<=b):SgB w' lo v' fs sg ps :=
 ⟨h.1,fun j p f hp hf=>by
  obtain⟨h1,h2,h3,ix,h4,h5,h6⟩:=h.2 j p f hp hf;refine⟨h1,zL h2 hg.size,?_,ix,(World.cell?_of_block (a:=⟨p,0,none⟩) (hg.block p h2 fun q=>h3 q.symm)).trans h4,(World.cell?_of_block (a:=⟨p,1,none⟩) (hg.block p h2 fun q=>h3 q.symm)).trans h5,h6⟩;rcases hv with q|⟨b,q,hb⟩
  ·rw[q];exact h3
  rw[q];intro e;injection e with e;omega⟩
theorem SgB.add{w:World}{lo:Nat}{v:Value}{fs sg:List (List UInt8)}{ps:List Nat}(h:SgB w lo v fs sg ps){p ix:Nat}{f:List UInt8}(h1:lo<=p)(h2:p < w.heap.size)(h3:v.ownBlock≠some p)(h4:w.cell? ⟨p,0,none⟩=some (.int .i64 (ix:Int)))(h5:w.cell? ⟨p,1,none⟩=some (.string (B (trim (cutZ 58 f)))))(h6:fs[ix]?=some f):SgB w lo v fs (sg++[f]) (ps++[p]):=by
 refine⟨by simp[h.1],fun j p' f' hp hf=>?_⟩;rcases Nat.lt_or_ge j sg.length with hlt|hge
 ·rw[List.getElem?_append_left (by rw[h.1];exact hlt)]at hp
  rw[List.getElem?_append_left hlt]at hf;exact h.2 j p' f' hp hf
 rw[List.getElem?_append_right (by rw[h.1];exact hge),h.1]at hp;rw[List.getElem?_append_right hge]at hf;cases hk0:j - sg.length with
 |zero =>
  rw[hk0]at hp hf;simp at hp hf;subst hp hf;exact⟨h1,h2,h3,ix,h4,h5,h6⟩
 |succ i=>rw[hk0]at hf;simp at hf
theorem SgB.sigAt{w W:World}{S:Nat->Prop}{lo:Nat}{A:Option Addr}{n c m:Nat}{fs sg:List (List UInt8)}{ps:List Nat}(h:SgB w lo (.slice A n c) fs sg ps)(ho:Own w lo 116 (.slice A n c) (ps.map ptrV))(hG:Gr S w W)(hS:∀k,lo<=k->k < w.heap.size->¬S k)(hm:m<=sg.length)(hc:m<=c) :
  SigAt W (.slice A m c) fs (sg.take m):=by
 have hl:(sg.take m).length=m:=by rw[List.length_take];omega
 refine⟨A,c,by rw[hl],by rw[hl];exact hc,fun h0=>?_⟩;obtain⟨A',c',he,_,hA⟩:=ho.slice;injection he with e1 e2 e3
 subst e1;rw[List.length_map]at hA;obtain⟨g,rfl,hg1,hg2,hcell⟩:=hA (by rw[h.1];omega);refine⟨g,rfl,fun j f hf=>?_⟩;have hf':sg[j]?=some f:=by
  rw[List.getElem?_take]at hf;split at hf
  ·exact hf
  cases hf
 have hjl:=(List.getElem?_eq_some_iff.1 hf').1;obtain⟨p,hp⟩:∃p,ps[j]?=some p:=⟨ps[j]'(by rw[h.1];exact hjl),zG _⟩;obtain⟨h1,h2,_,ix,h4,h5,h6⟩:=h.2 j p f hp hf';have hcj:=hcell j (ptrV p) (by rw[List.getElem?_map,hp];rfl);exact⟨p,ix,(World.cell?_of_block (a:=⟨g,j,none⟩) (hG.block g hg2 (hS g hg1 hg2))).trans hcj,(World.cell?_of_block (a:=⟨p,0,none⟩) (hG.block p h2 (hS p h1 h2))).trans h4,(World.cell?_of_block (a:=⟨p,1,none⟩) (hG.block p h2 (hS p h1 h2))).trans h5,h6⟩
def VwNone(w w':World)(gs:Nat)(e:Ending):Prop:=∃g m,e=.returned (.tuple #[.slice none 0 0,.iface 235 (.pointer (some ⟨g,0,none⟩))])/\w.heap.size<=g/\Blk w' g #[.string m] 237/\Gr (fun k=>k=gs\/w.heap.size<=k) w w'
def VwSome(w w':World)(gs:Nat)(pT:Addr)(e:Ending)(fs:List (List UInt8))(body:List UInt8)(recs:List Rec)(most now:Int):Prop :=
 ∃v,e=.returned (.tuple #[v,if manyOf most (sigsOf fs)=true then .iface 235 (.pointer (some pT))else .nilIface])/\RdPV w' v fs body recs now (firstOf most (sigsOf fs))/\Gr (fun k=>k=gs\/w.heap.size<=k) w w'
def VwPost(w w':World)(gs:Nat)(pT:Addr)(e:Ending)(S:List UInt8)(recs:List Rec)(most now:Int):Prop:=match headOf S with
 |none=>VwNone w w' gs e
 |some p=>VwSome w w' gs pT e p.1 p.2 recs most now
theorem c37(gs:Nat)(S:List UInt8)(pE pF pT:Addr)(w:World)(po:Nat)(pa:Addr)(v0:Value)(recs:List Rec)(pS pR:Addr)(txS txR:ByteArray)(now:Int)(nb:Bool)(most:Int)(hS:StrR w gs 0 S)(hE:Errs w pE pF)(htop:errTop pE pF < gs)(h6:6 < gs)(hl:S.length<=10000)(hp:plainL S)(hm:0<=most)(hrk:recsOk recs/\∀r∈recs,allLe 100000000 r.tx)
  (hK:∀W,Gr (fun k=>k=gs\/w.heap.size<=k) w W->VE W po pa v0 recs pS pR txS txR now nb/\W.cell? ⟨0,0,none⟩=some (.iface 235 (.pointer (some pT)))/\W.cell? ⟨po,1,none⟩=some (.int .i64 most)) :
  Calls Tryz.prog 37 #[.iface 71 (.pointer (some ⟨gs,0,none⟩)),.pointer (some ⟨po,0,none⟩)] w fun e w'=>VwPost w w' gs pT e S recs most now:=by
 obtain⟨P,hP⟩:∃P,Hid (headOf S=P):=⟨_,rfl⟩;unfold VwPost;rw[hP.out];have HK:=zH hK;have HE:=zH hE;have HP:=zH hp;have HRK:=zH hrk;have HST:=zH hS;have hgsl:=hS.lt;obtain⟨gb,hgb⟩:∃gb,Hid (w.heap.size=gb):=⟨_,rfl⟩;have h60:Hid (Calls Tryz.prog 60 #[.iface 71 (.pointer (some ⟨gs,0,none⟩))] w fun e w'=>e=.returned (.pointer (some ⟨gb,0,none⟩))/\BufAt w' gb (gb+1) gs 0 0 0 .nilIface zbuf S/\Below w.heap.size w w'):=by
  have:=c60 gs S w hS;rw[hgb.out]at this;rw[hgb.out];exact this
 clear hK hE hp hrk hS;obtain⟨ct,hct⟩:∃ct,Hid (ct=tlS B37 9):=⟨_,rfl⟩;refine calls_of_wp Tryz.func37 (body37 ct hct.out) ?_;simp only[Tryz.ntmps37,List.size_toArray,List.length_cons,List.length_nil,Nat.reduceAdd,Nat.reduceSub,Array.replicate_succ,Array.replicate_zero,List.push_toArray,List.append_toArray,List.nil_append,List.cons_append];conv=>arg 2;arg 2;whnf
 simp only[joinS];have C61:Hid (∀w1:World,BufAt w1 gb (gb+1) gs 0 0 0 .nilIface zbuf S->Below w.heap.size w w1->Calls Tryz.prog 61 #[.pointer (some ⟨gb,0,none⟩)] w1 fun e w'=>∃hv ev,e=.returned (.tuple #[hv,ev])/\RHPost w1 w' gb (gb+1) gs S pE hv ev P/\Gr (fun k=>k=gb\/k=gb+1\/k=gs) w1 w'):=fun w1 hB hb=>by
  have hst:=HE.out.gr (S:=fun _=>False) (Gr.of_below hb) (fun _ _ q=>q);have hr0:restOf 0 0 0 zbuf S=S:=by simp[restOf]
  have:=c61 gb (gb+1) gs 0 0 0 .nilIface zbuf S pE pF w1 hB (.inl rfl) hst (by omega) (by have:=hgb.out;omega) (by rw[hr0];omega);rw[hr0,hP.out]at this;exact this
 cases P with
 |none =>
  go_wp2_with (first
   |(go_at_call 60;refine h60.out.mono ?_;rintro e w1⟨rfl,hB,hb1⟩;have HB:=zH hB;clear hB)
   |(go_at_call 61;refine(C61.out _ HB.out hb1).mono ?_;rintro e w2⟨hv,ev,rfl,⟨g,m,rfl,hg,hbk⟩,hG⟩))
  go_ret2
  refine⟨g,m,rfl,zT hb1.size hg,hbk,(Gr.of_below hb1).trans (hG.mono fun k _ q=>?_)⟩;have:=hgb.out;rcases q with q|q|q
  ·exact .inr (by omega)
  ·exact .inr (by omega)
  exact .inl q
 |some p =>
  obtain⟨fs,body⟩:=p;obtain⟨hf1,hf2,hf3,hf4⟩:=headOf_facts hP.out;obtain⟨hf4,_⟩:=hf4 HP.out;simp only at hf1 hf2 hf3 hf4;have hFB:Hid (FB fs body recs):=⟨HRK.out,by omega,fun x hx=>by have:=hf2 x hx;omega,hf4,by omega⟩;have hfn:fs.length<=10000:=by omega
  clear hf1 hf2 hf3 hf4;show Code.wp Tryz.prog _ (bodyPost Tryz.prog Tryz.f37 fun e w'=>VwSome w w' gs pT e fs body recs most now) _ w;go_wp2_with (first
   |(go_at_call 60;refine h60.out.mono ?_;rintro e w1⟨rfl,hB,hb1⟩;have HB:=zH hB;clear hB)
   |(go_at_call 61;refine(C61.out _ HB.out hb1).mono ?_;rintro e w2⟨hv,ev,rfl,⟨rfl,ho,hbf⟩,hG⟩;have HO:=zH ho;have HBF:=zH hbf;have HG:=zH hG;obtain⟨A,c,rfl,hc,hA⟩:=ho.slice;rw[List.length_map]at hc hA;rw[List.length_map]))
  have HA:=zH hA;have HB1:=zH hb1;have hlh:Hid (lower [68,75,73,77,45,83,105,103,110,97,116,117,114,101]=dkimSigL):=by unfold Hid;decide
  have hpd:Hid (plainL [68,75,73,77,45,83,105,103,110,97,116,117,114,101]):=by unfold Hid;decide
  clear hA hb1 hbf hG;go_loopg [9,30] fs.length (fun g v i w'=>∃k:Nat,∃sg:List (List UInt8),∃ps:List Nat,Hid (k+g=fs.length)/\i=.int .i64 k/\Hid (sigsOf (fs.take k)=sg)/\Hid (sg.length<=k)/\Hid (Own w' w2.heap.size 116 v (ps.map ptrV))/\Hid (SgB w' w2.heap.size v fs sg ps)/\Hid (Below w2.heap.size w2 w'))
  case atStart=>exact⟨0,[],[],Nat.zero_add _,rfl,rfl,zR _,Own.nil _ _ _,⟨rfl,fun j p f h=>by simp at h⟩,zB _ _⟩
  obtain⟨k,sg,ps,hk,rfl,hsg,hsl,how,hsb,hb⟩:=hrel;have hk':k<=fs.length:=by have:=hk.out;omega
  by_cases hlt:k < fs.length
  ·obtain⟨gf,rfl,_,_,hcell⟩:=HA.out (by omega)
   obtain⟨f,hf⟩:∃f:List UInt8,Hid (fs[k]?=some f):=⟨fs[k],zG hlt⟩;have hc0:=hcell k (strV f) (by rw[List.getElem?_map,hf.out];rfl);have hck:=(hb.out.cell (p:=⟨gf,k,none⟩) (cell_lt hc0)).trans hc0;have hfm:f∈fs:=List.mem_of_getElem? hf.out;have hf1:=hFB.out.fl f hfm;have hfp:Hid (plainL f):=hFB.out.fp f hfm;unfold strV at hck;clear hcell hc0 hfm;have hst:=sigs_take hf.out;obtain⟨kn,hkn⟩:∃kn,Hid (trim (cutA 58 f)=kn):=⟨_,rfl⟩;obtain⟨vn,hvn⟩:∃vn,Hid (trim (cutZ 58 f)=vn):=⟨_,rfl⟩;have hkl:(B kn).size<=1073741824:=by rw[size_B,<-hkn.out];have:=trim_le (cutA 58 f);have:=cutA_le 58 f;omega
   have hkp:Hid (plainL kn):=by unfold Hid;rw[<-hkn.out];exact plain_trim (plain_cutA hfp.out)
   obtain⟨G,hgk⟩:∃G,Hid (k+1+G=fs.length/\G < gk):=⟨gk - 1,by have:=hk.out;unfold Hid;omega⟩;have his:isSig f=decide (lower kn=dkimSigL):=by
    unfold isSig;rw[hkn.out];by_cases h:lower kn=dkimSigL
    ·rw[decide_eq_true h,h];exact beq_self_eq_true _
    rw[decide_eq_false h];exact zF h
   have h62:Hid (∀W:World,Calls Tryz.prog 62 #[.string (B f)] W fun e w'=>e=.returned (.tuple #[.string (B kn),.string (B vn)])/\Below W.heap.size W w'):=fun W=>by
    have:=c62 (B f) W (by rw[size_B];omega) hfp.out;rw[L_B,hkn.out,hvn.out]at this;exact this
   have h63:Hid (∀W:World,Calls Tryz.prog 63 #[.string (B kn),.string ⟨#[68,75,73,77,45,83,105,103,110,97,116,117,114,101]⟩] W fun e w'=>e=.returned (.bool (decide (lower kn=dkimSigL)))/\Below W.heap.size W w'):=fun W=>by
    have:=c63 (B kn) ⟨#[68,75,73,77,45,83,105,103,110,97,116,117,114,101]⟩ W hkl (by decide) hkp.out hpd.out;rw[L_B,show(⟨#[68,75,73,77,45,83,105,103,110,97,116,117,114,101]⟩:ByteArray).data.toList=[68,75,73,77,45,83,105,103,110,97,116,117,114,101]from rfl,hlh.out]at this;exact this
   obtain⟨b,hbb⟩:∃b,Hid (decide (lower kn=dkimSigL)=b):=⟨_,rfl⟩;rw[hbb.out]at his h63;clear hkl hkp hkn;cases b with
   |false =>
    rw[his,if_neg (by decide),List.append_nil,hsg.out]at hst;have HST:=zH hst;clear hst his;go_wp2_with (first
     |(go_at_call 62;refine(h62.out _).mono ?_;rintro e w3⟨rfl,hb3⟩)
     |(go_at_call 63;refine(h63.out _).mono ?_;rintro e w4⟨rfl,hb4⟩;replace hb4:=bthen hb3 hb4))
    go_roundg G
    case measure=>exact hgk.out.2
    case rel=>exact⟨k+1,sg,ps,hgk.out.1,by go_num,HST,Nat.le_succ_of_le hsl.out,how.out.below hb4,hsb.out.below hb4,bthen hb.out hb4⟩
   |true =>
    rw[his,if_pos rfl,hsg.out]at hst;have HST:=zH hst;clear hst his;obtain⟨Av,cv,hvv,hcv,_⟩:=how.out.slice;subst hvv;rw[List.length_map]at hcv how hsb ⊢;have hpsl:Hid (ps.length=sg.length):=hsb.out.1;have hlen:Hid (((ps.map ptrV).length+1)*8<=140737488355328):=by have:=hsl.out;have:=hpsl.out;unfold Hid;rw[List.length_map];omega
    go_wp2_with (first
     |(go_at_call 62;refine(h62.out _).mono ?_;rintro e w3⟨rfl,hb3⟩)
     |(go_at_call 63;refine(h63.out _).mono ?_;rintro e w4⟨rfl,hb4⟩;replace hb4:=bthen hb3 hb4;obtain⟨WB,hWB⟩:∃W,Hid (w4.alloc (.cells #[.int .i64 (k:Int),.string (B vn)] 118)=W):=⟨_,rfl⟩;have hbB:Hid (Below wr.heap.size wr WB):=(by rw[<-hWB.out];exact hb4.alloc hb4.size _);have hWBs:Hid (WB.heap.size=w4.heap.size+1):=(by unfold Hid;rw[<-hWB.out];simp);have hq0:Hid (WB.cell? ⟨w4.heap.size,0,none⟩=some (.int .i64 (k:Int))/\WB.cell? ⟨w4.heap.size,1,none⟩=some (.string (B vn))):=(by unfold Hid;rw[<-hWB.out];exact⟨cell_of_row _ _ 0 _ _ _ (heap_alloc_new w4 _),cell_of_row _ _ 1 _ _ _ (heap_alloc_new w4 _)⟩))
     |(at_builtin;rw[hWB.out];go_loud (refine wp_app1 Tryz.underlying112 info116 rfl rfl (.tmp 42) (.tmp 47) rfl rfl (how.out.below hbB.out) (zT hb.out.size hbB.out.size) (ptrV w4.heap.size) rfl (by first|rfl|(show Value.slice (some ⟨w4.heap.size+1,0,none⟩) 1 1=_;rw[hWBs.out])) hlen.out (by decide) ?_;intro v5 w5 ho5 hg5 hb5 hl5)))
    have hsb5:=(((hsb.out.below hbB.out).add (p:=w4.heap.size) (ix:=k) (f:=f) (zT hb.out.size hb4.size) (by have:=hWBs.out;omega) (fun q=>by have:=World.ownsRow.lt how.out _ q;have:=hb4.size;omega) hq0.out.1 (by rw[hvn.out];exact hq0.out.2) hf.out)).grown hg5 (hl5.imp id fun h=>⟨_,h,Nat.le_succ _⟩);go_roundg G
    case measure=>exact hgk.out.2
    case rel=>exact⟨k+1,sg++[f],ps++[w4.heap.size],hgk.out.1,by go_num,HST,by have:=hsl.out;unfold Hid;simp;omega,by rw[List.map_append];exact ho5,hsb5,hb5 _ (bthen hb.out hbB.out)⟩
  obtain rfl:k=fs.length:=by omega
  rw[List.take_length]at hsg;obtain⟨Av,cv,hvv,hcv,hvA⟩:=how.out.slice;subst hvv;rw[List.length_map]at hcv how hsb HO ⊢;have hpsl:Hid (ps.length=sg.length):=hsb.out.1;have hws:=HB1.out.size;have hws2:=HG.out.size;have hws3:=hb.out.size;have hgw:Hid (w.heap.size=gb/\gb < w1.heap.size/\gb+1 < w1.heap.size):=by
   obtain⟨_,_,hbl⟩:=HB.out.blk;exact⟨hgb.out,hbl.lt,HB.out.buf.lt⟩
  have hGW:Hid (Gr (fun k=>k=gs\/w.heap.size<=k) w wr):=((Gr.of_below HB1.out).trans (HG.out.mono fun k _ q=>by have:=hgw.out;rcases q with q|q|q <;> omega)).trans (Gr.of_below hb.out);obtain⟨_,_,hmost⟩:=HK.out wr hGW.out;have FIN:Hid (∀(m:Nat) (many:Bool) (F:Nat->Value),m<=sg.length->m<=cv->sg.take m=firstOf most (sigsOf fs)->many=manyOf most (sigsOf fs)->F 1=.pointer (some ⟨po,0,none⟩)->F 6=.pointer (some ⟨gb,0,none⟩)->F 7=.slice A fs.length c->F 8=.nilIface->F 9=.slice Av m cv->F 14=.bool many ->
    Code.wp Tryz.prog ct (bodyPost Tryz.prog Tryz.f37 fun e w'=>VwSome w w' gs pT e fs body recs most now) ⟨frS 140 F,[]⟩ wr):=fun m many F h1 h2 h3 h4 f1 f6 f7 f8 f9 f14=>by
   have hgw':=hgw.out;have htl:(sg.take m).length<=20000:=by rw[List.length_take];have:=hsl.out;omega
   refine s37 F ct hct.out _ wr gb (gb+1) gs S pE pF po pa v0 recs pS pR txS txR now nb fs (sg.take m) c A (.slice Av m cv) body many pT ?_ hFB.out htl ?_ ?_ f1 f6 f7 f8 f9 f14 ?_
   ·obtain⟨r',q',i',err',T',k1,k2,k3⟩:=HBF.out
    refine⟨⟨r',q',i',err',T',k1.below hb.out,k2,k3⟩,HE.out.gr hGW.out (fun k hk q=>by rcases q with q|q <;> omega),by omega,by omega,by omega,by omega⟩
   ·intro W hG
    have hG0:Gr (fun k=>k=gs\/w.heap.size<=k) w W:=hGW.out.trans (hG.mono fun k _ q=>by rcases q with(q|q|q)|q <;> omega);obtain⟨q1,q2,q3⟩:=HK.out W hG0;have hrd:=(HO.out.rdS (by omega)).below hb.out;refine⟨⟨q1,q2⟩,hrd.gr hG (fun a ha q=>by have:=Own.blk HO.out a ha;rcases q with(q|q|q)|q <;> omega),hsb.out.sigAt how.out hG (fun k hk1 hk2 q=>by rcases q with(q|q|q)|q <;> omega) h1 h2⟩
   ·intro a ha
    have:=Own.blk HO.out a ha;exact⟨by omega,by omega⟩
   intro v w' hv hG;rw[h3]at hv;rw[h4];exact⟨v,rfl,hv,hGW.out.trans (hG.mono fun k _ q=>by rcases q with(q|q|q)|q <;> omega)⟩
  have hcv2:Hid (sg.length<=cv):=by have:=hpsl.out;unfold Hid;omega
  by_cases i1:(0:Int) < most
  ·by_cases i2:most < (ps.length:Int)
   ·obtain⟨m,rfl⟩:∃m:Nat,most=(m:Int):=⟨most.toNat,by omega⟩
    have i3:(m:Int)<=(cv:Int):=by omega
    have i4:(0:Int)<=(m:Int):=by omega
    have hfo:sg.take m=firstOf (m:Int) (sigsOf fs)/\true=manyOf (m:Int) (sigsOf fs):=by
     rw[hsg.out];unfold firstOf manyOf;rw[if_pos i1,decide_eq_true i1,decide_eq_true (by have:=hpsl.out;omega:((sg.length:Nat):Int) > (m:Int))];exact⟨by rw[Int.toNat_natCast],rfl⟩
    have HFO:=zH hfo;have hms:Hid (m<=sg.length/\m<=cv):=by have:=hpsl.out;unfold Hid;omega
    clear hfo;go_wp2;refine useF 140 _ (by kernel_rfl) ?_;exact FIN.out m true _ hms.out.1 hms.out.2 HFO.out.1 HFO.out.2 rfl rfl rfl rfl rfl rfl
   have hfa:=first_all (most:=most) (l:=sg) (fun _=>by have:=hpsl.out;omega);rw[<-hsg.out]at hfa;have HFA:=zH hfa;clear hfa;go_wp2;refine useF 140 _ (by kernel_rfl) ?_;exact FIN.out sg.length false _ (zR _) hcv2.out (by rw[List.take_length,HFA.out.1,hsg.out]) HFA.out.2.symm rfl rfl rfl rfl (by show Value.slice Av ps.length cv=_;rw[hpsl.out]) rfl
  have hfa:=first_all (most:=most) (l:=sg) (fun h=>absurd h i1);rw[<-hsg.out]at hfa;have HFA:=zH hfa;clear hfa;go_wp2;refine useF 140 _ (by kernel_rfl) ?_;exact FIN.out sg.length false _ (zR _) hcv2.out (by rw[List.take_length,HFA.out.1,hsg.out]) HFA.out.2.symm rfl rfl rfl rfl (by show Value.slice Av ps.length cv=_;rw[hpsl.out]) rfl
structure EN(w:World)(pE pF pS pR pT:Addr)(txS txR:ByteArray):Prop where
 kr:KRow w
 ers:Errs w pE pF
 es:w.cell? ⟨9,0,none⟩=some (.iface 235 (.pointer (some pS)))
 er:w.cell? ⟨10,0,none⟩=some (.iface 235 (.pointer (some pR)))
 ts:w.cell? pS=some (.string txS)/\txS.size<=1073741824
 tr:w.cell? pR=some (.string txR)/\txR.size<=1073741824
 req:∃rv,w.cell? ⟨1,0,none⟩=some rv/\RdS w rv reqd
 tab:GTab w
 many:w.cell? ⟨0,0,none⟩=some (.iface 235 (.pointer (some pT)))
 rT:∃cs t,Blk w pT.block cs t
theorem EN.top{w:World}{pE pF pS pR pT:Addr}{txS txR:ByteArray}(h:EN w pE pF pS pR pT txS txR):errTop pE pF < w.heap.size:=by
 have h1:=cell_lt h.ers.full;obtain⟨_,_,h2⟩:=h.ers.rE;obtain⟨_,_,h3⟩:=h.ers.rF;have h2:=h2.lt;have h3:=h3.lt;have h1:3 < w.heap.size:=h1;unfold errTop;omega
theorem EN.below{w w':World}{pE pF pS pR pT:Addr}{txS txR:ByteArray}(h:EN w pE pF pS pR pT txS txR)(hb:Below w.heap.size w w'):EN w' pE pF pS pR pT txS txR:=by
 obtain⟨cs,t,hT⟩:=h.rT;obtain⟨rv,q1,q2⟩:=h.req;exact⟨h.kr.below hb h.kr.lt,h.ers.gr (S:=fun _=>False) (Gr.of_below hb) (fun _ _ q=>q),(hb.cell (cell_lt h.es)).trans h.es,(hb.cell (cell_lt h.er)).trans h.er,⟨(hb.cell (cell_lt h.ts.1)).trans h.ts.1,h.ts.2⟩,⟨(hb.cell (cell_lt h.tr.1)).trans h.tr.1,h.tr.2⟩,⟨rv,(hb.cell (cell_lt q1)).trans q1,q2.below hb⟩,h.tab.below hb,(hb.cell (cell_lt h.many)).trans h.many,⟨cs,t,hT.below hb hT.lt⟩⟩
theorem KsAt.old{w1 W:World}{v:Value}{x:VV}{ks:List (List UInt8)}(h:RdS w1 x.hk ks)(hb:Below w1.heap.size w1 W)(hv:∀g,v.ownBlock=some g->w1.heap.size<=g):KsAt W v x ks:=by
 refine⟨h.below hb,fun h0 a ha=>?_⟩;obtain⟨A,c,h1,_,_,hA⟩:=h;obtain⟨g,off,rfl,hcell⟩:=hA h0;have hx:x.A=some ⟨g,off,none⟩:=by unfold VV.hk at h1;injection h1
 rw[hx]at ha;injection ha with ha
 subst ha;have hlt:=cell_lt (hcell 0 ks[0] (zG h0));have hlt:g < w1.heap.size:=hlt;exact⟨zL hlt hb.size,fun q=>by have:=hv _ q;have:w1.heap.size<=g:=this;omega⟩
theorem step_appV{ops:Array Oper}{o:Oper}{a:Act}{K:Act->World->Prop}{Q:Exit->Act->World->Prop}{E:Prop}{w:World}{s x:Operand}{base:Nat}{v:Value}{xs:List VV}{ad:Addr}{c:Nat}{y:VV}
  (hgd:o.guard=none)(ho:o.op=.call { callee:=.builtin .append,args:=#[s,x],argTypes:=#[28,28] })
  (hs:a.eval s=v) (hown:OwnV w base v xs) (hx:a.eval x=.slice (some ad) 1 c) (hnews:∀j u,(vcells [y])[j]?=some u->w.cell? (ad.add j)=some u) (hlen:(xs.length+1)*80<=140737488355328) (hbase:base<=w.heap.size)
  (h:∀v' w',OwnV w' base v' (xs++[y])->(∀w0,Below base w0 w->Below base w0 w')->w.grownBy w' v.ownBlock->(v'.ownBlock=v.ownBlock\/v'.ownBlock=some w.heap.size)->K (a.put o.dst v') w') :
  if Region.wanted o (yielded ops a.tmps)=true then Oper.wp Tryz.prog o a w K Q else E:=by
 have hw:Region.wanted o (yielded ops a.tmps)=true:=by simp[Region.wanted,hgd]
 rw[if_pos hw];obtain⟨v',w',hr,h2,h3,h4,h5⟩:=run_appV w o.type base v xs hown ad c y hnews hlen hbase;unfold Oper.wp execOp;simp only[ho,resolve,invoke,builtin,Sem.run_bind,Sem.run_pure,Result.andThen_ok,List.map_toArray,List.map_cons,List.map_nil,hs,hx,hr];exact h v' w' h2 h3 h4 h5
def MidNone(w w':World)(e:Ending)(pT:Addr):Prop:=∃g m,e=.returned (.tuple #[.slice none 0 0,.iface 235 (.pointer (some ⟨g,0,none⟩))])/\(⟨g,0,none⟩:Addr)≠pT/\Blk w' g #[.string m] 237/\Below w.heap.size w w'
def MidSome(w w':World)(e:Ending)(pT:Addr)(fs:List (List UInt8))(body:List UInt8)(recs:List Rec)(most now:Int):Prop :=
 ∃v,e=.returned (.tuple #[v,if manyOf most (sigsOf fs)=true then .iface 235 (.pointer (some pT))else .nilIface])/\RdPV w' v fs body recs now (firstOf most (sigsOf fs))/\Below w.heap.size w w'
def MidPost(w w':World)(e:Ending)(pT:Addr)(l:List UInt8)(recs:List Rec)(most now:Int):Prop:=match headOf l with
 |none=>MidNone w w' e pT
 |some p=>MidSome w w' e pT p.1 p.2 recs most now
theorem dv37(l:List UInt8)(rv:Value)(recs:List Rec)(most now:Int)(w wa w1 w2:World)(pE pF pS pR pT:Addr)(txS txR:ByteArray)(hE:EN w pE pF pS pR pT txS txR)(hl:l.length<=10000)(hp:plainL l)(hr:RdR w rv recs)(hrk:recsOk recs/\∀r∈recs,allLe 100000000 r.tx)(hm:0<=most)
  (hwa:w.alloc (.cells #[rv] 22)=wa)(hw1:w1=wa.alloc (.cells #[.string (B l),.int .i64 0,.int .i64 (-1)] 124))(hb2:Below w1.heap.size w1 w2) :
  Calls Tryz.prog 37 #[.iface 71 (.pointer (some ⟨wa.heap.size,0,none⟩)),.pointer (some ⟨w2.heap.size,0,none⟩)] (w2.alloc (.cells #[.func (.func 40) #[] #[.pointer (some ⟨w.heap.size,0,none⟩)],.int .i64 most,.int .i64 now,.bool true,.func (.func 41) #[] #[]] 87)) fun e w'=>MidPost w w' e pT l recs most now:=by
 have hsa:wa.heap.size=w.heap.size+1:=by rw[<-hwa];simp
 have hs1:w1.heap.size=wa.heap.size+1:=by rw[hw1];simp
 have hs2:=hb2.size;have hba:Below w.heap.size w wa:=by rw[<-hwa];exact(zB _ _).alloc (zR _) _
 have hb1:Below wa.heap.size wa w1:=by rw[hw1];exact(zB _ _).alloc (zR _) _
 have hb02:Below w.heap.size w w2:=bthen (bthen hba hb1) hb2;obtain⟨wd,hwd⟩:∃wd,w2.alloc (.cells #[.func (.func 40) #[] #[.pointer (some ⟨w.heap.size,0,none⟩)],.int .i64 most,.int .i64 now,.bool true,.func (.func 41) #[] #[]] 87)=wd:=⟨_,rfl⟩;have hsd:wd.heap.size=w2.heap.size+1:=by rw[<-hwd];simp
 have hb2d:Below w2.heap.size w2 wd:=by rw[<-hwd];exact(zB _ _).alloc (zR _) _
 have hbd:Below w.heap.size w wd:=bthen hb02 hb2d;have hpo:Blk wd w2.heap.size #[.func (.func 40) #[] #[.pointer (some ⟨w.heap.size,0,none⟩)],.int .i64 most,.int .i64 now,.bool true,.func (.func 41) #[] #[]] 87:=by rw[<-hwd];exact Blk.new _ _ _
 have hpa:wd.cell? ⟨w.heap.size,0,none⟩=some rv:=by
  have h1:wa.cell? ⟨w.heap.size,0,none⟩=some rv:=by rw[<-hwa];exact cell_of_row _ _ 0 _ _ _ (heap_alloc_new w _)
  have h2:=(hb1.cell (cell_lt h1)).trans h1;have h3:=(hb2.cell (cell_lt h2)).trans h2;exact(hb2d.cell (cell_lt h3)).trans h3
 have hst:StrR wd wa.heap.size 0 l:=by
  have h1:Blk w1 wa.heap.size #[.string (B l),.int .i64 0,.int .i64 (-1)] 124:=by rw[hw1];exact Blk.new _ _ _
  exact⟨Nat.zero_le _,-1,(h1.below hb2 h1.lt).below hb2d (by omega)⟩
 rw[hwd];have hEd:=hE.below hbd;have htop:=hE.top;have h6:=hE.kr.lt;have low:∀W,Gr (fun k=>k=wa.heap.size\/wd.heap.size<=k) wd W->Below w.heap.size w W:=fun W hG=>hbd.trans (hG.below hbd.size fun k hk q=>by omega)
 refine(c37 wa.heap.size l pE pF pT wd w2.heap.size ⟨w.heap.size,0,none⟩ rv recs pS pR txS txR now true most hst hEd.ers (by omega) (by omega) hl hp hm hrk ?_).mono ?_
 ·intro W hG
  have hW:=hE.below (low W hG);have hk:∀(a:Addr) (u:Value),a.block≠wa.heap.size->wd.cell? a=some u->W.cell? a=some u:=fun a u hne hu=>(World.cell?_of_block (hG.block a.block (cell_lt hu) (fun q=>by have:=cell_lt hu;rcases q with q|q;exact hne q;omega))).trans hu
  have hP:∀k u,(#[.func (.func 40) #[] #[.pointer (some ⟨w.heap.size,0,none⟩)],.int .i64 most,.int .i64 now,.bool true,.func (.func 41) #[] #[]]:Array Value)[k]?=some u->W.cell? ⟨w2.heap.size,k,none⟩=some u:=fun k u hu=>hk ⟨w2.heap.size,k,none⟩ u (by show ¬w2.heap.size=_;omega) ((hpo.cell k).trans hu)
  exact⟨⟨hW.kr,⟨hP 0 _ rfl,hP 4 _ rfl,hk _ _ (by show ¬w.heap.size=_;omega) hpa,hr.below (low W hG),hW.tab⟩,hP 2 _ rfl,hP 3 _ rfl,hW.es,hW.er,hW.ts,hW.tr,hW.req⟩,hW.many,hP 1 _ rfl⟩
 intro e w' h;unfold VwPost at h;unfold MidPost;cases hh:headOf l with
 |none =>
  rw[hh]at h;obtain⟨g,m,rfl,hg,hb,hG⟩:=h;obtain⟨_,_,hT⟩:=hE.rT;have:=hT.lt;exact⟨g,m,rfl,fun q=>by rw[<-q]at this;have:g < w.heap.size:=this;omega,hb,low _ hG⟩
 |some p =>
  rw[hh]at h;obtain⟨v,rfl,hv,hG⟩:=h;exact⟨v,rfl,hv,low _ hG⟩
theorem fr79(F:Nat->Value):frS 79 F=(F 0::F 1::F 2::F 3::F 4::F 5::F 6::F 7::F 8::F 9::F 10::F 11::F 12::F 13::F 14::F 15::F 16::F 17::F 18::F 19::F 20::F 21::F 22::F 23::F 24::F 25::F 26::F 27::F 28::F 29::F 30::F 31::F 32::F 33::F 34::F 35::F 36::F 37::F 38::F 39::F 40::F 41::F 42::F 43::F 44::F 45::F 46::F 47::F 48::F 49::F 50::F 51::F 52::F 53::F 54::F 55::F 56::F 57::F 58::F 59::F 60::F 61::F 62::F 63::F 64::F 65::F 66::F 67::F 68::F 69::F 70::F 71::F 72::F 73::F 74::F 75::F 76::F 77::F 78::[]).toArray:=rfl
noncomputable def B15 : Code:=Tryz.f15.body.getD .skip
theorem body15(ct:Code)(h:ct=tlS B15 4):Tryz.f15.body=some (joinS 4 B15 ct):=by subst h;kernel_rfl
theorem s15(F:Nat->Value)(ct:Code)(hct:ct=tlS B15 4)(R:Ending->World->Prop)(w:World)(v:Value)(fs sigs:List (List UInt8))(body:List UInt8)(recs:List Rec)(now:Int)(many:Bool)(hv:RdPV w v fs body recs now sigs)(hsn:sigs.length<=20000)
  (h11:F 11=v)(h13:F 13=.bool many)(hR:∀v' w',RdVs w' v' fs body recs now sigs->Below w.heap.size w w'->R (.returned (.tuple #[v',.bool true,.bool many])) w') :
  Code.wp Tryz.prog ct (bodyPost Tryz.prog Tryz.f15 R) ⟨frS 79 F,[]⟩ w:=by
 subst hct;conv=>arg 2;whnf
 rw[fr79,h11,h13];have HR:=zH hR;obtain⟨A,c,rfl,hc,hA⟩:=hv;have HA:=zH hA;clear hR hA;go_wp2;go_loopg [14,41] sigs.length (fun g v i w'=>∃k:Nat,∃xs:List VV,Hid (k+g=sigs.length)/\i=.int .i64 k/\Hid (OwnV w' w.heap.size v xs)/\Hid (VsAt w' v fs body recs now (sigs.take k) xs)/\Hid (Below w.heap.size w w'))
 case atStart=>exact⟨0,[],Nat.zero_add _,rfl,OwnV.nil _ _,VsAt.nil _ _,zB _ _⟩
 obtain⟨k,xs,hk,rfl,ho,hvs,hb⟩:=hrel;have hk':k<=sigs.length:=by have:=hk.out;omega
 by_cases hlt:k < sigs.length
 ·obtain⟨gm,rfl,hcell⟩:=HA.out (by omega)
  obtain⟨f,hf⟩:∃f:List UInt8,Hid (sigs[k]?=some f):=⟨sigs[k],zG hlt⟩;obtain⟨vp,e0,⟨d,i,A3,n3,c3,tn,xn,cd⟩,ks,tb,xb,err,hbl,hks,her,hvo⟩:=hcell k f hf.out;have ek:=(hb.out.cell (cell_lt e0)).trans e0;obtain⟨G,hgk⟩:∃G,Hid (k+1+G=sigs.length/\G < gk):=⟨gk - 1,by have:=hk.out;unfold Hid;omega⟩;have HER:=zH her;have HKS:=zH hks;have HVO:=zH hvo;have hbw:=hb.out.size;have hSS:Hid (∀W',Below w.heap.size w W'->W'.cell? ⟨vp,0,none⟩=some (.string d)/\W'.cell? ⟨vp,1,none⟩=some (.string i)/\W'.cell? ⟨vp,2,none⟩=some (.slice A3 n3 c3)/\W'.cell? ⟨vp,3,none⟩=some (.int .i64 tn)/\W'.cell? ⟨vp,4,none⟩=some (.bool tb)/\W'.cell? ⟨vp,5,none⟩=some (.int .i64 xn)/\W'.cell? ⟨vp,6,none⟩=some (.bool xb)/\W'.cell? ⟨vp,7,none⟩=some err):=fun W' hb=>by
   have h:=hbl.below hb hbl.lt;exact⟨h.cell 0,h.cell 1,h.cell 2,h.cell 3,h.cell 4,h.cell 5,h.cell 6,h.cell 7⟩
  have hxl:Hid ((xs.length+1)*80<=140737488355328):=by have:=hvs.out.1;rw[List.length_take]at this;unfold Hid;omega
  obtain⟨Av,cv,hvv,_⟩:=ho.out.slice;subst hvv;have herf:=her.form;clear hcell e0 hbl her hks hvo;rcases herf with rfl|⟨ty,ms,rfl⟩
  ·have hSS2:=hSS.out
   go_upto_region 9 with fail
   go_region_held3 (fun w'=>w'.cell? ⟨vp,0,none⟩=some (.string d)/\w'.cell? ⟨vp,1,none⟩=some (.string i)/\w'.cell? ⟨vp,2,none⟩=some (.slice A3 n3 c3)/\w'.cell? ⟨vp,3,none⟩=some (.int .i64 tn)/\w'.cell? ⟨vp,4,none⟩=some (.bool tb)/\w'.cell? ⟨vp,5,none⟩=some (.int .i64 xn)/\w'.cell? ⟨vp,6,none⟩=some (.bool xb)/\w'.cell? ⟨vp,7,none⟩=some .nilIface)
    (first|exact hSS2 _ (bthen hb.out (below_dr (zB _ _)))|exact hSS2 _ (bthen hb.out hB2)|exact hSS2 _ (bthen hb.out hB3)|exact hSS2 _ (bthen hb.out (below_al hB3 _))|exact hSS2 _ hB5)
    (first
     |(go_at_call_of 43 (Value.agg #[.int .i64 tn,.bool tb]);refine(c43 tn tb _).mono ?_;rintro e w2⟨rfl,hb2⟩;have hB2:Below wr.heap.size wr w2:=bthen (below_dr (zB _ _)) hb2)
     |(go_at_call_of 43 (Value.agg #[.int .i64 xn,.bool xb]);refine(c43 xn xb _).mono ?_;rintro e w3⟨rfl,hb3⟩;have hB3:Below wr.heap.size wr w3:=bthen hB2 hb3)
     |(go_at_call 44;refine(c44 _ cd _ HER.out).mono ?_;rintro e wx⟨rfl,rfl⟩)
     |(refine step_appV (s:=.tmp 45) (x:=.tmp 74) (base:=w.heap.size) (y:=⟨d,i,A3,n3,c3,tn,xn,cd⟩) (by rfl) (by rfl) (by rfl) (ho.out.below (below_al hB3 _)) (by rfl) (fun j u hu=>by rw[add_lit',Nat.zero_add];exact(cells_row w3 _ 47 j).trans (by simpa [vcells,VV.hk]using hu)) hxl.out (zT hbw (below_al hB3 _).size) ?_
       intro v5 w5 ho5 hb5 hg5 hl5;have hB5:Below w.heap.size w w5:=hb5 _ (bthen hb.out (below_al hB3 _));have hv5:=((hvs.out.below (below_al hB3 _)).add HVO.out (KsAt.old HKS.out (bthen hb.out (below_al hB3 _)) (fun g hg=>((World.ownsRow.lt ho.out g hg).1)))).grown hg5 hl5))
   go_wp2;go_roundg G
   case measure=>exact hgk.out.2
   case rel=>exact⟨k+1,_,hgk.out.1,by go_num,ho5,by rw[List.take_add_one,hf.out];exact hv5,hB5⟩
  have hSS2:=hSS.out;go_upto_region 9 with fail
  go_region_held3 (fun w'=>w'.cell? ⟨vp,0,none⟩=some (.string d)/\w'.cell? ⟨vp,1,none⟩=some (.string i)/\w'.cell? ⟨vp,2,none⟩=some (.slice A3 n3 c3)/\w'.cell? ⟨vp,3,none⟩=some (.int .i64 tn)/\w'.cell? ⟨vp,4,none⟩=some (.bool tb)/\w'.cell? ⟨vp,5,none⟩=some (.int .i64 xn)/\w'.cell? ⟨vp,6,none⟩=some (.bool xb)/\w'.cell? ⟨vp,7,none⟩=some (.iface ty (.string ms)))
   (first|exact hSS2 _ (bthen hb.out (below_dr (zB _ _)))|exact hSS2 _ (bthen hb.out hB2)|exact hSS2 _ (bthen hb.out hB3)|exact hSS2 _ (bthen hb.out (below_al hB3 _))|exact hSS2 _ hB5)
   (first
    |(go_at_call_of 43 (Value.agg #[.int .i64 tn,.bool tb]);refine(c43 tn tb _).mono ?_;rintro e w2⟨rfl,hb2⟩;have hB2:Below wr.heap.size wr w2:=bthen (below_dr (zB _ _)) hb2)
    |(go_at_call_of 43 (Value.agg #[.int .i64 xn,.bool xb]);refine(c43 xn xb _).mono ?_;rintro e w3⟨rfl,hb3⟩;have hB3:Below wr.heap.size wr w3:=bthen hB2 hb3)
    |(go_at_call 44;refine(c44 _ cd _ HER.out).mono ?_;rintro e wx⟨rfl,rfl⟩)
    |(refine step_appV (s:=.tmp 45) (x:=.tmp 74) (base:=w.heap.size) (y:=⟨d,i,A3,n3,c3,tn,xn,cd⟩) (by rfl) (by rfl) (by rfl) (ho.out.below (below_al hB3 _)) (by rfl) (fun j u hu=>by rw[add_lit',Nat.zero_add];exact(cells_row w3 _ 47 j).trans (by simpa [vcells,VV.hk]using hu)) hxl.out (zT hbw (below_al hB3 _).size) ?_
      intro v5 w5 ho5 hb5 hg5 hl5;have hB5:Below w.heap.size w w5:=hb5 _ (bthen hb.out (below_al hB3 _));have hv5:=((hvs.out.below (below_al hB3 _)).add HVO.out (KsAt.old HKS.out (bthen hb.out (below_al hB3 _)) (fun g hg=>((World.ownsRow.lt ho.out g hg).1)))).grown hg5 hl5))
  go_wp2;go_roundg G
  case measure=>exact hgk.out.2
  case rel=>exact⟨k+1,_,hgk.out.1,by go_num,ho5,by rw[List.take_add_one,hf.out];exact hv5,hB5⟩
 obtain rfl:k=sigs.length:=by omega
 rw[List.take_length]at hvs;obtain⟨Av,cv,hvv,_⟩:=ho.out.slice;subst hvv;go_wp2
 go_ret3
 exact HR.out _ _ (hvs.out.rd ho.out) hb.out
theorem c15(l:List UInt8)(rv:Value)(recs:List Rec)(most now:Int)(w:World)(pE pF pS pR pT:Addr)(txS txR:ByteArray)(hE:EN w pE pF pS pR pT txS txR)(hl:l.length<=10000)(hp:plainL l)(hr:RdR w rv recs)(hrk:recsOk recs/\∀r∈recs,allLe 100000000 r.tx)(hm:0<=most) :
  Calls Tryz.prog 15 #[.string (B l),rv,.int .i64 most,.int .i64 now] w fun e w'=>DvPost w w' e l recs most now:=by
 obtain⟨P,hP⟩:∃P,Hid (headOf l=P):=⟨_,rfl⟩;have HE:=zH hE;have HP:=zH hp;have HRK:=zH hrk;have HRR:=zH hr;obtain⟨Ar,cr,rfl,_⟩:=hr;clear hE hp hrk;obtain⟨wa,hwa⟩:∃wa,Hid (w.alloc (.cells #[.slice Ar recs.length cr] 22)=wa):=⟨_,rfl⟩;obtain⟨pa,hpa⟩:∃pa,Hid (w.heap.size=pa):=⟨_,rfl⟩;obtain⟨ct,hct⟩:∃ct,Hid (ct=tlS B15 4):=⟨_,rfl⟩;unfold DvPost;rw[hP.out];refine calls_of_wp Tryz.func15 (body15 ct hct.out) ?_;simp only[Tryz.ntmps15,List.size_toArray,List.length_cons,List.length_nil,Nat.reduceAdd,Nat.reduceSub,Array.replicate_succ,Array.replicate_zero,List.push_toArray,List.append_toArray,List.nil_append,List.cons_append];conv=>arg 2;arg 2;whnf
 simp only[joinS];cases P with
 |none =>
  go_wp2_with (first
   |(go_at_call 38;rw[hwa.out,hpa.out];refine(c38 (B l) _).mono ?_;rintro e w1⟨rfl,hw1⟩;have HW1:=zH hw1;clear hw1)
   |(go_at_call 39;refine(c39 now _).mono ?_;rintro e w2⟨rfl,hb2⟩)
   |(go_at_call 37;rw[<-hpa.out];refine(dv37 l _ recs most now w wa w1 w2 pE pF pS pR pT txS txR HE.out hl HP.out HRR.out HRK.out hm hwa.out HW1.out hb2).mono ?_;rintro e w3 hmid;unfold MidPost at hmid;rw[hP.out]at hmid;obtain⟨g,m,rfl,hne,hbg,hbw⟩:=hmid;have hEn:=HE.out.below hbw;have kT:=hEn.many;obtain⟨_,_,hT⟩:=hEn.rT;have hneq:=eqDiff _ pT hne w3 hbg hT;have HBW:=zH hbw;clear hbw hEn hT))
  go_ret3
  exact⟨rfl,HBW.out⟩
 |some p =>
  obtain⟨fs,body⟩:=p;obtain⟨hf1,_,_,_⟩:=headOf_facts hP.out;have hsn:(firstOf most (sigsOf fs)).length<=20000:=by
   have h1:(sigsOf fs).length<=fs.length:=List.length_filter_le _ _;have h2:(firstOf most (sigsOf fs)).length<=(sigsOf fs).length:=by
    unfold firstOf;split
    ·rw[List.length_take];omega
    exact zR _
   simp only at hf1;omega
  clear hf1;obtain⟨mb,hmb⟩:∃mb,Hid (manyOf most (sigsOf fs)=mb):=⟨_,rfl⟩;cases mb with
  |true =>
   go_wp2_with (first
    |(go_at_call 38;rw[hwa.out,hpa.out];refine(c38 (B l) _).mono ?_;rintro e w1⟨rfl,hw1⟩;have HW1:=zH hw1;clear hw1)
    |(go_at_call 39;refine(c39 now _).mono ?_;rintro e w2⟨rfl,hb2⟩)
    |(go_at_call 37;rw[<-hpa.out];refine(dv37 l _ recs most now w wa w1 w2 pE pF pS pR pT txS txR HE.out hl HP.out HRR.out HRK.out hm hwa.out HW1.out hb2).mono ?_;rintro e w3 hmid;unfold MidPost at hmid;rw[hP.out]at hmid;obtain⟨v,rfl,hv,hbw⟩:=hmid;rw[hmb.out,if_pos rfl];have kT:=(HE.out.below hbw).many;have heq:=eqSame pT w3;have HV:=zH hv;have HBW:=zH hbw;have hv':=hv;obtain⟨Av,cv,rfl,_⟩:=hv';clear hbw hv))
   refine useF 79 _ (by kernel_rfl) ?_;exact s15 _ ct hct.out _ w3 _ fs (firstOf most (sigsOf fs)) body recs now true HV.out hsn rfl rfl (fun v' w' h1 h2=>⟨v',by show _=Ending.returned (.tuple #[_,_,.bool (manyOf most (sigsOf fs))]);rw[hmb.out],h1,bthen HBW.out h2⟩)
  |false =>
   go_wp2_with (first
    |(go_at_call 38;rw[hwa.out,hpa.out];refine(c38 (B l) _).mono ?_;rintro e w1⟨rfl,hw1⟩;have HW1:=zH hw1;clear hw1)
    |(go_at_call 39;refine(c39 now _).mono ?_;rintro e w2⟨rfl,hb2⟩)
    |(go_at_call 37;rw[<-hpa.out];refine(dv37 l _ recs most now w wa w1 w2 pE pF pS pR pT txS txR HE.out hl HP.out HRR.out HRK.out hm hwa.out HW1.out hb2).mono ?_;rintro e w3 hmid;unfold MidPost at hmid;rw[hP.out]at hmid;obtain⟨v,rfl,hv,hbw⟩:=hmid;rw[hmb.out,if_neg (by decide)];have kT:=(HE.out.below hbw).many;have heq:=eqNE pT w3;have HV:=zH hv;have HBW:=zH hbw;have hv':=hv;obtain⟨Av,cv,rfl,_⟩:=hv';clear hbw hv))
   refine useF 79 _ (by kernel_rfl) ?_;exact s15 _ ct hct.out _ w3 _ fs (firstOf most (sigsOf fs)) body recs now false HV.out hsn rfl rfl (fun v' w' h1 h2=>⟨v',by show _=Ending.returned (.tuple #[_,_,.bool (manyOf most (sigsOf fs))]);rw[hmb.out],h1,bthen HBW.out h2⟩)
end Go.Proofs.YtnkihlpmmfeioaaGreatDoor
