/- Part of the proof that laws.FnDVerifies answers true: A61,K6,A62 -/
import Derived.Test.YtnkihlpmmfeioaaGreatDoorZ20
set_option linter.unusedVariables false
set_option linter.unusedSimpArgs false
set_option maxRecDepth 1000000
set_option maxHeartbeats 16000000
namespace Go.Proofs.YtnkihlpmmfeioaaGreatDoor
open Go.RowKit
noncomputable def loop291(k:Nat):Code:=(((Tryz.f291.body.map loopsOf).getD [])[k]?).getD .skip
theorem take_two(b:List UInt8)(k:Nat)(x y:UInt8)(h1:b[k]?=some x)(h2:b[k+1]?=some y):(b.take (k+2)).reverse=y::x::(b.take k).reverse:=by
 obtain⟨k1,e1⟩:=List.getElem?_eq_some_iff.1 h1;obtain⟨k2,e2⟩:=List.getElem?_eq_some_iff.1 h2;rw[show k+2=k+1+1 from rfl,List.take_succ_eq_append_getElem k2,List.take_succ_eq_append_getElem k1,e1,e2];simp
theorem drop_small(l:List UInt8)(h:l.length < 2):dropCRLF l=l:=by
 match l,h with
 |[],_=>rfl
 |[x],_=>rfl
theorem l291(f0 f2 f3 f4 f5 f6 f8 f9 f10 f11 f12 f13 f14 f15 f16 f17 f18 f19 f20 f21 f22 f23 f24 f25 f26 f27 f28 f29 f30 f31 f32 f33 f34 f35 f36 f37 f38 f39 f40 f41 f42 f43 f44 f45 f46 f47 f48 f49 f50 f51 f52 f53 f54 f55 f56 f57 f58 f59 f60 f61 f62 f63 f64 f65 f66 f67 f68 f69 f70 f71 f72 f73 f74 f75 f76 f77 f78 f79 f80:Value)(Q:Exit->Act->World->Prop)(c291:Code)(hc:c291=loop291 0)(A3:Option Addr)(n c3 e0:Nat)(b D:List UInt8)(w:World)
  (hn:b.length=n)(hb:0 < n->∃g3 o3,A3=some ⟨g3,o3,none⟩/\∀(i:Nat) (x:UInt8),b[i]?=some x->w.cell? ⟨g3,o3+i,none⟩=some (byteV x))(hn2:n<=10000000000)(he0:e0<=n)(hD:Hid (dropCRLF (b.take e0).reverse=D))
  (hexit:∀(e:Nat) (u8 u9 u38 u39 u40 u41 u42 u43 u44 u45 u46 u47 u48 u49 u50 u51 u52 u53 u54 u55 u56 u57:Value),e<=e0->(b.take e).reverse=D->Q (.exit 0) ⟨(f0::(.slice A3 n c3)::f2::f3::f4::f5::f6::(.int .i64 (e:Int))::u8::u9::f10::f11::f12::f13::f14::f15::f16::f17::f18::f19::f20::f21::f22::f23::f24::f25::f26::f27::f28::f29::f30::f31::f32::f33::f34::f35::f36::f37::u38::u39::u40::u41::u42::u43::u44::u45::u46::u47::u48::u49::u50::u51::u52::u53::u54::u55::u56::u57::f58::f59::f60::f61::f62::f63::f64::f65::f66::f67::f68::f69::f70::f71::f72::f73::f74::f75::f76::f77::f78::f79::f80::[]).toArray,[]⟩ w) :
  Code.wp Tryz.prog (Code.loop c291) Q ⟨(f0::(.slice A3 n c3)::f2::f3::f4::f5::f6::(.int .i64 (e0:Int))::f8::f9::f10::f11::f12::f13::f14::f15::f16::f17::f18::f19::f20::f21::f22::f23::f24::f25::f26::f27::f28::f29::f30::f31::f32::f33::f34::f35::f36::f37::f38::f39::f40::f41::f42::f43::f44::f45::f46::f47::f48::f49::f50::f51::f52::f53::f54::f55::f56::f57::f58::f59::f60::f61::f62::f63::f64::f65::f66::f67::f68::f69::f70::f71::f72::f73::f74::f75::f76::f77::f78::f79::f80::[]).toArray,[]⟩ w:=by
 subst hc;conv=>arg 2;arg 1;whnf
 have HEX:=zH hexit;have HB:=zH hb;clear hexit hb;go_loopg [7] e0 (fun g v w'=>∃e:Nat,g=e/\e<=e0/\v=.int .i64 (e:Int)/\Hid (dropCRLF (b.take e).reverse=D)/\w'=w)
 case atStart=>exact⟨e0,rfl,zR _,rfl,hD,rfl⟩
 obtain⟨e,rfl,hee,rfl,hde,rfl⟩:=hrel;clear hD;by_cases h2:2<=gk
 ·obtain⟨k,hk⟩:∃k,gk=k+2:=⟨gk - 2,by omega⟩
  obtain⟨k1,hk1⟩:∃k1,k1=k+1:=⟨k+1,rfl⟩;have hkn:k+1 < b.length:=by omega
  obtain⟨x,hx⟩:∃x,b[k]?=some x:=⟨_,zG (by omega)⟩;obtain⟨y,hy⟩:∃y,b[k1]?=some y:=⟨_,zG (by omega)⟩;obtain⟨g3,o3,rfl,HB2⟩:=HB.out (by omega);have e1:=HB2 k x hx;have e2:=HB2 k1 y hy;clear HB2;unfold byteV at e1 e2;have a1:IntKind.i64.wrap ((gk:Int) - 2)=(k:Int):=by rw[IntWalk.i64_in _ (by omega)];omega
  have a2:IntKind.i64.wrap ((gk:Int) - 1)=(k1:Int):=by rw[IntWalk.i64_in _ (by omega)];omega
  have b1:(k:Int) < (n:Int):=by omega
  have b2:(k1:Int) < (n:Int):=by omega
  have t0:(2:Int)<=(gk:Int):=by omega
  have HT:Hid ((b.take gk).reverse=y::x::(b.take k).reverse):=by unfold Hid;rw[hk];exact take_two b k x y hx (hk1 ▸ hy)
  have HK:=zH (And.intro hk (And.intro hk1 hkn));clear hk hk1 hkn hx hy h2;have t4:=t0;by_cases hx13:(x.toNat:Int)=13
  ·have t1:((x.toNat:Int) != 13)=false:=zQ hx13
   by_cases hy10:(y.toNat:Int)=10
   ·have t2:((y.toNat:Int) != 10)=false:=zQ hy10
    have HD2:Hid (dropCRLF (b.take k).reverse=D):=by
     have:=hde.out;rw[HT.out,dropCRLF,if_pos ⟨hy10,hx13⟩]at this;exact this
    clear hx13 hy10;go_wp2;go_roundg k
    case measure=>have:=HK.out.1;omega
    case rel=>exact⟨k,rfl,by have:=HK.out.1;omega,rfl,HD2,rfl⟩
   have t2:((y.toNat:Int) != 10)=true:=zN hy10;have HD2:Hid ((b.take gk).reverse=D):=by
    have:=hde.out;rw[HT.out,dropCRLF,if_neg (fun q=>hy10 q.1)]at this;unfold Hid;rw[HT.out];exact this
   clear hx13 hy10;go_wp2;refine HEX.out gk _ _ _ _ _ _ _ _ _ _ _ _ _ _ _ _ _ _ _ _ _ _ hee HD2.out
  have t1:((x.toNat:Int) != 13)=true:=zN hx13;have HD2:Hid ((b.take gk).reverse=D):=by
   have:=hde.out;rw[HT.out,dropCRLF,if_neg (fun q=>hx13 q.2)]at this;unfold Hid;rw[HT.out];exact this
  clear hx13;go_wp2;refine HEX.out gk _ _ _ _ _ _ _ _ _ _ _ _ _ _ _ _ _ _ _ _ _ _ hee HD2.out
 have t0:¬(2:Int)<=(gk:Int):=by omega
 have HD2:Hid ((b.take gk).reverse=D):=by
  have:=hde.out;rw[drop_small _ (by rw[List.length_reverse,List.length_take];omega)]at this;exact this
 clear h2;go_wp2;refine HEX.out gk _ _ _ _ _ _ _ _ _ _ _ _ _ _ _ _ _ _ _ _ _ _ hee HD2.out
section
variable {P:Program}{ops:Array Oper}{md:Region.Mode}{C:World->Prop}
def chainC(md:Region.Mode)(ops:Array Oper)(n:Nat):Bool :=
 (List.range ops.size).all fun t=>decide (t<=n) || (List.range t).any fun j=>decide (n<=j) && Region.waitsFor md ops t j
theorem tail_waitsC{n:Nat}{listed:Array Bool}(hs:Region.sinkB md ops n=true)(hc:chainC md ops n=true)(hn:n < ops.size)(inv:HeadInv md ops n listed) :
  ∀(d i:Nat),n - i=d->i < n->listed.getD i true=false->∀t,n<=t->t ∉ Region.ready md ops listed:=by
 intro d;induction d using Nat.strongRecOn with
 |_ d ih =>
  intro i hd hi hun t ht hr;obtain⟨_,ot,hot,hall⟩:=mem_ready.1 hr;have htlt:t < ops.size:=(Array.getElem?_eq_some_iff.1 hot).1;by_cases htn:t=n
  ·subst htn
   have h1:=List.all_eq_true.1 hs i (List.mem_range.2 hi);obtain⟨j,hj,hj2⟩:=List.any_eq_true.1 h1;simp only[Bool.and_eq_true,decide_eq_true_eq]at hj2;obtain⟨oj,hoj,e,he,hb,hon⟩:=Region.waitsFor_spec hj2.2;have hjle:j<=t:=by have:=List.mem_range.1 hj;omega
   by_cases hjt:j=t
   ·subst hjt
    have:oj=ot:=Option.some.inj (hoj.symm.trans hot);subst this;have h2:=hall e he hb;rw[hon,getD_both hun]at h2;cases h2
   cases hl:listed.getD j false with
   |true =>
    have h2:=inv.closed j oj hoj hl e he hb;rw[hon,getD_both hun]at h2;cases h2
   |false =>
    have hjs:j < listed.size:=by rw[inv.size];omega
    exact ih (t - j) (by omega) j rfl (by omega) (getD_in hjs hl) t (zR _) hr
  have h1:=List.all_eq_true.1 hc t (List.mem_range.2 htlt);simp only[Bool.or_eq_true,decide_eq_true_eq]at h1;rcases h1 with h1|h1
  ·omega
  obtain⟨j,hj,hj2⟩:=List.any_eq_true.1 h1;simp only[Bool.and_eq_true,decide_eq_true_eq]at hj2;have hjt:=List.mem_range.1 hj;obtain⟨o',ho',e,he,hb,hon⟩:=Region.waitsFor_spec hj2.2;have:o'=ot:=Option.some.inj (ho'.symm.trans hot);subst this;have h2:=hall e he hb;rw[hon,getD_both (inv.tail j hj2.1 (by omega))]at h2;cases h2
theorem HeadQ.firstC{n i:Nat}{oi:Oper}{v:Value}{L:Array Bool->Act->Prop}(hi:ops[i]?=some oi)(hsel:∀(j:Nat) (o:Oper) cs b,ops[j]?=some o->o.op≠.select cs b)
  (hs:Region.sinkB md ops n=true)(hc:chainC md ops n=true)(hn:n < ops.size)(hin:i < n)(hL:∀done a,L done a->∀j∈Region.ready md ops done,n<=j) :
  ∀(f:Nat) (done:Array Bool) (a:Act),HeadInv md ops n done ->
   (∀j oj,ops[j]?=some oj->j≠i->done.getD j true=false->(∀e∈oj.after,Region.binds md e=true->e.on≠i)->oi.apart ops oj=true) ->
   i∈Region.ready md ops done->YieldsIn P ops C oi v a->HeadQ P md ops C n L f (done.setIfInBounds i true) (a.put oi.dst v)->HeadQ P md ops C n L (f+1) done a:=by
 intro f;induction f with
 |zero =>
  intro done a inv _ hr hy H;have hun:=(mem_ready.1 hr).1;refine⟨fun h=>(by rw[h]at hr;cases hr),fun j hj=>?_⟩;have hjn:j < n:=(Nat.lt_or_ge j n).elim id fun h=>absurd hj (tail_waitsC hs hc hn inv _ i rfl hin hun j h)
  refine⟨hjn,?_⟩;by_cases hji:j=i
  ·subst hji;exact hy.qOp hi H
  exact absurd (hL _ _ H j (ready_mono hj hji)) (by omega)
 |succ f ih =>
  intro done a inv hfree hr hy H;have hun:=(mem_ready.1 hr).1;refine⟨fun h=>(by rw[h]at hr;cases hr),fun j hj=>?_⟩;have hjn:j < n:=(Nat.lt_or_ge j n).elim id fun h=>absurd hj (tail_waitsC hs hc hn inv _ i rfl hin hun j h)
  refine⟨hjn,?_⟩;by_cases hji:j=i
  ·subst hji;exact hy.qOp hi H
  obtain⟨hjun,oj,hoj,hall⟩:=mem_ready.1 hj;have hnot:∀e∈oj.after,Region.binds md e=true->e.on≠i:=fun e he hb heq=>by
   have q:=hall e he hb;rw[heq,getD_both hun]at q;cases q
  refine qOp_mono (fun a' h3=>?_) (qOp_put hoj (hfree j oj hoj hji hjun hnot) (fun cs b=>hsel i oi cs b hi) (fun cs b=>hsel j oj cs b hoj) hy (H.2 j (ready_mono hj hji)).2);refine ih (done.setIfInBounds j true) a' (inv.set hj hjn) (fun k ok hk hki hku hno=>hfree k ok hk hki ?_ hno) (ready_mono hr (Ne.symm hji)) h3.1 ?_
  ·by_cases hjk:j=k
   ·subst hjk;exact hjun
   rw[getD_set_ne true hjk]at hku;exact hku
  rw[Array.setIfInBounds_comm _ _ hji];exact h3.2
def lexHeadC(md:Region.Mode)(ops:Array Oper)(chk:Array Bool->Bool):Nat->Nat->Array Bool->Bool
 |0,_,listed=>chk listed
 |f+1,k,listed=>(Region.ready md ops listed).contains k && Region.free md ops listed k && lexHeadC md ops chk f (k+1) (listed.setIfInBounds k true)
theorem HeadQ.lexC{n:Nat}{Lq:Act->Prop}(chk:Array Bool->Bool)(hchk:∀done,chk done=true->∀j∈Region.ready md ops done,n<=j)(hsel:Region.noSelect ops=true)(hs:Region.sinkB md ops n=true)(hc:chainC md ops n=true)(hn:n < ops.size) :
  ∀(l:List Oper) (k:Nat) (done:Array Bool) (a:Act),(∀j,j < l.length->l[j]?=ops[k+j]?)->k+l.length=n->HeadInv md ops n done ->
  lexHeadC md ops chk l.length k done=true->wpQuiet P ops C Lq l a->HeadQ P md ops C n (fun done' a'=>(chk done'=true/\HeadInv md ops n done')/\Lq a') l.length done a
 |[],k,done,a,_,hk,inv,hB,h=>⟨⟨by simpa [lexHeadC]using hB,inv⟩,h⟩
 |o::l,k,done,a,hl,hk,inv,hB,h=>by
  have h0:ops[k]?=some o:=by simpa using(hl 0 (by simp)).symm
  simp only[List.length_cons,lexHeadC,Bool.and_eq_true]at hB hk;have hr:k∈Region.ready md ops done:=by simpa using hB.1.1
  have hq:qOp P ops C k (wpQuiet P ops C Lq l) a:=by unfold qOp;simp only[h0];exact h
  obtain⟨v,hy,hK⟩:=yieldsIn_of_qOp h0 hq;refine HeadQ.firstC h0 (Region.noSelect_spec hsel) hs hc hn (by omega) (fun done' a' hL=>hchk done' hL.1.1) l.length done a inv (Region.free_spec h0 hB.1.2) hr hy ?_;exact HeadQ.lexC chk hchk hsel hs hc hn l (k+1) _ _ (fun j hj=>by have q:=hl (j+1) (by simp;omega);simpa [Nat.add_assoc,Nat.add_comm 1 j]using q) (by omega) (inv.set hr (by omega)) hB.2 hK
def callQ(Q:Exit->Act->World->Prop)(S:Act->World->Prop):Exit->Act->World->Prop
 |.normal,a,w=>S a w
 |e,a,w=>Q e a w
theorem callQ_normal{Q:Exit->Act->World->Prop}{S:Act->World->Prop}{a:Act}{w:World}(h:S a w):callQ Q S .normal a w:=h
theorem upon_callQ{o:Oper}{a:Act}{next:Act->World->Prop}{Q:Exit->Act->World->Prop}{S:Act->World->Prop}{r:Result Next}(h:o.upon P a next (callQ Q S) r):o.upon P a next Q r:=by
 have key:∀(f:FuncId) (args:Array Value) (w1:World),o.upon P a next (callQ Q S) (.ok (.enter f args) w1)->o.upon P a next Q (.ok (.enter f args) w1):=fun f args w1 h=>by
  rw[Oper.upon_enter]at h ⊢;refine Calls.mono h fun e w2 he=>?_
  cases e with
  |returned v=>exact he
  |panicked c=>exact he
  |outgrown=>obtain⟨a2,w3,h2⟩:=he;exact⟨a2,w3,h2⟩
 cases r with
 |ok n w1=>cases n <;> first|exact key _ _ _ h|exact h
 |halt x w1=>cases x <;> exact h
theorem wp_callQ{o:Oper}{a:Act}{w:World}{next:Act->World->Prop}{Q:Exit->Act->World->Prop}{S:Act->World->Prop}(h:o.wp P a w next (callQ Q S)):o.wp P a w next Q:=upon_callQ h
def callB(md:Region.Mode)(ops:Array Oper)(n m:Nat):Bool :=
 Region.noSelect ops && decide (n < m) && decide (m < ops.size) && Region.sinkB md ops n && chainC md ops n && Region.sinkB md ops m && Region.chainB md ops m &&
  lexHeadC md ops (fun done=>decide (Region.ready md ops done=[n]) && Region.lexHead md ops (ops.size - m) (m - n - 1) (n+1) (done.setIfInBounds n true)) n 0 (Array.replicate ops.size false)
theorem wp_quiet_callC{id:Nat}{Q:Exit->Act->World->Prop}{a:Act}{w:World}{l:List Oper}(n m:Nat)(hm:P.follows .mixedOrders=true)(hB:callB .any l.toArray n m=true){o:Oper}(ho:l[n]?=some o)(hC:C { w with drawn:=w.drawn+1 })
  (h:wpQuiet P l.toArray C (fun a'=>∀w',C w' ->
   wpList P l.toArray (callQ Q (fun a1 w1=>wpQuiet P l.toArray (fun w2=>∃k,w2=w1.drewN k) (fun a2=>∀w2,(∃k,w2=w1.drewN k)->wpList P l.toArray Q (l.drop m) a2 w2) ((l.drop (n+1)).take (m - n - 1)) a1)) [o] a' w') (l.take n) a) :
  (Code.region id l.toArray true).wp P Q a w:=by
 simp only[callB,Bool.and_eq_true,decide_eq_true_eq]at hB;obtain⟨⟨⟨⟨⟨⟨⟨hsel,hnm⟩,hms⟩,hs⟩,hc⟩,hs2⟩,hc2⟩,hlex⟩:=hB;have hm':m < l.length:=by simpa using hms
 have htl:(l.take n).length=n:=by simp;omega
 have inv:HeadInv .any l.toArray n (Array.replicate l.toArray.size false) :=
  ⟨by simp,fun j oj _ q=>(by rw[getD_replicate_false]at q;cases q),fun t _ ht=>getD_in (by simpa using ht) (getD_replicate_false _ _)⟩
 have H:=HeadQ.lexC (P:=P) (C:=C) (md:=.any) (n:=n)
  (fun done=>decide (Region.ready .any l.toArray done=[n]) && Region.lexHead .any l.toArray (l.toArray.size - m) (m - n - 1) (n+1) (done.setIfInBounds n true))
  (fun done hd j hj=>by simp only[Bool.and_eq_true,decide_eq_true_eq]at hd;rw[hd.1]at hj;simp at hj;omega) hsel hs hc (by omega) (l.take n) 0 _ a (fun j hj=>by rw[htl]at hj;simp[hj]) (by simpa using htl) inv (by rw[htl];exact hlex) h
 refine wp_region_any hm ?_;have K:=HeadQ.any (Q':=Q) (g:=(m - n - 1+(l.toArray.size - m))+1) (fun done a' w' hw' hL=>by
  obtain⟨⟨hd,inv'⟩,hL⟩:=hL;simp only[Bool.and_eq_true,decide_eq_true_eq]at hd;have hq:=hL w' hw';refine⟨fun h0=>(by rw[hd.1]at h0;cases h0),fun i hi=>?_⟩;have hin:i=n:=by rw[hd.1]at hi;simpa using hi
  subst hin;have inv2:HeadInv .any l.toArray m (done.setIfInBounds i true):=HeadInv.set ⟨inv'.size,inv'.closed,fun t ht ht'=>inv'.tail t (by omega) ht'⟩ hi hnm;have h0:l.toArray[i]?=some o:=by simpa using ho
  have hst:∀a1 w1,wpQuiet P l.toArray (fun w2=>∃k,w2=w1.drewN k) (fun a2=>∀w2,(∃k,w2=w1.drewN k)->wpList P l.toArray Q (l.drop m) a2 w2) ((l.drop (i+1)).take (m - i - 1)) a1 ->
    wpAny P .any l.toArray Q (m - i - 1+(l.toArray.size - m)) (done.setIfInBounds i true) a1 w1:=by
   intro a1 w1 h1;have htl2:((l.drop (i+1)).take (m - i - 1)).length=m - i - 1:=by simp;omega
   have hdl:(l.drop m).length=l.toArray.size - m:=by simp
   have H2:=HeadQ.lex (P:=P) (C:=fun w2=>∃k,w2=w1.drewN k) (md:=.any) (g:=l.toArray.size - m) hsel hs2 hc2 hms ((l.drop (i+1)).take (m - i - 1)) (i+1) (done.setIfInBounds i true) a1
    (fun j hj=>by rw[htl2]at hj;simp[hj]) (by rw[htl2];omega) inv2 (by rw[htl2];exact hd.2) h1
   have K2:=HeadQ.any (Q':=Q) (g:=l.toArray.size - m) (fun done a' w' hw' hL=>by
    have q:=wpAny_of_seq (md:=.any) (Q':=Q) (l.drop m) m done a' w' (fun j=>by simp[List.getElem?_drop]) (by rw[hdl];exact hL.1) (hL.2 w' hw')
    rwa [hdl]at q) _ _ _ w1 ⟨0,rfl⟩ H2
   rwa [htl2]at K2
  unfold wpOp;simp only[h0];unfold wpList at hq;split at hq
  ·rename_i hwd
   rw[if_pos hwd];rcases hq with hq|⟨h1,h2⟩
   ·exact .inl (Oper.wp_mono (fun a1 w1 h1=>hst a1 w1 h1) (wp_callQ hq))
   obtain⟨a2,w2,h2⟩:=h2;exact .inr ⟨h1,a2,w2,h2⟩
  rename_i hwd;rw[if_neg hwd];exact hst _ _ hq) _ _ _ _ hC H
 rwa [htl,show n+((m - n - 1+(l.toArray.size - m))+1)=l.toArray.size by simp;omega]at K
theorem wp_quiet_call{id:Nat}{Q:Exit->Act->World->Prop}{a:Act}{w:World}{l:List Oper}(n m:Nat)(hm:P.follows .mixedOrders=true)(hB:callB .any l.toArray n m=true){o:Oper}(ho:l[n]?=some o)
  (h:wpQuiet P l.toArray (fun w'=>∃k,w'=w.drewN k) (fun a'=>∀w',(∃k,w'=w.drewN k) ->
   wpList P l.toArray (callQ Q (fun a1 w1=>wpQuiet P l.toArray (fun w2=>∃k,w2=w1.drewN k) (fun a2=>∀w2,(∃k,w2=w1.drewN k)->wpList P l.toArray Q (l.drop m) a2 w2) ((l.drop (n+1)).take (m - n - 1)) a1)) [o] a' w') (l.take n) a) :
  (Code.region id l.toArray true).wp P Q a w:=wp_quiet_callC n m hm hB ho ⟨1,rfl⟩ h
theorem wp_below_call{id:Nat}{Q:Exit->Act->World->Prop}{a:Act}{w:World}{l:List Oper}(n m:Nat)(hm:P.follows .mixedOrders=true)(hB:callB .any l.toArray n m=true){o:Oper}(ho:l[n]?=some o)
  (h:wpQuiet P l.toArray (fun w'=>∃p:Regrown,w'=Go.Sort.grow (redrawn w p.d) p.os) (fun a'=>∀w',(∃p:Regrown,w'=Go.Sort.grow (redrawn w p.d) p.os) ->
   wpList P l.toArray (callQ Q (fun a1 w1=>wpQuiet P l.toArray (fun w2=>∃k,w2=w1.drewN k) (fun a2=>∀w2,(∃k,w2=w1.drewN k)->wpList P l.toArray Q (l.drop m) a2 w2) ((l.drop (n+1)).take (m - n - 1)) a1)) [o] a' w') (l.take n) a) :
  (Code.region id l.toArray true).wp P Q a w:=wp_quiet_callC n m hm hB ho ⟨⟨w.drawn+1,#[]⟩,by rw[Go.Sort.grow_empty];rfl⟩ h
end
structure SimpAt(w:World)(gc g:Nat)(cb bv:Value)(cr:Bool)(buf lh:List UInt8):Prop where
 blk:Blk w gc #[.iface 176 (.pointer (some ⟨g,0,none⟩)),cb,.bool cr] 364
 own:OwnB w (gc+1) cb buf
 dig:DigAt w g bv lh
 lt:g < gc
 ngc:bv.ownBlock≠some gc
 dis:∀k,cb.ownBlock=some k->bv.ownBlock≠some k
 inv:SimpI lh buf cr
theorem OwnB.low{w:World}{base:Nat}{A:Option Addr}{n c:Nat}{l:List UInt8}(h:OwnB w base (.slice A n c) l){k:Nat}(hk:k<=n):OwnB w base (.slice (if c=k then A else A.map (·.add (k*1))) (n - k) (c - k)) (l.drop k):=by
 rcases h with⟨he,hl⟩|⟨g,off,cap,he,h1,h2,h3,h4,h5,h6,h7⟩
 ·injection he with e1 e2 e3
  subst e1 e2 e3 hl;obtain rfl:k=0:=by omega
  exact .inl ⟨rfl,rfl⟩
 injection he with e1 e2 e3
 subst e1 e2 e3;by_cases hkc:c=k
 ·subst hkc
  refine .inr ⟨g,off,0,by rw[if_pos rfl,Nat.sub_self,List.length_drop,show l.length - c=0 by omega],h1,h2,by rw[List.length_drop];omega,by simp[maxLen],fun i x hx=>?_,fun i hi=>by omega,fun i hi=>by omega⟩;rw[List.getElem?_drop,List.getElem?_eq_none (by omega)]at hx;cases hx
 refine .inr ⟨g,off+k,c - k,by rw[if_neg hkc,List.length_drop,Nat.mul_one,Option.map_some,show(⟨g,off,none⟩:Addr).add k=⟨g,off+k,none⟩from by unfold Addr.add;split <;> simp_all],h1,h2,by rw[List.length_drop];omega,by omega,fun i x hx=>?_,fun i hi=>?_,fun i hi=>?_⟩
 ·rw[List.getElem?_drop]at hx
  rw[Nat.add_assoc];exact h5 _ x hx
 ·rw[Nat.add_assoc];exact h6 _ (by omega)
 rw[Nat.add_assoc];exact h7 _ (by omega)
theorem OwnB.lowRun{w:World}{base:Nat}{A:Option Addr}{n c:Nat}{l:List UInt8}(h:OwnB w base (.slice A n c) l){k:Nat}(hk:k<=n) :
  ∃A',OwnB w base (.slice A' (n - k) (c - k)) (l.drop k)/\(Value.slice A' (n - k) (c - k)).ownBlock=(Value.slice A n c).ownBlock/\∀W,(Instr.slice 33 (.slice A n c) (some (.int .i64 (k:Int))) none none).run Tryz.prog W=.ok (.slice A' (n - k) (c - k)) W:=by
 refine⟨_,h.low hk,?_,fun W=>?_⟩
 ·cases A with
  |none=>split <;> rfl
  |some a =>
   split
   ·rfl
   show some (a.add (k*1)).block=some a.block;unfold Addr.add;split <;> rfl
 rw[run_slice_l (P:=Tryz.prog) W 33 A n c Tryz.underlying33 .i64 (k:Int) (by omega) (by omega),show Tryz.prog.elem 33=5 from by kernel_rfl];obtain⟨i,hi,hz0,hz1,hz2⟩:=info_parts info5;simp[sizeOf,typeInfo,hi,hz1,Result.andThen,sliced]
theorem OwnB.highRun{w:World}{base:Nat}{A:Option Addr}{n c:Nat}{l:List UInt8}(h:OwnB w base (.slice A n c) l){k:Nat}(hk:k<=c) :
  ∀W,(Instr.slice 33 (.slice A n c) none (some (.int .i64 (k:Int))) none).run Tryz.prog W=.ok (.slice A k c) W:=by
 intro W;have hA:A=none\/∃g o,A=some ⟨g,o,none⟩:=by
  rcases h with⟨he,hl⟩|⟨g,off,cap,he,_⟩
  ·injection he with e1;exact .inl e1
  injection he with e1;exact .inr ⟨_,_,e1⟩
 rw[run_slice_h (P:=Tryz.prog) W 33 A n c Tryz.underlying33 .i64 (k:Int) (by omega) (by omega),show Tryz.prog.elem 33=5 from by kernel_rfl];obtain⟨i,hi,hz0,hz1,hz2⟩:=info_parts info5;have:∀g o,(⟨g,o,none⟩:Addr).add 0=⟨g,o,none⟩:=fun g o=>by unfold Addr.add;split <;> simp_all
 rcases hA with rfl|⟨g,o,rfl⟩
 ·simp[sizeOf,typeInfo,hi,hz1,Result.andThen,sliced]
 simp[sizeOf,typeInfo,hi,hz1,Result.andThen,sliced,this]
theorem RdB.high{w:World}{A:Option Addr}{n c:Nat}{l:List UInt8}(h:RdB w (.slice A n c) l){k:Nat}(hk:k<=n):RdB w (.slice A k c) (l.take k):=by
 obtain⟨A0,c0,he,hc,hA⟩:=h;injection he with h1 h2 h3
 subst h1 h2 h3;refine⟨A,c,by rw[List.length_take,Nat.min_eq_left hk],by rw[List.length_take];omega,fun hp=>?_⟩;rw[List.length_take]at hp;obtain⟨g,off,rfl,hcl⟩:=hA (by omega);exact⟨g,off,rfl,fun i x hx=>hcl i x (by rw[List.getElem?_take]at hx;split at hx;exact hx;cases hx)⟩
theorem RdB.drewN{w:World}{v:Value}{l:List UInt8}(h:RdB w v l)(n:Nat):RdB (w.drewN n) v l:=h
theorem DigAt.drewN{w:World}{g:Nat}{bv:Value}{l:List UInt8}(h:DigAt w g bv l)(n:Nat):DigAt (w.drewN n) g bv l:=h.gr (S:=fun _=>False) (Gr.of_below (below_drewN (zB _ _) n)) (fun h=>h) (fun _ _ h=>h)
structure SimpMid(w W:World)(gc g:Nat)(cb1 bv:Value)(cr:Bool)(buf t lh:List UInt8):Prop where
 blk:Blk W gc #[.iface 176 (.pointer (some ⟨g,0,none⟩)),cb1,.bool cr] 364
 own:OwnB W (gc+1) cb1 buf
 dig:DigAt W g bv lh
 lt:g < gc
 ngc:bv.ownBlock≠some gc
 dis:∀k,cb1.ownBlock=some k->bv.ownBlock≠some k
 gr:Gr (fun k=>g<=k) w W
 inv:SimpI (lh++t) buf cr
theorem simp_mid{w w2 w3:World}{gc g:Nat}{cb cb1 bv:Value}{cr cr1:Bool}{buf buf1 t lh:List UInt8}(HH:SimpAt w gc g cb bv cr buf lh)(hg2:w.grownBy w2 cb.ownBlock)(hG3:w2.grownBy w3 (some gc))
  (hD3:Blk w3 gc #[.iface 176 (.pointer (some ⟨g,0,none⟩)),cb,.bool cr1] 364)(hC1:OwnB w3 w2.heap.size cb1 buf1)(hI:SimpI (lh++t) buf1 cr1):SimpMid w (w3.setCell ⟨gc,1,none⟩ cb1) gc g cb1 bv cr1 buf1 t lh:=by
 have hgc:=HH.blk.lt;have hs2:=hg2.size;have hG:Gr (fun k=>cb.ownBlock=some k\/k=gc) w (w3.setCell ⟨gc,1,none⟩ cb1) :=
  gr_set (((Gr.of_grown hg2).mono (fun k _ q=>.inl q)).trans ((Gr.of_grown hG3).mono (fun k _ q=>by injection q with q;exact .inr q.symm))) gc 1 cb1 (.inr rfl)
 refine⟨(hD3.set_ 1 cb1).to (by simp),(hC1.mono (by omega)).setAt,HH.dig.gr hG (fun q=>?_) (fun k hk q=>?_),HH.lt,HH.ngc,fun k hk q=>?_,hG.mono (fun k _ q=>?_),hI⟩
 ·have:=HH.lt
  rcases q with q|q
  ·have:=(HH.own.lt g q).1;omega
  omega
 ·rcases q with q|q
  ·exact HH.dis k q hk
  exact HH.ngc (q ▸ hk)
 ·have h1:=(hC1.lt k hk).1
  have h2:=(HH.dig.row q).2;omega
 have:=HH.lt;rcases q with q|q
 ·have:=(HH.own.lt k q).1;omega
 omega
theorem simp_fin{w W w4:World}{gc g:Nat}{cb1 bv bv2:Value}{cr:Bool}{buf t lh:List UInt8}(h:SimpMid w W gc g cb1 bv cr buf t lh)(hdg:DigAt w4 g bv2 (lh++t))(hG4:Gr (fun k=>k=g\/bv.ownBlock=some k) W w4)
  (hl4:bv2.ownBlock=bv.ownBlock\/bv2.ownBlock=some W.heap.size):SimpAt w4 gc g cb1 bv2 cr buf (lh++t)/\Gr (fun k=>g<=k) w w4:=by
 have hlt:=h.lt;refine⟨⟨(hG4.block gc h.blk.lt (fun q=>q.elim (fun h=>by omega) h.ngc)).trans h.blk,h.own.gr hG4 (fun k hk q=>q.elim (fun e=>by have:=(h.own.lt k hk).1;omega) (h.dis k hk)),hdg,h.lt,fun q=>?_,fun k hk q=>?_,h.inv⟩,
  h.gr.trans (hG4.mono fun k _ q=>?_)⟩
 ·rcases hl4 with e|e
  ·exact h.ngc (e ▸ q)
  rw[e]at q;injection q with q;have:=h.blk.lt;omega
 ·rcases hl4 with e|e
  ·exact h.dis k hk (e ▸ q)
  rw[e]at q;injection q with q;have:=(h.own.lt k hk).2;omega
 rcases q with q|q
 ·omega
 have:=(h.dig.row q).1;omega
theorem simp_fin0{w W:World}{gc g:Nat}{cb1 bv:Value}{cr:Bool}{buf t lh:List UInt8}(h:SimpMid w W gc g cb1 bv cr buf t lh)(ht:t=[]):SimpAt W gc g cb1 bv cr buf (lh++t)/\Gr (fun k=>g<=k) w W:=by
 subst ht;exact⟨⟨h.blk,h.own,by rw[List.append_nil];exact h.dig,h.lt,h.ngc,h.dis,h.inv⟩,h.gr⟩
theorem Gr.drewN{S:Nat->Prop}{a b:World}(h:Gr S a b)(n:Nat):Gr S a (b.drewN n):=⟨h.os,h.tape,h.output,h.size,h.block⟩
theorem SimpAt.drewN{w:World}{gc g:Nat}{cb bv:Value}{cr:Bool}{buf lh:List UInt8}(h:SimpAt w gc g cb bv cr buf lh)(n:Nat):SimpAt (w.drewN n) gc g cb bv cr buf lh:=⟨h.blk,h.own,h.dig.drewN n,h.lt,h.ngc,h.dis,h.inv⟩
theorem last_drop{b:List UInt8}{n1:Nat}{x:UInt8}(h:n1=b.length - 1)(hx:b[n1]?=some x):b.drop n1=[x]:=by
 obtain⟨hlt,he⟩:=List.getElem?_eq_some_iff.1 hx;rw[List.drop_eq_getElem_cons hlt,he,List.drop_eq_nil_of_le (by omega)]
theorem c291(gc g:Nat)(cb bv v:Value)(cr:Bool)(buf lh l:List UInt8)(w:World)(h:SimpAt w gc g cb bv cr buf lh)(hv:RdB w v l)
  (hl:l.length<=500000000)(hbl:buf.length<=500000000)(hlh:lh.length<=1073741824) :
  Calls Tryz.prog 291 #[.pointer (some ⟨gc,0,none⟩),v] w fun e w'=>e=.returned (.tuple #[.int .i64 (l.length:Int),.nilIface])/\∃cb' bv' buf' lh',SimpAt w' gc g cb' bv' (crN cr l) buf' lh'/\lh'++buf'=lh++(buf++ended cr l) /\
   Gr (fun k=>g<=k) w w':=by
 obtain⟨b,hb⟩:∃b,Hid (buf++ended cr l=b):=⟨_,rfl⟩;have hfix:=simp_fix h.inv l;have hbl2:b.length<=3000000000:=by rw[<-hb.out,zA];have:=endedLe cr l;omega
 rw[hb.out]at hfix;have HH:=zH h;have HV:=zH hv;have hgcl:=h.blk.lt;have hmW:=mWr;have hcbl:Hid (∀k,cb.ownBlock=some k->gc < k/\k < w.heap.size):=fun k hk=>by have:=h.own.lt k hk;omega
 have hbvl:Hid (∀k,bv.ownBlock=some k->g < k/\k < w.heap.size):=fun k hk=>h.dig.row hk
 have HF:=zH hfix;have p1:=h.blk.cell 1;obtain⟨A0,c0,rfl,_⟩:=hv;obtain⟨Ac,cc,rfl,_⟩:=h.own.slice;clear h hfix;go_enter Tryz.func291,Tryz.ntmps291;go_upto_region 3 with(at_builtin;refine wp_appB rfl (.tmp 16) (.tmp 17) rfl rfl rfl HH.out.own (Src.bytes HV.out) (by omega) (by omega) ?_;intro v2 w2 hO2 hg2 hb2 hl2)
 have hD2:Blk w2 gc #[.iface 176 (.pointer (some ⟨g,0,none⟩)),.slice Ac buf.length cc,.bool cr] 364:=(hg2.block gc hgcl (by intro q;have:=hcbl.out gc q.symm;omega)).trans HH.out.blk;have hgc2:=hD2.lt;have HX2:=zH (And.intro hO2 (And.intro hD2 (And.intro hg2 hl2)));clear hO2 hg2 hb2 hl2 hD2;go_upto_region 4 with(go_at_call 292;refine(c292 gc 2 _ 364 cr _ (buf++l) w2 HX2.out.2.1 rfl HX2.out.1.rdB (fun g' o n c q=>by have hx:=HX2.out.1.lt g' (by rw[q];rfl);omega) (by rw[zA];omega)).mono ?_;rintro e w3⟨v3,rfl,hO3,hD3,hG3⟩;rw[HF.out.1]at hO3;rw[HF.out.2]at hD3)
 obtain⟨A3,c3,rfl,hc3,_,hA3⟩:=hO3.slice;have hO3':=zH hO3;have hD3':=zH hD3;have hG3':=zH hG3;have HA3:=zH hA3;have p1:=hD3.cell 1;have p0:=hD3.cell 0;have f1:=hD3.frozen 1;clear hO3 hD3 hG3 hA3;have HP:=zH (And.intro p0 (And.intro p1 f1));clear p0 p1 f1;by_cases hz:b.length=0
 ·have hI:¬(0:Int) < (b.length:Int):=by omega
  have HZ:=zH hz;clear hz;go_wp2;refine l291 _ _ _ _ _ _ _ _ _ _ _ _ _ _ _ _ _ _ _ _ _ _ _ _ _ _ _ _ _ _ _ _ _ _ _ _ _ _ _ _ _ _ _ _ _ _ _ _ _ _ _ _ _ _ _ _ _ _ _ _ _ _ _ _ _ _ _ _ _ _ _ _ _ _ _ _ _ _ _ _ _ (by kernel_rfl) _ b.length c3 b.length b (dropCRLF (b.take b.length).reverse) w3 rfl (fun h=>absurd h (by have:=HZ.out;omega)) (by omega) (by omega) (zH rfl) ?_;intro e u8 u9 u38 u39 u40 u41 u42 u43 u44 u45 u46 u47 u48 u49 u50 u51 u52 u53 u54 u55 u56 u57 hee hDe;have hDE:Hid (b.take e=(dropCRLF (b.take b.length).reverse).reverse):=by unfold Hid;rw[<-hDe,List.reverse_reverse]
  clear hDe;obtain⟨cb1,hC1,hown1,hsl⟩:=hO3'.out.lowRun (k:=e) (by omega);have hsh:=hO3'.out.highRun (k:=e) (by omega);have hrd1:=hO3'.out.rdB.high (k:=e) (by omega);obtain⟨p0,p1,f1⟩:=HP.out;have hstep:=simp_step HH.out.inv l b hb.out.symm b.length e (by omega) (.inl ⟨rfl,fun x hx=>by rw[List.eq_nil_of_length_eq_zero HZ.out]at hx;cases hx⟩) hDE.out hee;have HM:=zH (simp_mid HH.out HX2.out.2.2.1 hG3'.out hD3'.out hC1 hstep);have HRD:=zH (hrd1.setNe (g:=gc) (k:=1) (u:=.slice cb1 (b.length - e) (c3 - e)) (fun g' o n c q=>by have hx:=hO3'.out.lt g' (by injection q with q1;rw[q1];rfl);omega));have HLE:Hid (∀X:List UInt8,(X++b.take e)++b.drop e=X++(buf++ended cr l)):=fun X=>by rw[List.append_assoc,List.take_append_drop,<-hb.out]
  clear hC1 hown1 hrd1 hstep;generalize Value.slice A3 b.length c3=v3 at hsl hsh ⊢
  by_cases he:0 < e
  ·exact absurd he (by have:=HZ.out;omega)
  have q3:¬(0:Int) < (e:Int):=by omega
  clear he;have HTE:Hid (b.take e=[]):=by unfold Hid;rw[show e=0 by omega];rfl
  go_wp2;go_ret2
  exact⟨rfl,_,_,_,_,(simp_fin0 HM.out HTE.out).1,HLE.out lh,(simp_fin0 HM.out HTE.out).2⟩
 obtain⟨n1,hn1⟩:∃n1,n1=b.length - 1:=⟨_,rfl⟩;obtain⟨x,hx⟩:∃x,b[n1]?=some x:=⟨_,zG (by omega)⟩;obtain⟨g3,o3,rfl,hg3,_,hcl,_⟩:=HA3.out (by omega);have HCL:=zH hcl;have e1:=hcl n1 x hx;unfold byteV at e1;have a0:(0:Int) < (b.length:Int):=by omega
 have a1:IntKind.i64.wrap ((b.length:Int) - 1)=(n1:Int):=by rw[IntWalk.i64_in _ (by omega)];omega
 have b1:(n1:Int) < (b.length:Int):=by omega
 have HN:=zH (And.intro hn1 (And.intro hx hz));clear hn1 hx hz hcl;by_cases h13:(x.toNat:Int)=13
 ·have t1:((x.toNat:Int) == 13)=true:=zE h13
  have H13:=zH h13;clear h13;go_wp2;refine l291 _ _ _ _ _ _ _ _ _ _ _ _ _ _ _ _ _ _ _ _ _ _ _ _ _ _ _ _ _ _ _ _ _ _ _ _ _ _ _ _ _ _ _ _ _ _ _ _ _ _ _ _ _ _ _ _ _ _ _ _ _ _ _ _ _ _ _ _ _ _ _ _ _ _ _ _ _ _ _ _ _ (by kernel_rfl) _ b.length c3 n1 b (dropCRLF (b.take n1).reverse) w3 rfl (fun _=>⟨g3,o3,rfl,HCL.out⟩) (by omega) (by omega) (zH rfl) ?_;intro e u8 u9 u38 u39 u40 u41 u42 u43 u44 u45 u46 u47 u48 u49 u50 u51 u52 u53 u54 u55 u56 u57 hee hDe;have hDE:Hid (b.take e=(dropCRLF (b.take n1).reverse).reverse):=by unfold Hid;rw[<-hDe,List.reverse_reverse]
  clear hDe;obtain⟨cb1,hC1,hown1,hsl⟩:=hO3'.out.lowRun (k:=e) (by omega);have hsh:=hO3'.out.highRun (k:=e) (by omega);have hrd1:=hO3'.out.rdB.high (k:=e) (by omega);obtain⟨p0,p1,f1⟩:=HP.out;have hstep:=simp_step HH.out.inv l b hb.out.symm n1 e (by omega) (.inr ⟨x,H13.out,last_drop HN.out.1 HN.out.2.1⟩) hDE.out hee;have HM:=zH (simp_mid HH.out HX2.out.2.2.1 hG3'.out hD3'.out hC1 hstep);have HRD:=zH (hrd1.setNe (g:=gc) (k:=1) (u:=.slice cb1 (b.length - e) (c3 - e)) (fun g' o n c q=>by have hx:=hO3'.out.lt g' (by injection q with q1;rw[q1];rfl);omega));have HLE:Hid (∀X:List UInt8,(X++b.take e)++b.drop e=X++(buf++ended cr l)):=fun X=>by rw[List.append_assoc,List.take_append_drop,<-hb.out]
  clear hC1 hown1 hrd1 hstep;generalize Value.slice (some ⟨g3,o3,none⟩) b.length c3=v3 at hsl hsh ⊢
  by_cases he:0 < e
  ·have q3:(0:Int) < (e:Int):=by omega
   clear he;go_wp2;refine wp_quiet_call 9 13 (by kernel_rfl) (by kernel_rfl) rfl ?_;simp only[List.take_succ_cons,List.take_zero,List.drop_succ_cons,List.drop_zero];repeat(quiet_step (fail))
   refine wpQuiet_nil ?_;intro _ hw';obtain⟨nq,hw''⟩:=hw';subst hw'';go_wp2_with (go_at_call 112;refine(c112 g bv lh (b.take e) _ _ _ _ (HM.out.dig.drewN nq) (HRD.out.drewN nq) (by rw[List.length_take];omega)).mono ?_;rintro e2 w4⟨rfl,bv2,hd4,hG4,hl4⟩);refine callQ_normal ?_;repeat(quiet_step (fail))
   refine wpQuiet_nil ?_;intro _ hw';obtain⟨nq2,hw''⟩:=hw';subst hw'';go_wp2;go_ret2
   have HFN:=simp_fin HM.out hd4 (Gr.of_below (S:=fun k=>k=g\/bv.ownBlock=some k) (below_drewN (zB _ _) nq) |>.trans hG4) hl4;exact⟨rfl,_,_,_,_,HFN.1.drewN nq2,HLE.out lh,HFN.2.drewN nq2⟩
  have q3:¬(0:Int) < (e:Int):=by omega
  clear he;have HTE:Hid (b.take e=[]):=by unfold Hid;rw[show e=0 by omega];rfl
  go_wp2;go_ret2
  exact⟨rfl,_,_,_,_,(simp_fin0 HM.out HTE.out).1,HLE.out lh,(simp_fin0 HM.out HTE.out).2⟩
 have t1:((x.toNat:Int) == 13)=false:=zF h13;have H13:=zH h13;clear h13;go_wp2;refine l291 _ _ _ _ _ _ _ _ _ _ _ _ _ _ _ _ _ _ _ _ _ _ _ _ _ _ _ _ _ _ _ _ _ _ _ _ _ _ _ _ _ _ _ _ _ _ _ _ _ _ _ _ _ _ _ _ _ _ _ _ _ _ _ _ _ _ _ _ _ _ _ _ _ _ _ _ _ _ _ _ _ (by kernel_rfl) _ b.length c3 b.length b (dropCRLF (b.take b.length).reverse) w3 rfl (fun _=>⟨g3,o3,rfl,HCL.out⟩) (by omega) (by omega) (zH rfl) ?_;intro e u8 u9 u38 u39 u40 u41 u42 u43 u44 u45 u46 u47 u48 u49 u50 u51 u52 u53 u54 u55 u56 u57 hee hDe;have hDE:Hid (b.take e=(dropCRLF (b.take b.length).reverse).reverse):=by unfold Hid;rw[<-hDe,List.reverse_reverse]
 clear hDe;obtain⟨cb1,hC1,hown1,hsl⟩:=hO3'.out.lowRun (k:=e) (by omega);have hsh:=hO3'.out.highRun (k:=e) (by omega);have hrd1:=hO3'.out.rdB.high (k:=e) (by omega);obtain⟨p0,p1,f1⟩:=HP.out;have hstep:=simp_step HH.out.inv l b hb.out.symm b.length e (by omega) (.inl ⟨rfl,fun z hz=>by rw[List.getLast?_eq_getElem?,<-HN.out.1,HN.out.2.1]at hz;injection hz with hz;subst hz;exact H13.out⟩) hDE.out hee;have HM:=zH (simp_mid HH.out HX2.out.2.2.1 hG3'.out hD3'.out hC1 hstep);have HRD:=zH (hrd1.setNe (g:=gc) (k:=1) (u:=.slice cb1 (b.length - e) (c3 - e)) (fun g' o n c q=>by have hx:=hO3'.out.lt g' (by injection q with q1;rw[q1];rfl);omega));have HLE:Hid (∀X:List UInt8,(X++b.take e)++b.drop e=X++(buf++ended cr l)):=fun X=>by rw[List.append_assoc,List.take_append_drop,<-hb.out]
 clear hC1 hown1 hrd1 hstep;generalize Value.slice (some ⟨g3,o3,none⟩) b.length c3=v3 at hsl hsh ⊢
 by_cases he:0 < e
 ·have q3:(0:Int) < (e:Int):=by omega
  clear he;go_wp2;refine wp_quiet_call 9 13 (by kernel_rfl) (by kernel_rfl) rfl ?_;simp only[List.take_succ_cons,List.take_zero,List.drop_succ_cons,List.drop_zero];repeat(quiet_step (fail))
  refine wpQuiet_nil ?_;intro _ hw';obtain⟨nq,hw''⟩:=hw';subst hw'';go_wp2_with (go_at_call 112;refine(c112 g bv lh (b.take e) _ _ _ _ (HM.out.dig.drewN nq) (HRD.out.drewN nq) (by rw[List.length_take];omega)).mono ?_;rintro e2 w4⟨rfl,bv2,hd4,hG4,hl4⟩);refine callQ_normal ?_;repeat(quiet_step (fail))
  refine wpQuiet_nil ?_;intro _ hw';obtain⟨nq2,hw''⟩:=hw';subst hw'';go_wp2;go_ret2
  have HFN:=simp_fin HM.out hd4 (Gr.of_below (S:=fun k=>k=g\/bv.ownBlock=some k) (below_drewN (zB _ _) nq) |>.trans hG4) hl4;exact⟨rfl,_,_,_,_,HFN.1.drewN nq2,HLE.out lh,HFN.2.drewN nq2⟩
 have q3:¬(0:Int) < (e:Int):=by omega
 clear he;have HTE:Hid (b.take e=[]):=by unfold Hid;rw[show e=0 by omega];rfl
 go_wp2;go_ret2
 exact⟨rfl,_,_,_,_,(simp_fin0 HM.out HTE.out).1,HLE.out lh,(simp_fin0 HM.out HTE.out).2⟩
end Go.Proofs.YtnkihlpmmfeioaaGreatDoor
