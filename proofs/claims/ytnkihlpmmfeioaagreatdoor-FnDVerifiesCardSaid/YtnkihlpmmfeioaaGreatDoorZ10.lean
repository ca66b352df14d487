/- Part of the proof that laws.FnDVerifies answers true: K3,A38,A39,A40 -/
import Derived.Deep.Quiet
import Derived.StillTail
import Derived.Test.YtnkihlpmmfeioaaGreatDoorZ09
set_option linter.unusedVariables false
set_option linter.unusedSimpArgs false
set_option maxRecDepth 1000000
set_option maxHeartbeats 16000000
namespace Go.Proofs.YtnkihlpmmfeioaaGreatDoor
open Go.RowKit
section
variable {P:Program}{ops:Array Oper}{md:Region.Mode}{C:World->Prop}
def HeadQ(P:Program)(md:Region.Mode)(ops:Array Oper)(C:World->Prop)(n:Nat)(L:Array Bool->Act->Prop):Nat->Array Bool->Act->Prop
 |0,done,a=>L done a
 |f+1,done,a=>Region.ready md ops done≠[]/\∀i∈Region.ready md ops done,i < n/\qOp P ops C i (HeadQ P md ops C n L f (done.setIfInBounds i true)) a
theorem HeadQ.any{n g:Nat}{L:Array Bool->Act->Prop}{Q':Exit->Act->World->Prop}(hL:∀done a w,C w->L done a->wpAny P md ops Q' g done a w) :
  ∀(f:Nat) (done:Array Bool) (a:Act) (w:World),C w->HeadQ P md ops C n L f done a->wpAny P md ops Q' (f+g) done a w
 |0,done,a,w,hw,h=>by rw[Nat.zero_add];exact hL _ _ _ hw h
 |f+1,done,a,w,hw,h=>by
  rw[Nat.succ_add];exact⟨fun h0=>absurd h0 h.1,fun i hi=>wpOp_of_qOp hw (fun a' w' hw' h'=>HeadQ.any hL f _ a' w' hw' h') (h.2 i hi).2⟩
theorem HeadQ.first{n i:Nat}{oi:Oper}{v:Value}{L:Array Bool->Act->Prop}(hi:ops[i]?=some oi)(hsel:∀(j:Nat) (o:Oper) cs b,ops[j]?=some o->o.op≠.select cs b)
  (hs:Region.sinkB md ops n=true)(hc:Region.chainB md ops n=true)(hn:n < ops.size)(hin:i < n)(hL:∀done a,L done a->∀j∈Region.ready md ops done,n<=j) :
  ∀(f:Nat) (done:Array Bool) (a:Act),HeadInv md ops n done ->
   (∀j oj,ops[j]?=some oj->j≠i->done.getD j true=false->(∀e∈oj.after,Region.binds md e=true->e.on≠i)->oi.apart ops oj=true) ->
   i∈Region.ready md ops done->YieldsIn P ops C oi v a->HeadQ P md ops C n L f (done.setIfInBounds i true) (a.put oi.dst v)->HeadQ P md ops C n L (f+1) done a:=by
 intro f;induction f with
 |zero =>
  intro done a inv _ hr hy H;have hun:=(mem_ready.1 hr).1;refine⟨fun h=>(by rw[h]at hr;cases hr),fun j hj=>?_⟩;have hjn:j < n:=(Nat.lt_or_ge j n).elim id fun h=>absurd hj (tail_waits hs hc hn inv _ i rfl hin hun j h)
  refine⟨hjn,?_⟩;by_cases hji:j=i
  ·subst hji;exact hy.qOp hi H
  exact absurd (hL _ _ H j (ready_mono hj hji)) (by omega)
 |succ f ih =>
  intro done a inv hfree hr hy H;have hun:=(mem_ready.1 hr).1;refine⟨fun h=>(by rw[h]at hr;cases hr),fun j hj=>?_⟩;have hjn:j < n:=(Nat.lt_or_ge j n).elim id fun h=>absurd hj (tail_waits hs hc hn inv _ i rfl hin hun j h)
  refine⟨hjn,?_⟩;by_cases hji:j=i
  ·subst hji;exact hy.qOp hi H
  obtain⟨hjun,oj,hoj,hall⟩:=mem_ready.1 hj;have hnot:∀e∈oj.after,Region.binds md e=true->e.on≠i:=fun e he hb heq=>by
   have q:=hall e he hb;rw[heq,getD_both hun]at q;cases q
  refine qOp_mono (fun a' h3=>?_) (qOp_put hoj (hfree j oj hoj hji hjun hnot) (fun cs b=>hsel i oi cs b hi) (fun cs b=>hsel j oj cs b hoj) hy (H.2 j (ready_mono hj hji)).2);refine ih (done.setIfInBounds j true) a' (inv.set hj hjn) (fun k ok hk hki hku hno=>hfree k ok hk hki ?_ hno) (ready_mono hr (Ne.symm hji)) h3.1 ?_
  ·by_cases hjk:j=k
   ·subst hjk;exact hjun
   rw[getD_set_ne true hjk]at hku;exact hku
  rw[Array.setIfInBounds_comm _ _ hji];exact h3.2
theorem HeadQ.lex{n g:Nat}{Lq:Act->Prop}(hsel:Region.noSelect ops=true)(hs:Region.sinkB md ops n=true)(hc:Region.chainB md ops n=true)(hn:n < ops.size) :
  ∀(l:List Oper) (k:Nat) (done:Array Bool) (a:Act),(∀j,j < l.length->l[j]?=ops[k+j]?)->k+l.length=n->HeadInv md ops n done ->
  Region.lexHead md ops g l.length k done=true->wpQuiet P ops C Lq l a->HeadQ P md ops C n (fun done' a'=>Region.seqB md ops g n done'=true/\Lq a') l.length done a
 |[],k,done,a,_,hk,_,hB,h=>by
  obtain rfl:k=n:=by simpa using hk
  exact⟨by simpa [Region.lexHead]using hB,h⟩
 |o::l,k,done,a,hl,hk,inv,hB,h=>by
  have h0:ops[k]?=some o:=by simpa using(hl 0 (by simp)).symm
  simp only[List.length_cons,Region.lexHead,Bool.and_eq_true]at hB hk;have hr:k∈Region.ready md ops done:=by simpa using hB.1.1
  have hq:qOp P ops C k (wpQuiet P ops C Lq l) a:=by unfold qOp;simp only[h0];exact h
  obtain⟨v,hy,hK⟩:=yieldsIn_of_qOp h0 hq;refine HeadQ.first h0 (Region.noSelect_spec hsel) hs hc hn (by omega) (fun done' a' hL=>seqB_ready hL.1) l.length done a inv (Region.free_spec h0 hB.1.2) hr hy ?_;exact HeadQ.lex hsel hs hc hn l (k+1) _ _ (fun j hj=>by have q:=hl (j+1) (by simp;omega);simpa [Nat.add_assoc,Nat.add_comm 1 j]using q) (by omega) (inv.set hr (by omega)) hB.2 hK
theorem wp_quiet_tail{id:Nat}{Q:Exit->Act->World->Prop}{a:Act}{w:World}{l:List Oper}(n:Nat)(hm:P.follows .mixedOrders=true)(hB:Region.lexTailB .any l.toArray n=true)
  (hC:C { w with drawn:=w.drawn+1 })(h:wpQuiet P l.toArray C (fun a'=>∀w',C w'->wpList P l.toArray Q (l.drop n) a' w') (l.take n) a):(Code.region id l.toArray true).wp P Q a w:=by
 simp only[Region.lexTailB,Bool.and_eq_true,decide_eq_true_eq]at hB;obtain⟨⟨⟨⟨hsel,hn⟩,hs⟩,hc⟩,hlex⟩:=hB;have hn':n < l.length:=by simpa using hn
 have htl:(l.take n).length=n:=by simp;omega
 have hdl:(l.drop n).length=l.toArray.size - n:=by simp
 have inv:HeadInv .any l.toArray n (Array.replicate l.toArray.size false) :=
  ⟨by simp,fun j oj _ q=>(by rw[getD_replicate_false]at q;cases q),fun t _ ht=>getD_in (by simpa using ht) (getD_replicate_false _ _)⟩
 have H:=HeadQ.lex (P:=P) (C:=C) (md:=.any) (g:=l.toArray.size - n) hsel hs hc hn (l.take n) 0 _ a (fun j hj=>by
  rw[htl]at hj;simp[hj]) (by simpa using htl) inv (by rw[htl];exact hlex) h
 refine wp_region_any hm ?_;have K:=HeadQ.any (Q':=Q) (g:=l.toArray.size - n) (fun done a' w' hw' hL=>by
  have q:=wpAny_of_seq (md:=.any) (Q':=Q) (l.drop n) n done a' w' (fun j=>by simp[List.getElem?_drop]) (by rw[hdl];exact hL.1) (hL.2 w' hw')
  rwa [hdl]at q) _ _ _ _ hC H
 rwa [htl,show n+(l.toArray.size - n)=l.toArray.size by omega]at K
theorem wp_quiet_tail_lit{id:Nat}{Q:Exit->Act->World->Prop}{a:Act}{w:World}{l:List Oper}(n:Nat)(hm:P.follows .mixedOrders=true)(hB:Region.lexTailB .any l.toArray n=true)
  (h:wpQuiet P l.toArray (fun w'=>∃k,w'=w.drewN k) (fun a'=>∀w',(∃k,w'=w.drewN k)->wpList P l.toArray Q (l.drop n) a' w') (l.take n) a):(Code.region id l.toArray true).wp P Q a w :=
 wp_quiet_tail n hm hB ⟨1,rfl⟩ h
end
def cut2(c:Int)(l:List UInt8):List (List UInt8):=if cutF c l=true then[cutA c l,cutZ c l]else[l]
theorem Own.lit(w:World)(base:Nat)(hb:base<=w.heap.size)(e:TypeId)(cs:Array Value)(n:Nat)(hn:cs.size=n)(hm:n<=maxLen)(xs:List Value)(hx:cs.toList=xs):Own (w.alloc (.cells cs e)) base e (.slice (some ⟨w.heap.size,0,none⟩) n n) xs:=by
 subst hx;refine⟨by simp[hn],.inr ⟨w.heap.size,n,cs,?_,hb,heap_alloc_new w _,?_,hm,by omega,?_⟩⟩
 ·simp[hn]
 ·simp[hn]
 rw[Nat.mul_one,List.take_length]
theorem c137(s:ByteArray)(c:UInt8)(w:World)(hs:s.size<=1073741824) :
  Calls Tryz.prog 137 #[.string s,.int .u8 (c.toNat:Int)] w fun e w'=>∃v,e=.returned v/\Own w' w.heap.size 9 v ((cut2 c.toNat s.data.toList).map strV)/\Below w.heap.size w w':=by
 obtain⟨R,hR⟩:∃R,Hid (cut2 c.toNat s.data.toList=R):=⟨_,rfl⟩;rw[hR.out];go_enter Tryz.func137,Tryz.ntmps137;go_wp2;go_loopg [5] s.size (fun g j w'=>∃k:Nat,Hid (k+g=s.size)/\k<=s.size/\j=.int .i64 (k:Int)/\Hid ((if cutF c.toNat (s.data.toList.drop k)=true then[s.data.toList.take k++cutA c.toNat (s.data.toList.drop k),cutZ c.toNat (s.data.toList.drop k)]else[s.data.toList])=R)/\w'=w)
 case atStart=>exact⟨0,Nat.zero_add _,Nat.zero_le _,rfl,by unfold Hid;rw[<-hR.out,cut2];simp,rfl⟩
 obtain⟨k,hk,hks,rfl,hq,rfl⟩:=hrel;by_cases hlt:k < s.size
 ·have hq2:=hq.out
  have hkI:(k:Int) < (s.size:Int):=by omega
  by_cases hc:(s[k].toNat:Int)=(c.toNat:Int)
  ·have n1:((s[k].toNat:Int) == (c.toNat:Int))=true:=zE hc
   have HR:Hid (R=[(s.extract 0 k).data.toList,(s.extract (k+1) s.size).data.toList]):=by
    unfold Hid;rw[<-hq2,drop_at s k hlt];simp only[cutF,cutA,cutZ,if_pos hc,if_true,List.append_nil,L_extract,List.drop_zero,Nat.sub_zero];rw[List.take_of_length_le (by simp[size_L]:(s.data.toList.drop (k+1)).length<=s.size - (k+1))]
   clear hq hq2 hc;go_upto_region 5 with fail
   have z1:(0:Int)<=(k:Int):=by omega
   have z2:(k:Int)<=(s.size:Int):=by omega
   have z3:IntKind.i64.wrap ((k:Int)+1)=(k:Int)+1:=IntWalk.i64_in _ (by omega);have z4:((k:Int)+1).toNat=k+1:=by omega
   have z5:(0:Int)<=(k:Int)+1:=by omega
   have z6:(k:Int)+1<=(s.size:Int):=by omega
   refine wp_quiet_tail_lit 7 (by kernel_rfl) (by kernel_rfl) ?_;simp only[List.take_succ_cons,List.take_zero,List.drop_succ_cons,List.drop_zero];repeat(quiet_step (fail))
   refine wpQuiet_nil ?_;intro _ hw';obtain⟨nq,hw''⟩:=hw';subst hw'';clear z3 z4;go_wp2;go_ret
   refine⟨_,rfl,?_,(below_drewN (zB _ _) _).alloc (zR _) _⟩;rw[HR.out];exact Own.lit (wr.drewN nq) _ (zR _) 9 _ 2 rfl (by decide) _ (by simp only[strV,B_L,List.map_cons,List.map_nil])
  have n1:((s[k].toNat:Int) == (c.toNat:Int))=false:=zF hc;have HQ:Hid ((if cutF c.toNat (s.data.toList.drop (k+1))=true then[s.data.toList.take (k+1)++cutA c.toNat (s.data.toList.drop (k+1)),cutZ c.toNat (s.data.toList.drop (k+1))]else[s.data.toList])=R):=by
   unfold Hid;rw[<-hq2,cutF_drop _ s k hlt hc,cutA_drop _ s k hlt hc,<-take_at s k hlt];rw[show cutZ c.toNat (s.data.toList.drop k)=cutZ c.toNat (s.data.toList.drop (k+1))by rw[drop_at s k hlt,cutZ,if_neg hc]]
  clear hq hq2 hc;go_wp2;go_roundg (gk - 1)
  case measure=>have:=hk.out;omega
  case rel=>exact⟨k+1,by have:=hk.out;unfold Hid;omega,by omega,by go_num,HQ,rfl⟩
 have hq2:=hq.out;rw[drop_end s k hlt,cutF,if_neg (by decide)]at hq2;have HQ:=zH hq2;have hkI:¬(k:Int) < (s.size:Int):=by omega
 clear hq hq2;go_wp2;go_ret
 refine⟨_,rfl,?_,(zB _ _).alloc (zR _) _⟩;rw[<-HQ.out];exact Own.lit _ _ (zR _) 9 _ 1 rfl (by decide) _ (by simp[strV,B_L])
theorem c137p(l:List UInt8)(k:Int)(c:UInt8)(hc:k=(c.toNat:Int))(w:World)(hs:(B l).size<=1073741824) :
  Calls Tryz.prog 137 #[.string (B l),.int .u8 k] w fun e w'=>∃v,e=.returned v/\Own w' w.heap.size 9 v ((cut2 k l).map strV)/\Below w.heap.size w w':=by
 subst hc;exact c137 (B l) c w hs
theorem c103(s:ByteArray)(w:World)(hs:s.size<=1073741824)(hp:plainL s.data.toList) :
  Calls Tryz.prog 103 #[.string s] w fun e w'=>e=.returned (.tuple #[.string (B (formA s.data.toList)),.string (B (formB s.data.toList))])/\Below w.heap.size w w':=by
 have hl:=strip_le s.data.toList;have hlen:(B (strip s.data.toList)).size<=1073741824:=by rw[size_B];rw[size_L]at hl;omega
 obtain⟨S,hS⟩:∃S,Hid (strip s.data.toList=S):=⟨_,rfl⟩;have hfA:Hid (formA s.data.toList=strOr (cutA 47 S)):=by unfold Hid formA;rw[hS.out]
 have hfB:Hid (formB s.data.toList=if cutF 47 S=true then cutZ 47 S else simpleL):=by unfold Hid formB;rw[hS.out]
 rw[hfA.out,hfB.out];rw[hS.out]at hlen;have HP:=zH hp;clear hp hl hfA hfB;cases hf:cutF 47 S with
 |true =>
  have hc2:Hid (cut2 47 S=[cutA 47 S,cutZ 47 S]):=by unfold Hid cut2;rw[if_pos hf]
  obtain⟨a,ha⟩:∃a,Hid (cutA 47 S=a):=⟨_,rfl⟩;obtain⟨z,hz⟩:∃z,Hid (cutZ 47 S=z):=⟨_,rfl⟩;rw[ha.out,hz.out]at hc2;rw[if_pos rfl,ha.out,hz.out];clear hf;by_cases h0:a=[]
  ·have hst:Hid (simpleL=strOr a):=by unfold Hid strOr;rw[if_pos h0]
   have e1:(B a).toList.isEmpty=true:=by rw[toList_B,h0];rfl
   rw[<-hst.out];clear h0;go_enter Tryz.func103,Tryz.ntmps103;go_wp2_with (first
    |(go_at_call 98;refine(c98 s _ hs HP.out).mono ?_;rintro e w1⟨rfl,hb1⟩;rw[hS.out])
    |(go_at_call 137;refine(c137p S 47 47 rfl _ hlen).mono ?_;rintro e w2⟨v,rfl,hO,hb2⟩;rw[hc2.out]at hO;obtain⟨A,c,rfl,hc,hA⟩:=hO.slice;obtain⟨g,rfl,_,_,hcl⟩:=hA (by simp);have q0:=hcl 0 _ rfl;have q1:=hcl 1 _ rfl;have hbb:=bthen hb1 hb2;unfold strV at q0 q1;have hc':2<=c:=hc;rw[show(List.map strV [a,z]).length=2 from rfl];clear hcl hA hO hc))
   go_ret2
   exact⟨rfl,hbb⟩
  have hst:Hid (a=strOr a):=by unfold Hid strOr;rw[if_neg h0]
  have e1:(B a).toList.isEmpty=false:=by rw[toList_B,List.isEmpty_eq_false_iff];exact h0
  rw[<-hst.out];clear h0;go_enter Tryz.func103,Tryz.ntmps103;go_wp2_with (first
   |(go_at_call 98;refine(c98 s _ hs HP.out).mono ?_;rintro e w1⟨rfl,hb1⟩;rw[hS.out])
   |(go_at_call 137;refine(c137p S 47 47 rfl _ hlen).mono ?_;rintro e w2⟨v,rfl,hO,hb2⟩;rw[hc2.out]at hO;obtain⟨A,c,rfl,hc,hA⟩:=hO.slice;obtain⟨g,rfl,_,_,hcl⟩:=hA (by simp);have q0:=hcl 0 _ rfl;have q1:=hcl 1 _ rfl;have hbb:=bthen hb1 hb2;unfold strV at q0 q1;have hc':2<=c:=hc;rw[show(List.map strV [a,z]).length=2 from rfl];clear hcl hA hO hc))
  go_ret2
  exact⟨rfl,hbb⟩
 |false =>
  have hc2:Hid (cut2 47 S=[S]):=by unfold Hid cut2;rw[if_neg (by rw[hf];decide)]
  have ha:=(cutZ_none _ _ hf).1;rw[if_neg (by decide),ha];clear hf ha;by_cases h0:S=[]
  ·have hst:Hid (simpleL=strOr S):=by unfold Hid strOr;rw[if_pos h0]
   have e1:(B S).toList.isEmpty=true:=by rw[toList_B,h0];rfl
   rw[<-hst.out];clear h0;go_enter Tryz.func103,Tryz.ntmps103;go_wp2_with (first
    |(go_at_call 98;refine(c98 s _ hs HP.out).mono ?_;rintro e w1⟨rfl,hb1⟩;rw[hS.out])
    |(go_at_call 137;refine(c137p S 47 47 rfl _ hlen).mono ?_;rintro e w2⟨v,rfl,hO,hb2⟩;rw[hc2.out]at hO;obtain⟨A,c,rfl,hc,hA⟩:=hO.slice;obtain⟨g,rfl,_,_,hcl⟩:=hA (by simp);have q0:=hcl 0 _ rfl;have hbb:=bthen hb1 hb2;unfold strV at q0;have hc':1<=c:=hc;rw[show(List.map strV [S]).length=1 from rfl];clear hcl hA hO hc))
   go_ret2
   exact⟨rfl,hbb⟩
  have hst:Hid (S=strOr S):=by unfold Hid strOr;rw[if_neg h0]
  have e1:(B S).toList.isEmpty=false:=by rw[toList_B,List.isEmpty_eq_false_iff];exact h0
  rw[<-hst.out];clear h0;go_enter Tryz.func103,Tryz.ntmps103;go_wp2_with (first
   |(go_at_call 98;refine(c98 s _ hs HP.out).mono ?_;rintro e w1⟨rfl,hb1⟩;rw[hS.out])
   |(go_at_call 137;refine(c137p S 47 47 rfl _ hlen).mono ?_;rintro e w2⟨v,rfl,hO,hb2⟩;rw[hc2.out]at hO;obtain⟨A,c,rfl,hc,hA⟩:=hO.slice;obtain⟨g,rfl,_,_,hcl⟩:=hA (by simp);have q0:=hcl 0 _ rfl;have hbb:=bthen hb1 hb2;unfold strV at q0;have hc':1<=c:=hc;rw[show(List.map strV [S]).length=1 from rfl];clear hcl hA hO hc))
  go_ret2
  exact⟨rfl,hbb⟩
def rmB(c:Int):List UInt8->List UInt8
 |[]=>[]
 |x::l=>if(x.toNat:Int)=c then rmB c l else x::rmB c l
theorem rmB_found(c:Int)(l:List UInt8)(h:cutF c l=true):rmB c l=cutA c l++rmB c (cutZ c l):=by
 induction l with
 |nil=>simp[cutF]at h
 |cons x l ih =>
  by_cases hx:(x.toNat:Int)=c
  ·simp[rmB,cutA,cutZ,hx]
  simp only[cutF,if_neg hx]at h;simp only[rmB,cutA,cutZ,if_neg hx,ih h];rfl
theorem rmB_none(c:Int)(l:List UInt8)(h:cutF c l=false):rmB c l=l:=by
 induction l with
 |nil=>rfl
 |cons x l ih =>
  by_cases hx:(x.toNat:Int)=c
  ·simp[cutF,hx]at h
  simp only[cutF,if_neg hx]at h;simp only[rmB,if_neg hx,ih h]
theorem c165(s:ByteArray)(c:UInt8)(w:World)(hs:s.size<=1073741824) :
  Calls Tryz.prog 165 #[.string s,.string (B [c]),.string (B [])] w fun e w'=>e=.returned (.string (B (rmB c.toNat s.data.toList)))/\Below w.heap.size w w':=by
 have hsz:(B [c]).size=1:=rfl;obtain⟨R,hR⟩:∃R,Hid (rmB c.toNat s.data.toList=R):=⟨_,rfl⟩;rw[hR.out];go_enter Tryz.func165,Tryz.ntmps165;go_wp2;go_loopg [0,7] s.size (fun g v0 v w'=>∃s1:ByteArray,∃out:List UInt8,Hid (s1.size=g)/\s1.size<=s.size/\v0=.string s1/\Hid (out++rmB c.toNat s1.data.toList=R/\out.length+s1.size<=s.size)/\Hid (OwnB w' w.heap.size v out)/\Hid (Below w.heap.size w w'))
 case atStart=>exact⟨s,[],rfl,zR _,rfl,⟨hR.out,by simp⟩,OwnB.nil _ _,zB _ _⟩
 obtain⟨s1,out,hk,hle,rfl,hp,ho,hb⟩:=hrel;obtain⟨p1,p2⟩:=hp.out;clear hp;cases hf:cutF c.toNat s1.data.toList with
 |true =>
  rw[rmB_found _ _ hf]at p1;obtain⟨e1,e2,e3⟩:=cutA_extract _ s1 hf;obtain⟨k,hkk⟩:∃k,Hid ((cutA c.toNat s1.data.toList).length=k):=⟨_,rfl⟩;have hi:=idx_yes hf;rw[hkk.out]at e1 e2 e3 hi;have HE:=zH (And.intro e1 (And.intro e2 hi));have H1:=zH (And.intro p1 p2);have hk0:(0:Int)<=(k:Int):=by omega
  have hk2:(k:Int)+1<=(s1.size:Int):=by omega
  have hel:Hid ((s1.extract 0 k).data.toList.length=k):=by unfold Hid;rw[e1];exact hkk.out
  clear hf p1 p2 e1 e2 hi;have tok1:True:=trivial;go_wp2_with (first
   |(go_at_call 132;refine(c132 _ _ _ (by omega)).mono ?_;rintro e w1⟨rfl,rfl⟩;rw[HE.out.2.2])
   |(at_builtin;have _t:=tok1;refine wp_appB rfl (.tmp 54) (.tmp 57) rfl rfl rfl ho.out (Src.text _ (s1.extract 0 k)) (by rw[hel.out];have:=H1.out.2;omega) hb.out.size ?_;intro v2 w2 hO2 hg2 hb2 hl2;have hb3:=hb2 w hb.out;clear tok1 hb2 hg2 hl2)
   |(at_builtin;refine wp_appB rfl (.tmp 58) (.tmp 59) rfl rfl rfl hO2 (Src.text _ (B [])) (by have:=H1.out.2;have:=hel.out;simp[B];omega) hb3.size ?_;intro v3 w3 hO3 hg3 hb4 hl3;have hb5:=hb4 w hb3;clear hb4 hg3 hl3))
  go_roundg (s1.extract (k+1) s1.size).size
  case measure=>have:=hk.out;simp;omega
  case rel =>
   refine⟨s1.extract (k+1) s1.size,out++cutA c.toNat s1.data.toList,rfl,by simp;omega,rfl,⟨by rw[List.append_assoc,HE.out.2.1];exact H1.out.1,by have:=H1.out.2;have:=hkk.out;simp;omega⟩,?_,hb5⟩;have hO4:=hO3;rw[HE.out.1,show(B []).data.toList=[]from rfl,List.append_nil]at hO4;exact hO4
 |false =>
  rw[rmB_none _ _ hf]at p1;have hi:=idx_no hf;have H1:=zH (And.intro hi (And.intro p1 p2));clear hf p1 p2 hi;go_wp2_with (first
   |(go_at_call 132;refine(c132 _ _ _ (by omega)).mono ?_;rintro e w1⟨rfl,rfl⟩;rw[H1.out.1])
   |(at_builtin;refine wp_appB rfl (.tmp 50) (.tmp 51) rfl rfl rfl ho.out (Src.text _ s1) (by have:=H1.out.2.2;rw[size_L];omega) hb.out.size ?_;intro v2 w2 hO2 hg2 hb2 hl2;have hb3:=hb2 w hb.out;have hcv:=hO2.str;clear hb2 hg2 hl2))
  go_ret
  exact⟨ret_eq (by rw[<-H1.out.2.1];rfl),hb3⟩
theorem take_last(s:ByteArray)(n:Nat)(h:n < s.size):s.data.toList.take (n+1)=s.data.toList.take n++[s[n]]:=by
 have:=take_at s n h [];simpa using this
def inEnds(c:UInt8):Nat->Bool
 |0=>false
 |1=>decide ((c.toNat:Int)=13)
 |_=>decide ((c.toNat:Int)=13) || decide ((c.toNat:Int)=10)
theorem c114(s:ByteArray)(w:World)(hs:s.size<=1073741824) :
  Calls Tryz.prog 114 #[.string s,.string ⟨#[13,10]⟩] w fun e w'=>e=.returned (.string (B (without s.data.toList)))/\Below w.heap.size w w':=by
 obtain⟨R,hR⟩:∃R,Hid (without s.data.toList=R):=⟨_,rfl⟩;rw[hR.out];go_enter Tryz.func114,Tryz.ntmps114;go_wp2;go_loopg [5] s.size (fun g v w'=>∃n:Nat,Hid (n=g)/\n<=s.size/\v=.int .i64 (n:Int)/\Hid (without (s.data.toList.take n)=R)/\Hid (Below w.heap.size w w'))
 case atStart=>exact⟨s.size,rfl,zR _,rfl,by unfold Hid;rw[<-size_L,List.take_length];exact hR.out,zB _ _⟩
 obtain⟨n,hn,hns,rfl,hq,hb⟩:=hrel;by_cases h0:0 < n
 ·obtain⟨m,rfl⟩:∃m,n=m+1:=⟨n - 1,by omega⟩
  have hm:m < s.size:=by omega
  obtain⟨c,hc⟩:∃c,Hid (s[m]=c):=⟨s[m],zH rfl⟩;have hq2:=hq.out;rw[take_last s m hm,hc.out,without_snoc]at hq2;have e1:((m:Int)+1 - 1)=(m:Int):=by omega
  have HQ:=zH hq2;clear hq hq2;obtain⟨wo,hwo⟩:∃wo:World,wo=wr:=⟨_,rfl⟩;rw[<-hwo]at hb ⊢;clear hwo;have h0I:(0:Int) < (m:Int)+1:=by omega
  go_wp2;go_loopg [6,7] 2 (fun g v j w'=>∃i:Nat,Hid (i+g=2)/\i<=2/\j=.int .i64 (i:Int)/\v=.bool (inEnds c i)/\Hid (Below w.heap.size w w'))
  case atStart=>exact⟨0,rfl,by omega,rfl,rfl,hb⟩
  clear hb;obtain⟨i,hi,hi2,rfl,rfl,hb⟩:=hrel;by_cases hlt:i < 2
  ·have hi':i=0\/i=1:=by omega
   rcases hi' with rfl|rfl
   ·by_cases h13:(c.toNat:Int)=13
    ·have hd:Hid (inEnds c 1=true):=by unfold Hid inEnds;exact decide_eq_true h13
     have n1:((((⟨#[13,10]⟩:ByteArray)[0]'(by decide)).toNat:Int) == (s[m].toNat:Int))=true:=by rw[hc.out];exact zE (by rw[h13];rfl)
     clear h13;go_upto_region 7 with fail
     have z1:(0:Int)<=(m:Int):=by omega
     have z2:(m:Int) < (s.size:Int):=by omega
     have z3:IntKind.i64.wrap ((m:Int)+1 - 1)=(m:Int):=by rw[e1];exact IntWalk.i64_in _ (by omega)
     go_quiet (fail)
     clear z3;go_wp2;go_roundg (gk - 1)
     case measure=>have:=hi.out;omega
     case rel=>exact⟨1,by have:=hi.out;unfold Hid;omega,by omega,rfl,by rw[hd.out],below_drewN hb.out _⟩
    have hd:Hid (inEnds c 1=false):=by unfold Hid inEnds;exact decide_eq_false h13
    have n1:((((⟨#[13,10]⟩:ByteArray)[0]'(by decide)).toNat:Int) == (s[m].toNat:Int))=false:=by rw[hc.out];exact zF (fun q=>h13 (by rw[<-q];rfl))
    clear h13;go_upto_region 7 with fail
    have z1:(0:Int)<=(m:Int):=by omega
    have z2:(m:Int) < (s.size:Int):=by omega
    have z3:IntKind.i64.wrap ((m:Int)+1 - 1)=(m:Int):=by rw[e1];exact IntWalk.i64_in _ (by omega)
    go_quiet (fail)
    clear z3;go_wp2;go_roundg (gk - 1)
    case measure=>have:=hi.out;omega
    case rel=>exact⟨1,by have:=hi.out;unfold Hid;omega,by omega,rfl,by rw[hd.out];rfl,below_drewN hb.out _⟩
   by_cases h10:(c.toNat:Int)=10
   ·have hd:Hid (inEnds c 2=true):=by unfold Hid inEnds;rw[decide_eq_true h10,Bool.or_true];rfl
    have n1:((((⟨#[13,10]⟩:ByteArray)[1]'(by decide)).toNat:Int) == (s[m].toNat:Int))=true:=by rw[hc.out];exact zE (by rw[h10];rfl)
    clear h10;go_upto_region 7 with fail
    have z1:(0:Int)<=(m:Int):=by omega
    have z2:(m:Int) < (s.size:Int):=by omega
    have z3:IntKind.i64.wrap ((m:Int)+1 - 1)=(m:Int):=by rw[e1];exact IntWalk.i64_in _ (by omega)
    go_quiet (fail)
    clear z3;go_wp2;go_roundg (gk - 1)
    case measure=>have:=hi.out;omega
    case rel=>exact⟨2,by have:=hi.out;unfold Hid;omega,by omega,rfl,by rw[hd.out],below_drewN hb.out _⟩
   have hd:Hid (inEnds c 2=inEnds c 1):=by unfold Hid inEnds;rw[decide_eq_false h10,Bool.or_false];rfl
   have n1:((((⟨#[13,10]⟩:ByteArray)[1]'(by decide)).toNat:Int) == (s[m].toNat:Int))=false:=by rw[hc.out];exact zF (fun q=>h10 (by rw[<-q];rfl))
   clear h10;go_upto_region 7 with fail
   have z1:(0:Int)<=(m:Int):=by omega
   have z2:(m:Int) < (s.size:Int):=by omega
   have z3:IntKind.i64.wrap ((m:Int)+1 - 1)=(m:Int):=by rw[e1];exact IntWalk.i64_in _ (by omega)
   go_quiet (fail)
   clear z3;go_wp2;go_roundg (gk - 1)
   case measure=>have:=hi.out;omega
   case rel=>exact⟨2,by have:=hi.out;unfold Hid;omega,by omega,rfl,by rw[hd.out],below_drewN hb.out _⟩
  obtain rfl:i=2:=by omega
  by_cases hin:(c.toNat:Int)=13\/(c.toNat:Int)=10
  ·have hd:Hid (inEnds c 2=true):=by unfold Hid inEnds;rcases hin with h|h <;> simp[h]
   have HQ2:=HQ.out;rw[if_pos hin]at HQ2;have HQ3:=zH HQ2;rw[hd.out];clear HQ2 hin;go_wp2;go_roundg m
   case measure=>have:=hn.out;omega
   case rel=>exact⟨m,rfl,by omega,by go_num,HQ3,hb⟩
  have hd:Hid (inEnds c 2=false):=by unfold Hid inEnds;rw[decide_eq_false (fun h=>hin (.inl h)),decide_eq_false (fun h=>hin (.inr h))];rfl
  have HQ2:=HQ.out;rw[if_neg hin,<-hc.out,<-take_last s m hm]at HQ2;have HQ3:=zH HQ2;rw[hd.out];clear HQ2 hin;have hmI:(m:Int)+1<=(s.size:Int):=by omega
  go_wp2;go_ret
  exact⟨ret_eq (str_eq (by rw[<-HQ3.out,L_extract];simp)),hb.out⟩
 obtain rfl:n=0:=by omega
 have hq2:=hq.out;have HQ:=zH hq2;clear hq hq2;go_wp2;go_ret
 exact⟨ret_eq (str_eq (by rw[<-HQ.out];simp[without,dropEnds])),hb.out⟩
end Go.Proofs.YtnkihlpmmfeioaaGreatDoor
