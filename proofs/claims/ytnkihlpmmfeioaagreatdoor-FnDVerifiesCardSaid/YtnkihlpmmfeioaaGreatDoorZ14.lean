/- Part of the proof that laws.FnDVerifies answers true: P5,A44,A56 -/
import Derived.Lib.FieldsP
import Derived.Lib.Join
import Derived.Laws.RangeString
import Derived.Test.YtnkihlpmmfeioaaGreatDoorZ12
import Derived.Test.YtnkihlpmmfeioaaGreatDoorZ13
set_option linter.unusedVariables false
set_option linter.unusedSimpArgs false
set_option maxRecDepth 1000000
set_option maxHeartbeats 16000000
namespace Go.Proofs.YtnkihlpmmfeioaaGreatDoor
open Go.RowKit
def jn(xs:List (List UInt8)):List UInt8:=Lib.join xs [32]
theorem jn_snoc(P:List (List UInt8))(x:List UInt8):jn (P++[x])=if P=[]then x else jn P++32::x:=by
 unfold jn;cases P with
 |nil=>simp[Lib.join_one]
 |cons y r =>
  rw[List.cons_append,Lib.join_cons,if_neg (by simp),Lib.join_cons];unfold Lib.joinTail;simp
def blankR(n:Nat):Bool:=decide ((n:Int)=32\/(n:Int)=9\/(n:Int)=13\/(n:Int)=10)
theorem blankR_b(c:UInt8):blankR c.toNat=blank c:=by
 unfold blankR;rw[Bool.eq_iff_iff,blank_iff];simp
def pieces(s:ByteArray)(acc:List (Nat × Nat)):List (List UInt8):=acc.map fun x=>(s.extract x.1 x.2).data.toList
theorem extract_snoc(s:ByteArray)(a k:Nat)(hk:k < s.size)(ha:a<=k):(s.extract a (k+1)).data.toList=(s.extract a k).data.toList++[s[k]]:=by
 rw[L_extract,L_extract,show k+1 - a=k - a+1 from by omega,List.take_succ_eq_append_getElem (by simp[size_L];omega),List.getElem_drop];simp only[show a+(k - a)=k from by omega];rfl
theorem spans_join(s:ByteArray)(hs:plainL s.data.toList):∀(f pos:Nat) (st:Option Nat) (acc:List (Nat × Nat)),s.size<=pos+f->pos<=s.size->(∀a,st=some a->a < pos) ->
  jn (pieces s (Lib.closeSpans s (Lib.spansFromP blankR s f pos st acc))) =
   (match st with
    |none=>jn (pieces s acc)++joined (!(acc == [])) (!(acc == [])) (s.data.toList.drop pos)
    |some a=>jn (pieces s acc++[(s.extract a pos).data.toList])++joined true false (s.data.toList.drop pos)):=by
 intro f;have hend:∀(pos:Nat) (st:Option Nat) (acc:List (Nat × Nat)),pos=s.size->jn (pieces s (Lib.closeSpans s (acc,st))) =
   (match st with
    |none=>jn (pieces s acc)++joined (!(acc == [])) (!(acc == [])) (s.data.toList.drop pos)
    |some a=>jn (pieces s acc++[(s.extract a pos).data.toList])++joined true false (s.data.toList.drop pos)):=by
  intro pos st acc hp;subst hp;rw[drop_end s s.size (by omega)];cases st with
  |none=>simp[Lib.closeSpans,joined]
  |some a=>simp[Lib.closeSpans,joined,pieces]
 induction f with
 |zero=>intro pos st acc h1 h2 h3;exact hend pos st acc (by omega)
 |succ f ih =>
  intro pos st acc h1 h2 h3;unfold Lib.spansFromP;by_cases hlt:pos < s.size
  ·rw[if_pos hlt]
   have hpl:=hs s[pos] (Array.getElem_mem_toList hlt);have hdec:=decode_ascii s pos hlt (by have:=hpl.1;omega);rw[hdec];simp only[blankR_b];have hdr:=drop_at s pos hlt;by_cases hb:blank s[pos]=true
   ·rw[if_pos hb]
    cases st with
    |some a =>
     have ha:=h3 a rfl;simp only;rw[ih (pos+1) none _ (by omega) (by omega) (fun a h=>by cases h)];simp only;rw[hdr,joined,if_pos hb];have hne:(acc++[(a,pos)] == [])=false:=by cases acc <;> rfl
     rw[hne];simp[pieces]
    |none =>
     simp only;rw[ih (pos+1) none _ (by omega) (by omega) (fun a h=>by cases h)];simp only;rw[hdr,joined,if_pos hb]
   rw[if_neg hb];cases st with
   |some a =>
    have ha:=h3 a rfl;simp only;rw[ih (pos+1) (some a) _ (by omega) (by omega) (fun a' h=>by injection h with h;omega)];simp only;rw[hdr,joined,if_neg hb,if_neg (by decide),extract_snoc s a pos hlt (by omega),jn_snoc,jn_snoc];split <;> simp
   |none =>
    simp only;rw[ih (pos+1) (some pos) _ (by omega) (by omega) (fun a' h=>by injection h with h;omega)];simp only;rw[hdr,joined,if_neg hb,extract_snoc s pos pos hlt (zR _),jn_snoc];have he:(s.extract pos pos).data.toList=[]:=by rw[L_extract];simp
    rw[he];cases acc with
    |nil=>simp[pieces,jn,Lib.join_nil]
    |cons y r=>simp[pieces]
  rw[if_neg hlt];exact hend pos st acc (by omega)
theorem fields_join(s:ByteArray)(hs:plainL s.data.toList):Lib.join ((Lib.goFieldsP blankR s).map fun x=>x.data.toList) [32]=joined false false s.data.toList:=by
 have:=spans_join s hs s.size 0 none [] (by omega) (by omega) (fun a h=>by cases h);simp only[List.drop_zero]at this;unfold Lib.goFieldsP Lib.spansOfP;rw[List.map_map];exact this
theorem c141p(l:List UInt8)(w:World)(hs:(B l).size<=1073741824)(hp:plainL l) :
  Calls Tryz.prog 141 #[.string (B l)] w fun e w'=>e=.returned (.string (B (lower l)))/\Below w.heap.size w w':=c141 (B l) w hs hp
theorem c62p(l:List UInt8)(w:World)(hs:(B l).size<=1073741824)(hp:plainL l) :
  Calls Tryz.prog 62 #[.string (B l)] w fun e w'=>e=.returned (.tuple #[.string (B (trim (cutA 58 l))),.string (B (trim (cutZ 58 l)))])/\Below w.heap.size w w':=c62 (B l) w hs hp
theorem c63p(l m:List UInt8)(w:World)(hs:(B l).size<=1073741824)(ht:(B m).size<=1073741824)(hp:plainL l)(hq:plainL m) :
  Calls Tryz.prog 63 #[.string (B l),.string (B m)] w fun e w'=>e=.returned (.bool (decide (lower l=lower m)))/\Below w.heap.size w w':=c63 (B l) (B m) w hs ht hp hq
theorem low_keep(x:UInt8)(h:¬(65<=(x.toNat:Int)/\(x.toNat:Int)<=90)):low x=x:=by unfold low;rw[if_neg h]
theorem low_low(c:UInt8):low (low c)=low c:=by
 by_cases h:65<=(c.toNat:Int)/\(c.toNat:Int)<=90
 ·have h1:=low_num c h.1 h.2
  exact low_keep _ (by omega)
 rw[low_keep c h,low_keep c h]
theorem lower_lower(l:List UInt8):lower (lower l)=lower l:=by
 unfold lower;rw[List.map_map];exact List.map_congr_left fun c _=>low_low c
theorem low_plain{c:UInt8}(h:plainB c):plainB (low c):=by
 by_cases h1:65<=(c.toNat:Int)/\(c.toNat:Int)<=90
 ·have:=low_num c h1.1 h1.2
  obtain⟨a,b,d⟩:=h;refine⟨?_,?_,?_⟩ <;> omega
 have h2:low c=c:=by unfold low;rw[if_neg h1]
 rw[h2];exact h
theorem plain_lower{l:List UInt8}(h:plainL l):plainL (lower l):=by
 intro c hc;obtain⟨x,hx,rfl⟩:=List.mem_map.1 hc;exact low_plain (h x hx)
theorem plain_trimL{l:List UInt8}(h:plainL l):plainL (trimL l):=by
 induction l with
 |nil=>exact h
 |cons x l ih=>unfold trimL;split;exact ih (fun z hz=>h z (by simp[hz]));exact h
theorem plain_trim{l:List UInt8}(h:plainL l):plainL (trim l):=by
 unfold trim trimR;intro c hc;have h1:=plain_trimL h;have h2:plainL (trimL l).reverse:=fun z hz=>h1 z (List.mem_reverse.1 hz)
 exact plain_trimL h2 c (List.mem_reverse.1 hc)
theorem OwnMI.mono{w:World}{b n n':Nat}{F:List UInt8->Nat}(h:OwnMI w b n F)(hn:n<=n'):OwnMI w b n' F:=by
 obtain⟨M,h1,h2,h3⟩:=h;exact⟨M,h1.mono hn,h2,h3⟩
theorem OwnMI.ne{w:World}{b n g:Nat}{F:List UInt8->Nat}{cs:Array Value}{e:TypeId}(h:OwnMI w b n F)(hg:Blk w g cs e):g≠b:=by
 obtain⟨M,⟨es,clock,hb,_⟩,_⟩:=h;intro he;subst he;unfold Blk at hg;rw[hg]at hb;cases hb
def PickAt(w:World)(gp mb n:Nat)(hv:Value)(F:List UInt8->Nat):Prop:=Blk w gp #[hv,.map (some mb)] 248/\OwnMI w mb n F
def pickF(fields:List (List UInt8))(key:List UInt8)(F:List UInt8->Nat):List UInt8->Nat:=fun t=>if key=t/\F key < cntF key fields then F key+1 else F t
theorem PickAt.below{w w':World}{gp mb n:Nat}{hv:Value}{F:List UInt8->Nat}(h:PickAt w gp mb n hv F)(hb:Below w.heap.size w w'):PickAt w' gp mb n hv F:=⟨h.1.below hb h.1.lt,h.2.below hb⟩
theorem grown_some{w w':World}(hb:Below w.heap.size w w')(r:Option Nat):w.grownBy w' r:=⟨hb.os,hb.tape,hb.output,hb.size,fun k hk _=>hb.block k hk⟩
theorem c110(A:Option Addr)(m c:Nat)(w:World):Calls Tryz.prog 110 #[.slice A m c] w fun e w'=>∃gp mb,e=.returned (.pointer (some ⟨gp,0,none⟩))/\PickAt w' gp mb 0 (.slice A m c) (fun _=>0)/\w.heap.size<=gp/\w.heap.size<=mb/\Below w.heap.size w w':=by
 have hmm:=@run_makeMap Tryz.prog;go_enter Tryz.func110,Tryz.ntmps110;go_wp2;go_ret
 exact⟨_,_,rfl,⟨by simpa using Blk.new (w.alloc (.map #[] 0)) #[.slice A m c,.map (some w.heap.size)] 248,(OwnMI.made w).below ((zB _ _).alloc (zR _) _)⟩,by simp,zR _,((zB _ _).alloc (zR _) _).alloc (by simp) _⟩
theorem cntF_snoc(key:List UInt8)(fields:List (List UInt8))(k:Nat)(h:k < fields.length):cntF key (fields.take (k+1))=cntF key (fields.take k)+if keyOf fields[k]=key then 1 else 0:=by
 unfold cntF;rw[List.take_succ_eq_append_getElem h,List.countP_append];simp[List.countP_cons]
theorem c111(s:ByteArray)(gp mb n:Nat)(hv:Value)(F:List UInt8->Nat)(fields:List (List UInt8))(w:World)(hP:PickAt w gp mb n hv F)(hr:RdS w hv fields)(hF:∀t,F t<=n)(hn:n < 1073741824)
  (hs:s.size<=1073741824)(hp:plainL s.data.toList)(hf:allLe 1073741824 fields)(hfp:∀f∈fields,plainL f)(hfl:fields.length<=1073741824) :
  Calls Tryz.prog 111 #[.pointer (some ⟨gp,0,none⟩),.string s] w fun e w'=>e=.returned (.string (B (nthM (lower s.data.toList) (F (lower s.data.toList)) fields.reverse)))/\PickAt w' gp mb (n+1) hv (pickF fields (lower s.data.toList) F)/\w.grownBy w' (some mb):=by
 obtain⟨key,hkey⟩:∃key,Hid (lower s.data.toList=key):=⟨_,rfl⟩;rw[hkey.out];have hkl:(B key).size<=1073741824:=by rw[size_B,<-hkey.out];unfold lower;rw[List.length_map,size_L];exact hs
 have hkm:(B key).size<=maxLen:=by unfold maxLen;omega
 have hkp:Hid (plainL key):=by unfold Hid;rw[<-hkey.out];exact plain_lower hp
 have hkk:Hid (lower key=key):=by unfold Hid;rw[<-hkey.out];exact lower_lower _
 obtain⟨R,hR⟩:∃R,Hid (nthM key (F key) fields.reverse=R):=⟨_,rfl⟩;rw[hR.out];obtain⟨c0,hc0⟩:∃c0,Hid (F key=c0):=⟨_,rfl⟩;rw[hc0.out]at hR;have hc0n:c0<=n:=by rw[<-hc0.out];exact hF key
 obtain⟨A,c,rfl,hc,_,hA⟩:=hr;have HA:=zH hA;have HP:=zH hp;have HPk:=zH hP;have Hf:=zH (And.intro hf hfp);have HF:=zH hF;clear hA hp hP hf hfp hF;go_enter Tryz.func111,Tryz.ntmps111;go_upto_region 3 with(go_at_call 141;refine(c141 s _ hs HP.out).mono ?_;rintro e w1⟨rfl,hb1⟩;rw[hkey.out];have hP1:=HPk.out.below hb1;have q0:=hP1.1.cell 0;have q1:=hP1.1.cell 1;have hlk:=hP1.2.look (B key) hkm;rw[L_B,hc0.out]at hlk)
 have HP1:=zH hP1;have HB1:=zH hb1;clear hP1 hb1 hlk q1;go_wp2;clear q0;go_loopg [5,6] fields.length (fun g v j w'=>∃k c1:Nat,Hid (k=g)/\v=.int .i64 (c1:Int)/\j=.int .i64 ((k:Int) - 1)/\k<=fields.length/\c1<=c0/\Hid (nthM key c1 (fields.take k).reverse=R)/\Hid (c1 < cntF key (fields.take k)↔c0 < cntF key fields)/\Hid (PickAt w' gp mb n (.slice A fields.length c) F)/\Hid (Below w.heap.size w w'))
 case atStart=>exact⟨fields.length,c0,rfl,rfl,rfl,zR _,zR _,by unfold Hid;rw[List.take_length];exact hR.out,by unfold Hid;rw[List.take_length],HP1,HB1⟩
 clear HP1 HB1 hR;obtain⟨k,c1,hkg,rfl,rfl,hkf,hcc,hq,hct,hPk,hb⟩:=hrel;by_cases hk0:0 < k
 ·obtain⟨k1,rfl⟩:∃k1,k=k1+1:=⟨k - 1,by omega⟩
  have hk1:k1 < fields.length:=by omega
  obtain⟨g0,off0,rfl,hcf⟩:=HA.out (by omega);have hcf0:=hcf k1 fields[k1] (zG hk1);have hcfi:=(hb.out.cell (p:=⟨g0,off0+k1,none⟩) (cell_lt hcf0)).trans hcf0;clear hcf hcf0;have hfm:=Hf.out.1 fields[k1] (List.getElem_mem hk1);have hfq:=Hf.out.2 fields[k1] (List.getElem_mem hk1);obtain⟨fd,hfdE⟩:∃fd:List UInt8,Hid (fields[k1]=fd):=⟨fields[k1],zH rfl⟩;rw[hfdE.out]at hcfi hfm hfq;have htr:(fields.take (k1+1)).reverse=fd::(fields.take k1).reverse:=by
   rw[List.take_succ_eq_append_getElem hk1,List.reverse_append,hfdE.out];rfl
  have hq2:=hq.out;rw[htr,nthM]at hq2;have hcs:=hct.out;rw[cntF_snoc key fields k1 hk1,hfdE.out]at hcs;have hfB:(B fd).size<=1073741824:=hfm;have htB:(B (trim (cutA 58 fd))).size<=1073741824:=by
   have h1:=trim_le (cutA 58 fd);have h2:=cutA_le 58 fd;rw[size_B]at hfB ⊢;omega
  have HFQ:=zH hfq;have HTQ:=zH (plain_trim (plain_cutA (c:=58) hfq));have e1:((k1:Int)+1 - 1)=(k1:Int):=by omega
  have p0:=hPk.out.1.cell 0;clear hq hct hfm hfq htr;by_cases hmk:keyOf fd=key
  ·rw[if_pos hmk]at hq2 hcs
   have hdec:Hid (decide (lower (trim (cutA 58 fd))=lower key)=true):=by unfold Hid;rw[hkk.out];exact decide_eq_true hmk
   by_cases hz:c1=0
   ·subst hz
    rw[if_pos rfl]at hq2;have hgt:Hid (c0 < cntF key fields):=hcs.1 (by omega);obtain rfl:=hq2;clear hcs;go_wp2_with (first
     |(go_at_call 62;refine(c62p fd _ hfB HFQ.out).mono ?_;rintro e w2⟨rfl,hb2⟩)
     |(go_at_call 63;refine(c63p _ key _ htB hkl HTQ.out hkp.out).mono ?_;rintro e w3⟨rfl,hb3⟩;rw[hdec.out];have hb4:=bthen (bthen hb.out hb2) hb3;have hP4:=(hPk.out.below hb2).below hb3;have q0:=hP4.1.cell 0;have q1:=hP4.1.cell 1;have hlk:=hP4.2.look (B key) hkm;rw[L_B,hc0.out]at hlk;obtain⟨w5,hup,hM5,hg5⟩:=hP4.2.put (by unfold maxLen;omega) (B key) (c0+1) hkm (by omega);rw[show((c0+1:Nat):Int)=(c0:Int)+1 from by omega]at hup))
    go_ret
    have hne:=hP4.2.ne hP4.1;refine⟨rfl,⟨?_,?_⟩,?_⟩
    ·exact(hg5.block gp hP4.1.lt (by intro h;injection h with h;exact hne h)).trans hP4.1
    ·refine(cast ?_ hM5)
     congr 1
     funext t
     show(if key=t then c0+1 else F t)=(if key=t/\F key < cntF key fields then F key+1 else F t);rw[hc0.out];by_cases ht:key=t
     ·rw[if_pos ht,if_pos ⟨ht,hgt.out⟩]
     rw[if_neg ht,if_neg (fun h=>ht h.1)]
    exact(grown_some hb4 _).trans hg5
   rw[if_neg hz]at hq2;have HQ:=zH hq2;have hcI:¬(c1:Int)=0:=by omega
   have n1:((c1:Int) == 0)=false:=zF hcI;have hcn:Hid (c1 - 1 < cntF key (fields.take k1)↔c0 < cntF key fields):=by unfold Hid;rw[<-hcs];omega
   clear hq2 hcs;go_wp2_with (first
    |(go_at_call 62;refine(c62p fd _ hfB HFQ.out).mono ?_;rintro e w2⟨rfl,hb2⟩)
    |(go_at_call 63;refine(c63p _ key _ htB hkl HTQ.out hkp.out).mono ?_;rintro e w3⟨rfl,hb3⟩;rw[hdec.out];have hb4:=bthen (bthen hb.out hb2) hb3;have hP4:=(hPk.out.below hb2).below hb3))
   go_roundg k1
   case measure=>have:=hkg.out;omega
   case rel=>exact⟨k1,c1 - 1,rfl,int_eq (by omega),by first|rfl|exact int_eq (by omega),by omega,by omega,HQ,hcn,hP4,hb4⟩
  rw[if_neg hmk]at hq2 hcs;have HQ:=zH hq2;have hdec:Hid (decide (lower (trim (cutA 58 fd))=lower key)=false):=by unfold Hid;rw[hkk.out];exact decide_eq_false hmk
  have hcn:Hid (c1 < cntF key (fields.take k1)↔c0 < cntF key fields):=by unfold Hid;rw[<-hcs];omega
  clear hq2 hcs;go_wp2_with (first
   |(go_at_call 62;refine(c62p fd _ hfB HFQ.out).mono ?_;rintro e w2⟨rfl,hb2⟩)
   |(go_at_call 63;refine(c63p _ key _ htB hkl HTQ.out hkp.out).mono ?_;rintro e w3⟨rfl,hb3⟩;rw[hdec.out];have hb4:=bthen (bthen hb.out hb2) hb3;have hP4:=(hPk.out.below hb2).below hb3))
  go_roundg k1
  case measure=>have:=hkg.out;omega
  case rel=>exact⟨k1,c1,rfl,rfl,by first|rfl|exact int_eq (by omega),by omega,hcc,HQ,hcn,hP4,hb4⟩
 obtain rfl:k=0:=by omega
 have hq2:=hq.out;rw[List.take_zero,List.reverse_nil,nthM]at hq2;subst hq2;have hle:Hid (¬c0 < cntF key fields):=by have:=hct.out;rw[List.take_zero]at this;unfold Hid;rw[<-this];simp[cntF]
 clear hq hct;go_wp2;go_ret
 refine⟨rfl,⟨hPk.out.1,(cast ?_ (hPk.out.2.mono (Nat.le_succ n)))⟩,grown_some hb.out _⟩;congr 1
 funext t
 unfold pickF;rw[if_neg (fun h=>by rw[hc0.out]at h;exact hle.out h.2)]
theorem BapC'(l:List UInt8)(a:Array UInt8):B l++(⟨a⟩:ByteArray)=B (l++a.toList):=by rw[<-B_L (B l++(⟨a⟩:ByteArray)),L_append];rfl
theorem Bap'(l m:List UInt8):B l++B m=B (l++m):=by rw[<-B_L (B l++B m),L_append];rfl
theorem join_cell{w:World}{base A n c:Nat}{xs:List ByteArray}(h:w.ownsRow base 9 1 (.slice (some ⟨A,0,none⟩) n c) xs.length (xs.map Value.string))(j:Nat)(x:ByteArray)(hx:xs[j]?=some x):w.cell? ⟨A,0+j,none⟩=some (.string x):=by
 have:=World.ownsRow.cells h (g:=A) rfl j (.string x) (by rw[List.getElem?_map,hx];rfl);rw[Nat.zero_add]
 rwa [show(⟨A,0,none⟩:Addr).add j=⟨A,j,none⟩from by unfold Addr.add;split <;> simp_all]at this
theorem join_count(xs:List (List UInt8)):xs.length<=(Lib.join xs [32]).length+1:=by
 cases xs with
 |nil=>simp
 |cons x r =>
  rw[Lib.join_cons];have:r.length<=(Lib.joinTail [32] r).length:=by
   unfold Lib.joinTail;induction r with
   |nil=>simp
   |cons y r ih=>simp at ih ⊢;omega
  simp;omega
theorem pred269(w:World):Go.Proofs.PredAtRunes Tryz.prog 269 #[] blankR w:=fun W x hx _=>by
 have:=c269 (x:Int) W;exact this.mono fun e w' ⟨he,hw⟩=>⟨he,0,hw.symm⟩
theorem c268(s:ByteArray)(w:World)(hs:s.size<=1073741824)(hp:plainL s.data.toList) :
  Calls Tryz.prog 268 #[.string s,.func (.func 269) #[] #[]] w fun e w'=>∃A,e=.returned (.slice (some ⟨A,0,none⟩) (Lib.goFieldsP blankR s).length (Lib.goFieldsP blankR s).length)/\w.heap.size<=A /\
   w'.ownsRow w.heap.size 9 1 (.slice (some ⟨A,0,none⟩) (Lib.goFieldsP blankR s).length (Lib.goFieldsP blankR s).length) (Lib.goFieldsP blankR s).length ((Lib.goFieldsP blankR s).map Value.string)/\Below w.heap.size w w' :=
 Tryz.strings_FieldsFunc_runes 269 #[] (fun args W=>by kernel_rfl) blankR s w (by omega) (pred269 w)
theorem c168(A c:Nat)(xs:List ByteArray)(w:World)(hcells:∀(j:Nat) x,xs[j]?=some x->w.cell? ⟨A,0+j,none⟩=some (.string x))(hA:A < w.heap.size)(hN:xs.length<=140737488355328)(hcap:xs.length<=c)(J:List UInt8)(hJ:Lib.join (xs.map fun x=>x.data.toList) [32]=J)(hlen:J.length<=140737488355328) :
  Calls Tryz.prog 168 #[.slice (some ⟨A,0,none⟩) xs.length c,.string ⟨#[32]⟩] w fun e w'=>e=.returned (.string (B J))/\Below w.heap.size w w':=by
 subst hJ;exact Tryz.strings_Join A 0 c xs ⟨#[32]⟩ w hcells hA hN hcap hlen
theorem joinedLe(ne wt:Bool)(l:List UInt8):(joined ne wt l).length<=2*l.length:=by
 induction l generalizing ne wt with
 |nil=>simp[joined]
 |cons c l ih =>
  rw[joined];split
  ·have:=ih ne ne;simp;omega
  split
  ·have:=ih true false;simp;omega
  have:=ih true false;simp;omega
theorem c267(p:Value)(s:ByteArray)(w:World)(hs:s.size<=268435456)(hp:plainL s.data.toList) :
  Calls Tryz.prog 267 #[p,.string s] w fun e w'=>e=.returned (.string (B (fieldOf relaxedL s.data.toList)))/\Below w.heap.size w w':=by
 obtain⟨R,hR⟩:∃R,Hid (fieldOf relaxedL s.data.toList=R):=⟨_,rfl⟩;rw[hR.out];have hR2:=hR.out;unfold fieldOf at hR2;rw[if_neg (by decide)]at hR2;have HP:=zH hp;have HR:=zH hR2;clear hR hR2;cases hf:cutF 58 s.data.toList with
 |false =>
  have hR3:=HR.out;rw[if_neg (by rw[hf];decide)]at hR3;have HR3:=zH hR3;have hl:(B (lower s.data.toList)).size<=1073741824:=by rw[size_B];unfold lower;rw[List.length_map,size_L];omega
  have hpl:=zH (plain_lower hp);have ht:(B (trim (lower s.data.toList))).size<=1073741824:=by have:=trim_le (lower s.data.toList);rw[size_B]at *;omega
  have a1:B (trim (lower s.data.toList))++(⟨#[58]⟩:ByteArray)=B (trim (lower s.data.toList)++[58]):=BapC' _ _;have a2:B (trim (lower s.data.toList)++[58])++(⟨#[13,10]⟩:ByteArray)=B ((trim (lower s.data.toList)++[58])++[13,10]):=BapC' _ _;rw[List.append_assoc]at a2;have ht2:(B (trim (lower s.data.toList)++[58])).size<=1073741825:=by rw[size_B]at *;simp;omega
  clear hp hR3;go_enter Tryz.func267,Tryz.ntmps267;go_wp2_with (first
   |(go_at_call 94;refine(c94' s _ 58 rfl _ (by omega)).mono ?_;rintro e w1⟨rfl,hb1⟩;rw[show(((58:UInt8).toNat:Nat):Int)=58 from rfl,hf])
   |(go_at_call 141;refine(c141 s _ (by omega) HP.out).mono ?_;rintro e w2⟨rfl,hb2⟩;have hb3:=bthen hb1 hb2)
   |(go_at_call 95;refine(c95p _ _ hl hpl.out).mono ?_;rintro e w3⟨rfl,hb4⟩;have hb5:=bthen hb3 hb4))
  go_ret
  exact⟨ret_eq (by rw[<-HR3.out];rfl),hb5⟩
 |true =>
  have hR3:=HR.out;rw[if_pos hf]at hR3;have HR3:=zH hR3;have hcl:=cutA_le 58 s.data.toList;have hzl:=cutZ_le 58 s.data.toList;rw[size_L]at hcl hzl;have hA:(B (cutA 58 s.data.toList)).size<=1073741824:=by rw[size_B];omega
  have hZ:(B (cutZ 58 s.data.toList)).size<=1073741824:=by rw[size_B];omega
  have pA:=zH (plain_cutA (c:=58) hp);have pZ:=zH (plain_cutZ (c:=58) hp);have hl:(B (lower (cutA 58 s.data.toList))).size<=1073741824:=by rw[size_B];unfold lower;rw[List.length_map];omega
  have hpl:=zH (plain_lower pA.out);have ht:(B (trim (lower (cutA 58 s.data.toList)))).size<=268435456:=by have:=trim_le (lower (cutA 58 s.data.toList));unfold lower at this;rw[List.length_map]at this;rw[size_B];unfold lower;omega
  have hj:(B (joined false false (cutZ 58 s.data.toList))).size<=536870912:=by have:=joinedLe false false (cutZ 58 s.data.toList);rw[size_B];omega
  obtain⟨X,hX⟩:∃X,Hid (trim (lower (cutA 58 s.data.toList))++[58]=X):=⟨_,zH rfl⟩;obtain⟨Y,hY⟩:∃Y,Hid (X++joined false false (cutZ 58 s.data.toList)=Y):=⟨_,zH rfl⟩;obtain⟨Z,hZz⟩:∃Z,Hid (Y++[13,10]=Z):=⟨_,zH rfl⟩;have a1:B (trim (lower (cutA 58 s.data.toList)))++(⟨#[58]⟩:ByteArray)=B X:=(BapC' _ _).trans (by rw[<-hX.out]);have a2:B X++B (joined false false (cutZ 58 s.data.toList))=B Y:=(Bap' _ _).trans (by rw[<-hY.out]);have a3:B Y++(⟨#[13,10]⟩:ByteArray)=B Z:=(BapC' _ _).trans (by rw[<-hZz.out]);have ht2:(B X).size<=268435457:=by rw[<-hX.out];rw[size_B]at *;simp;omega
  have ht3:(B Y).size<=805306369:=by rw[<-hY.out];rw[size_B]at *;rw[zA];omega
  clear hp hR3;go_enter Tryz.func267,Tryz.ntmps267;go_wp2_with (first
   |(go_at_call 94;refine(c94' s _ 58 rfl _ (by omega)).mono ?_;rintro e w1⟨rfl,hb1⟩;rw[show(((58:UInt8).toNat:Nat):Int)=58 from rfl,hf])
   |(go_at_call 141;refine(c141p _ _ hA pA.out).mono ?_;rintro e w2⟨rfl,hb2⟩;have hb3:=bthen hb1 hb2)
   |(go_at_call 95;refine(c95p _ _ hl hpl.out).mono ?_;rintro e w3⟨rfl,hb4⟩;have hb5:=bthen hb3 hb4)
   |(go_at_call 268;refine(c268 _ _ hZ pZ.out).mono ?_;rintro e w4⟨A,rfl,_,ho4,hb6⟩;have hb7:=bthen hb5 hb6;have hcells:=fun j x (hx:(Lib.goFieldsP blankR (B (cutZ 58 s.data.toList)))[j]?=some x)=>join_cell ho4 j x hx;have hAlt:=(World.ownsRow.lt ho4 A rfl).2;have hfj:=fields_join (B (cutZ 58 s.data.toList)) pZ.out;have hcnt:=join_count ((Lib.goFieldsP blankR (B (cutZ 58 s.data.toList))).map fun x=>x.data.toList);rw[hfj,List.length_map,L_B]at hcnt;have hHJ:=zH hfj;have hHC:=zH hcells;clear hfj hcells)
   |(go_at_call 168;refine(c168 A _ _ _ hHC.out hAlt (by rw[size_B]at hj;omega) (zR _) _ hHJ.out (by rw[size_B]at hj;rw[L_B];omega)).mono ?_;rintro e w5⟨rfl,hb8⟩;have hb9:=bthen hb7 hb8;rw[L_B]))
  go_ret
  exact⟨ret_eq (congrArg (fun x=>Value.string (B x)) (by rw[<-hZz.out,<-hY.out,<-hX.out];exact HR3.out)),hb9⟩
end Go.Proofs.YtnkihlpmmfeioaaGreatDoor
