/- Part of the proof that laws.FnDVerifies answers true: A7,A8,A9 -/
import Derived.Lib.AppendStr
import Derived.Test.YtnkihlpmmfeioaaGreatDoorZ02
set_option linter.unusedVariables false
set_option linter.unusedSimpArgs false
set_option maxRecDepth 1000000
set_option maxHeartbeats 16000000
namespace Go.Proofs.YtnkihlpmmfeioaaGreatDoor
open Go.RowKit
def takeBl : List UInt8->List UInt8
 |[]=>[]
 |c::l=>if blank c=true then c::takeBl l else[]
theorem takeBl_trimL(l:List UInt8):takeBl l++trimL l=l:=by
 induction l with
 |nil=>rfl
 |cons c l ih=>unfold takeBl trimL;split <;> simp_all
def skipSc : List UInt8->List UInt8
 |[]=>[]
 |c::l=>if(c.toNat:Int)=59 then c::l else skipSc l
theorem skipSc_le(l:List UInt8):(skipSc l).length<=l.length:=by
 induction l with
 |nil=>simp[skipSc]
 |cons x l ih=>unfold skipSc;split <;> simp <;> omega
def emptiedN : Nat->List UInt8->List UInt8
 |0,_=>[]
 |_+1,[]=>[]
 |n+1,c::m=>if(c.toNat:Int)=98 then(match trimL m with
   |e::m2=>if(e.toNat:Int)=61 then c::(takeBl m++e::emptiedN n (skipSc m2))else c::emptiedN n m
   |[]=>c::emptiedN n m)else c::emptiedN n m
theorem emptiedN_more(n:Nat):∀(k:Nat) (l:List UInt8),l.length<=n->l.length<=k->emptiedN n l=emptiedN k l:=by
 induction n with
 |zero =>
  intro k l h _;have:l=[]:=List.eq_nil_of_length_eq_zero (by omega);subst this;cases k <;> rfl
 |succ n ih =>
  intro k l h hk;cases l with
  |nil=>cases k <;> rfl
  |cons c m =>
   cases k with
   |zero=>simp at hk
   |succ k =>
    simp only[List.length_cons]at h hk;unfold emptiedN;rw[ih k m (by omega) (by omega)];split
    ·split
     ·rename_i e m2 he
      have h1:=trimL_le m;rw[he]at h1;simp only[List.length_cons]at h1;have h2:=skipSc_le m2;rw[ih k (skipSc m2) (by omega) (by omega)]
     rfl
    rfl
def emptied(l:List UInt8):List UInt8:=emptiedN l.length l
theorem emptied_nil : emptied []=[]:=rfl
theorem emptied_other(c:UInt8)(m:List UInt8)(h:¬(c.toNat:Int)=98):emptied (c::m)=c::emptied m:=by
 unfold emptied;simp only[List.length_cons];rw[emptiedN,if_neg h]
theorem emptied_b(c:UInt8)(m m2:List UInt8)(e:UInt8)(h:(c.toNat:Int)=98)(he:trimL m=e::m2)(h1:(e.toNat:Int)=61):emptied (c::m)=c::(takeBl m++e::emptied (skipSc m2)):=by
 unfold emptied;simp only[List.length_cons];rw[emptiedN,if_pos h,he];simp only[if_pos h1];have h3:=trimL_le m;rw[he]at h3;simp only[List.length_cons]at h3;have h2:=skipSc_le m2;rw[emptiedN_more m.length (skipSc m2).length (skipSc m2) (by omega) (zR _)]
theorem emptied_b1(c:UInt8)(m m2:List UInt8)(e:UInt8)(he:trimL m=e::m2)(h1:¬(e.toNat:Int)=61):emptied (c::m)=c::emptied m:=by
 unfold emptied;simp only[List.length_cons];rw[emptiedN];split
 ·rw[he];simp only[if_neg h1]
 rfl
theorem emptied_b2(c:UInt8)(m:List UInt8)(he:trimL m=[]):emptied (c::m)=c::emptied m:=by
 unfold emptied;simp only[List.length_cons];rw[emptiedN];split
 ·rw[he]
 rfl
theorem c82(s:ByteArray)(w:World)(hs:s.size<=1073741824) :
  Calls Tryz.prog 82 #[.string s] w fun e w'=>e=.returned (.string (B (emptied s.data.toList)))/\∃n,w'=w.drewN n:=by
 go_enter Tryz.func82,Tryz.ntmps82;go_wp2;go_loopg [3,4] s.size (fun g v i w'=>∃k:Nat,∃so:ByteArray,Hid (k+g=s.size)/\i=.int .i64 k/\v=.string so/\so.size<=k/\Hid (so.data.toList++emptied (s.data.toList.drop k)=emptied s.data.toList)/\∃n,w'=w.drewN n)
 case atStart=>exact⟨0,_,Nat.zero_add _,rfl,rfl,zR _,rfl,0,rfl⟩
 obtain⟨k,so,hk,rfl,rfl,hso,hp,n,rfl⟩:=hrel;have hk':k<=s.size:=by have:=hk.out;omega
 by_cases hlt:k < s.size
 ·rw[drop_at s k hlt]at hp
  by_cases hb:(s[k].toNat:Int)=98
  ·have hbe:((s[k].toNat:Int) == 98)=true:=zE hb
   have Hb:=zH hb;have hbn:((s[k].toNat:Int) != 98)=false:=zQ hb;clear hb;go_wp2;go_loopg [5] (s.size - (k+1)) (fun g v w'=>∃j:Nat,Hid (j+g=s.size)/\v=.int .i64 j/\k+1<=j/\Hid (trimL (s.data.toList.drop j)=trimL (s.data.toList.drop (k+1))/\(s.data.toList.drop (k+1)).take (j - (k+1))++takeBl (s.data.toList.drop j)=takeBl (s.data.toList.drop (k+1)))/\w'=w.drewN n)
   case atStart=>exact⟨k+1,by unfold Hid;omega,by go_num,zR _,⟨rfl,by simp⟩,rfl⟩
   obtain⟨j,hj,rfl,hkj,hq,rfl⟩:=hrel;have hj':j<=s.size:=by have:=hj.out;omega
   by_cases hjl:j < s.size
   ·rw[drop_at s j hjl]at hq
    cases hbl:blank s[j]with
    |true =>
     have H1:=zH hbl;go_wp2_with (go_at_call 88;refine(c88 _ _).mono ?_;rintro e w'⟨rfl,rfl⟩;rw[H1.out]);go_roundg (gk - 1)
     case measure=>have:=hj.out;omega
     case rel =>
      refine⟨j+1,by have:=hj.out;unfold Hid;omega,by go_num,by omega,⟨?_,?_⟩,rfl⟩
      ·have:=hq.out.1;rw[trimL,if_pos H1.out]at this;exact this
      have:=hq.out.2;rw[takeBl,if_pos H1.out]at this;rw[<-this,show j+1 - (k+1)=j - (k+1)+1 from by omega,List.take_succ_eq_append_getElem (by simp[size_L];omega),List.append_assoc,List.getElem_drop];simp only[List.singleton_append,show k+1+(j - (k+1))=j from by omega];rfl
    |false =>
     have hq1:=hq.out.1;have hq2:=hq.out.2;rw[trimL,if_neg (by rw[hbl];decide)]at hq1;rw[takeBl,if_neg (by rw[hbl];decide),List.append_nil]at hq2;have H1:=zH hbl;clear hbl;by_cases h61:(s[j].toNat:Int)=61
     ·have hp1:=hp.out
      rw[emptied_b s[k] _ _ s[j] Hb.out hq1.symm h61]at hp1;have H2:=zH (And.intro hp1 hq2);clear hp1 hq1 hq2 hq hp;have h61e:((s[j].toNat:Int) == 61)=true:=zE h61;have h61n:((s[j].toNat:Int) != 61)=false:=zQ h61;clear h61;go_wp2_with (go_at_call 88;refine(c88 _ _).mono ?_;rintro e w'⟨rfl,rfl⟩;rw[H1.out]);go_loopg [4] (s.size - (j+1)) (fun g v w'=>∃i:Nat,Hid (i+g=s.size)/\v=.int .i64 i/\j+1<=i/\Hid (skipSc (s.data.toList.drop i)=skipSc (s.data.toList.drop (j+1)))/\w'=w.drewN n)
      case atStart=>exact⟨j+1,by unfold Hid;omega,by go_num,zR _,rfl,rfl⟩
      obtain⟨i,hi,rfl,hji,hq3,rfl⟩:=hrel;have hi':i<=s.size:=by have:=hi.out;omega
      have hex:(s.extract k (j+1)).data.toList=s[k]::((s.data.toList.drop (k+1)).take (j - (k+1))++[s[j]]):=by
       rw[L_extract,drop_at s k hlt,show j+1 - k=(j - (k+1)+1)+1 from by omega,List.take_succ_cons,List.take_succ_eq_append_getElem (by simp[size_L];omega),List.getElem_drop];simp only[show k+1+(j - (k+1))=j from by omega];rfl
      have Hex:=zH hex;clear hex;by_cases hil:i < s.size
      ·rw[drop_at s i hil]at hq3
       by_cases h59:(s[i].toNat:Int)=59
       ·have hq4:=hq3.out
        rw[skipSc,if_pos h59,<-drop_at s i hil]at hq4;have H4:=zH hq4;clear hq3 hq4;have h59e:((s[i].toNat:Int) == 59)=true:=zE h59;have h59n:((s[i].toNat:Int) != 59)=false:=zQ h59;clear h59;go_wp2;go_roundg (s.size - i)
        case measure=>have:=hk.out;omega
        case rel=>exact⟨i,_,by unfold Hid;omega,rfl,rfl,by simp;omega,by unfold Hid;rw[<-H2.out.1,L_append,Hex.out,H2.out.2,<-H4.out];simp,n,rfl⟩
       have hq4:=hq3.out;rw[skipSc,if_neg h59]at hq4;have H4:=zH hq4;clear hq3 hq4;have h59e:((s[i].toNat:Int) == 59)=false:=zF h59;have h59n:((s[i].toNat:Int) != 59)=true:=zN h59;clear h59;go_wp2;go_roundg (gk - 1)
       case measure=>have:=hi.out;omega
       case rel=>exact⟨i+1,by have:=hi.out;unfold Hid;omega,by go_num,by omega,H4.out,rfl⟩
      rw[drop_end s i hil]at hq3;have H4:=zH hq3.out;clear hq3;go_wp2;go_roundg (s.size - i)
      case measure=>have:=hk.out;omega
      case rel=>exact⟨i,_,by unfold Hid;omega,rfl,rfl,by simp;omega,by unfold Hid;rw[<-H2.out.1,L_append,Hex.out,H2.out.2,drop_end s i hil,<-H4.out];simp[skipSc,emptied_nil],n,rfl⟩
     have hp1:=hp.out;rw[emptied_b1 s[k] _ _ s[j] hq1.symm h61]at hp1;have H2:=zH hp1;clear hp1 hq1 hq2 hq hp;have h61e:((s[j].toNat:Int) == 61)=false:=zF h61;have h61n:((s[j].toNat:Int) != 61)=true:=zN h61;clear h61;go_wp2_with (go_at_call 88;refine(c88 _ _).mono ?_;rintro e w'⟨rfl,rfl⟩;rw[H1.out]);go_roundg (s.size - (k+1))
     case measure=>have:=hk.out;omega
     case rel =>
      refine⟨k+1,_,by unfold Hid;omega,by go_num,rfl,?_,?_,n,rfl⟩
      ·simp;omega
      have:=H2.out;unfold Hid;rw[<-this,L_append,L_extract,drop_at s k hlt];simp
   have hp1:=hp.out;have hq1:=hq.out.1;rw[drop_end s j hjl]at hq1;rw[emptied_b2 s[k] _ hq1.symm]at hp1;have H2:=zH hp1;clear hp1 hq1 hq hp;go_wp2;go_roundg (s.size - (k+1))
   case measure=>have:=hk.out;omega
   case rel =>
    refine⟨k+1,_,by unfold Hid;omega,by go_num,rfl,?_,?_,n,rfl⟩
    ·simp;omega
    have:=H2.out;unfold Hid;rw[<-this,L_append,L_extract,drop_at s k hlt];simp
  rw[emptied_other _ _ hb]at hp;have hbe:((s[k].toNat:Int) == 98)=false:=zF hb;have hbn:((s[k].toNat:Int) != 98)=true:=zN hb;go_wp2;go_loopg [5] 0 (fun g v w'=>v=.int .i64 ((k:Int)+1)/\w'=w.drewN n)
  case atStart=>exact⟨rfl,rfl⟩
  obtain⟨rfl,rfl⟩:=hrel;go_wp2;go_roundg (s.size - (k+1))
  case measure=>have:=hk.out;omega
  case rel =>
   refine⟨k+1,_,by unfold Hid;omega,by go_num,rfl,?_,?_,n,rfl⟩
   ·simp;omega
   have:=hp.out;unfold Hid;rw[<-this,L_append,L_extract,drop_at s k hlt];simp
 rw[drop_end s k hlt]at hp;go_wp2;go_ret
 exact⟨ret_eq (str_eq (by rw[<-hp.out];simp[emptied_nil])),_,rfl⟩
section
variable {ops:Array Oper}{rest:List Oper}{o:Oper}{a:Act}{Q:Exit->Act->World->Prop}
theorem strCells_eq(s:ByteArray):Lib.strCells s=s.data.toList.map byteV:=by
 simp[Lib.strCells,byteV]
theorem wp_appS(hgd:o.guard=none)(sl x:Operand)(ho:o.op=.call { callee:=.builtin .append,args:=#[sl,x],argTypes:=#[33,9] })
  {w:World} {base:Nat} {v:Value} {l:List UInt8} (hs:a.eval sl=v) (how:Own w base 5 v (l.map byteV)) (hbs:base<=w.heap.size) (s:ByteArray) (hx:a.eval x=.string s)
  (hlen:l.length+s.size<=140737488355328)
  (h:∀v' w',Own w' base 5 v' ((l++s.data.toList).map byteV)->w.grownBy w' v.ownBlock->(∀w0,Below base w0 w->Below base w0 w')->wpList Tryz.prog ops Q rest (a.put o.dst v') w') :
  wpList Tryz.prog ops Q (o::rest) a w:=by
 obtain⟨i,hi,hz0,hz1,hz2⟩:=info_parts info5;refine Lib.wpList_append_own_string (P:=Tryz.prog) w hgd sl x 33 9 ho base 5 i Tryz.underlying33 Tryz.underlying9 hi hz0 hz1 hz2 v (l.map byteV).length (l.map byteV) hs how s hx (by simp[maxLen];omega) (by simpa using hlen) hbs ?_;intro v' w' h1 h2 h3;refine h v' w' ?_ h2 (fun w0 hb=>hb.grown h2 hbs fun k hk=>(World.ownsRow.lt how k hk).1);unfold Own;rw[strCells_eq,<-List.map_append]at h1
 simpa [size_L]using h1
end
def dropCRLF : List UInt8->List UInt8
 |c::d::l=>if(c.toNat:Int)=10/\(d.toNat:Int)=13 then dropCRLF l else c::d::l
 |l=>l
def bodyS(l:List UInt8):List UInt8:=(dropCRLF l.reverse).reverse
theorem bodyS_end(l:List UInt8):bodyS (l++[13,10])=bodyS l:=by
 unfold bodyS;rw[List.reverse_append];simp[dropCRLF]
theorem bodyS_stay(l:List UInt8)(c d:UInt8)(h:¬((d.toNat:Int)=13/\(c.toNat:Int)=10)):bodyS (l++[d,c])=l++[d,c]:=by
 unfold bodyS;rw[List.reverse_append];simp only[List.reverse_cons,List.reverse_nil,List.nil_append,List.cons_append];rw[dropCRLF,if_neg (by rw[And.comm];exact h)];simp
theorem bodyS_one(l:List UInt8)(h:l.length<=1):bodyS l=l:=by
 cases l with
 |nil=>rfl
 |cons c l =>
  have:l=[]:=by simpa using h
  subst this;rfl
theorem L_last2(s:ByteArray)(h:2<=s.size):s.data.toList=s.data.toList.take (s.size - 2)++(s.extract (s.size - 2) s.size).data.toList:=by
 rw[Lib.extract_to_end,List.take_append_drop]
theorem two_of(l:List UInt8)(h:l.length=2):∃c d,l=[c,d]:=by
 match l,h with
 |[c,d],_=>exact⟨c,d,rfl⟩
theorem ended_le(b:Bool)(l:List UInt8):(ended b l).length<=2*l.length:=by
 induction l generalizing b with
 |nil=>simp[ended]
 |cons c l ih =>
  unfold ended;split
  ·have:=ih false;simp;omega
  have:=ih ((c.toNat:Int) == 13);simp;omega
theorem c78s(f s:ByteArray)(w:World)(hf:f.data.toList=simpleL)(hs:s.size<=1073741824) :
  Calls Tryz.prog 78 #[.string f,.string s] w fun e w'=>e=.returned (.string (B (bodyS (ended false s.data.toList)++[13,10])))/\Below w.heap.size w w':=by
 have hfe:f.toList=[115,105,109,112,108,101]:=by rw[Lib.toList_data];exact hf
 have hle:(B (ended false s.data.toList)).size<=2147483648:=by have:=ended_le false s.data.toList;rw[size_L]at this;rw[size_B];omega
 obtain⟨s0,hs0⟩:∃s0,Hid (B (ended false s.data.toList)=s0):=⟨_,rfl⟩;have he0:Hid (ended false s.data.toList=s0.data.toList):=by unfold Hid;rw[<-hs0.out];rfl
 rw[hs0.out]at hle;rw[he0.out];clear hf;go_enter Tryz.func78,Tryz.ntmps78;go_wp2_with (go_at_call 121;refine(c121 _ _ (by omega)).mono ?_;rintro e w1⟨rfl,hb1⟩;rw[hs0.out]);go_loopg [5] s0.size (fun g v w'=>∃s1:ByteArray,Hid (s1.size=g)/\s1.size<=s0.size/\v=.string s1/\Hid (bodyS s1.data.toList=bodyS s0.data.toList)/\∃n,w'=w1.drewN n)
 case atStart=>exact⟨s0,rfl,zR _,rfl,rfl,0,rfl⟩
 obtain⟨s1,hk,hle1,rfl,hp,n,rfl⟩:=hrel;by_cases h2:2<=s1.size
 ·have hl:=L_last2 s1 h2
  by_cases hcr:(s1.extract (s1.size - 2) s1.size).data.toList=[13,10]
  ·rw[hcr]at hl
   have hq:Hid (bodyS (s1.data.toList.take (s1.size - 2))=bodyS s0.data.toList):=by have:=hp.out;rw[hl,bodyS_end]at this;exact this
   have hce:(s1.extract (s1.size - 2) s1.size).toList=[13,10]:=by rw[Lib.toList_data];exact hcr
   clear hp hl hcr;go_wp2;go_roundg (s1.size - 2)
   case measure=>have:=hk.out;omega
   case rel =>
    refine⟨_,?_,?_,rfl,?_,_,rfl⟩
    ·unfold Hid;simp
    ·simp;omega
    unfold Hid;rw[L_extract];exact hq.out
  have hq:Hid (bodyS s0.data.toList=s1.data.toList):=by
   obtain⟨c,d,hcd⟩:=two_of (s1.extract (s1.size - 2) s1.size).data.toList (by rw[size_L];simp;omega);have:=hp.out;rw[hcd]at hl hcr;rw[hl,bodyS_stay _ d c (by
    rintro⟨h1,h3⟩;apply hcr;rw[show c=13 from UInt8.toNat_inj.1 (by simpa using Int.ofNat.inj h1),show d=10 from UInt8.toNat_inj.1 (by simpa using Int.ofNat.inj h3)]),<-hl]at this
   exact this.symm
  have hce:((s1.extract (s1.size - 2) s1.size).toList == [13,10])=false:=by rw[Lib.toList_data];exact zF hcr
  clear hp hl hcr;go_wp2;go_ret
  exact⟨ret_eq (str_eq (by rw[hq.out,L_append])),below_drewN hb1 _⟩
 have hq:Hid (bodyS s0.data.toList=s1.data.toList):=by have:=hp.out;rw[bodyS_one _ (by rw[size_L];omega)]at this;exact this.symm
 go_wp2;go_ret
 exact⟨ret_eq (str_eq (by rw[hq.out,L_append])),below_drewN hb1 _⟩
def relaxed : Bool->List UInt8->List UInt8->List UInt8
 |_,_,[]=>[]
 |wt,ends,c::l =>
  if(c.toNat:Int)=32\/(c.toNat:Int)=9 then relaxed true ends l
  else if(c.toNat:Int)=13\/(c.toNat:Int)=10 then relaxed false (ends++[c]) l
  else ends++((if wt=true then[32]else[])++c::relaxed false [] l)
def bodyR(l:List UInt8):List UInt8:=if relaxed false [] l=[]then[]else relaxed false [] l++[13,10]
theorem c78r(f s:ByteArray)(w:World)(hf:¬f.data.toList=simpleL)(hs:s.size<=1073741824) :
  Calls Tryz.prog 78 #[.string f,.string s] w fun e w'=>e=.returned (.string (B (bodyR (ended false s.data.toList))))/\Below w.heap.size w w':=by
 have hfe:(f.toList == [115,105,109,112,108,101])=false:=by rw[Lib.toList_data];exact zF hf
 have hle:(B (ended false s.data.toList)).size<=2147483648:=by have:=ended_le false s.data.toList;rw[size_L]at this;rw[size_B];omega
 obtain⟨s0,hs0⟩:∃s0,Hid (B (ended false s.data.toList)=s0):=⟨_,rfl⟩;have he0:Hid (ended false s.data.toList=s0.data.toList):=by unfold Hid;rw[<-hs0.out];rfl
 rw[hs0.out]at hle;rw[he0.out];clear hf;go_enter Tryz.func78,Tryz.ntmps78;go_wp2_with (go_at_call 121;refine(c121 _ _ (by omega)).mono ?_;rintro e w1⟨rfl,hb1⟩;rw[hs0.out]);go_loopg [6,7,8,9] s0.size (fun g v wt en i w'=>∃k:Nat,∃out:List UInt8,∃b:Bool,∃en1:ByteArray,Hid (k+g=s0.size)/\i=.int .i64 k/\wt=.bool b/\en=.string en1/\Hid (out++relaxed b en1.data.toList (s0.data.toList.drop k)=relaxed false [] s0.data.toList)/\out.length+en1.size<=2*k/\Hid (Own w' w.heap.size 5 v (out.map byteV))/\Hid (Below w.heap.size w w'))
 case atStart=>exact⟨0,[],false,⟨#[]⟩,Nat.zero_add _,rfl,rfl,rfl,rfl,zR _,Own.nil _ _ _,hb1⟩
 obtain⟨k,out,b,en1,hk,rfl,rfl,rfl,hp,hle2,ho,hb⟩:=hrel;have hk':k<=s0.size:=by have:=hk.out;omega
 by_cases hlt:k < s0.size
 ·rw[drop_at s0 k hlt]at hp
  by_cases h1:(s0[k].toNat:Int)=32\/(s0[k].toNat:Int)=9
  ·have hp1:=hp.out
   rw[relaxed,if_pos h1]at hp1;have H1:=zH hp1;clear hp hp1;rcases h1 with h1|h1;all_goals
    go_wp2;go_roundg (gk - 1)
    case measure=>have:=hk.out;omega
    case rel=>exact⟨k+1,out,true,en1,by have:=hk.out;unfold Hid;omega,by go_num,rfl,rfl,H1,by omega,ho,hb⟩
  by_cases h2:(s0[k].toNat:Int)=13\/(s0[k].toNat:Int)=10
  ·have hp1:=hp.out
   rw[relaxed,if_neg h1,if_pos h2]at hp1;have H1:=zH hp1;clear hp hp1 h1;rcases h2 with h2|h2;all_goals
    go_wp2;go_roundg (gk - 1)
    case measure=>have:=hk.out;omega
    case rel=>exact⟨k+1,out,false,_,by have:=hk.out;unfold Hid;omega,by go_num,rfl,rfl,by unfold Hid;rw[L_append,L_extract,drop_at s0 k hlt];simpa using H1.out,by simp;omega,ho,hb⟩
  have hp1:=hp.out;rw[relaxed,if_neg h1,if_neg h2]at hp1;have H1:=zH hp1;clear hp hp1;obtain⟨q1,q2,q3,q4⟩:¬(s0[k].toNat:Int)=32/\¬(s0[k].toNat:Int)=9/\¬(s0[k].toNat:Int)=13/\¬(s0[k].toNat:Int)=10:=by omega
  clear h1 h2;have q1e:((s0[k].toNat:Int) == 32)=false:=zF q1;have q1n:((s0[k].toNat:Int) != 32)=true:=zN q1;have q2e:((s0[k].toNat:Int) == 9)=false:=zF q2;have q2n:((s0[k].toNat:Int) != 9)=true:=zN q2;have q3e:((s0[k].toNat:Int) == 13)=false:=zF q3;have q3n:((s0[k].toNat:Int) != 13)=true:=zN q3;have q4e:((s0[k].toNat:Int) == 10)=false:=zF q4;have q4n:((s0[k].toNat:Int) != 10)=true:=zN q4;cases b with
  |true =>
   go_wp2_with (first
    |(at_builtin;refine wp_appS rfl (.tmp 43) (.tmp 44) rfl rfl ho.out hb.out.size en1 rfl (by omega) ?_;intro v1 w1 ho1 hg1 hb1)
    |(at_builtin;refine wp_app1 Tryz.underlying33 info5 rfl rfl (.tmp 47) (.tmp 48) rfl rfl ho1 (hb1 _ hb.out).size (byteV 32) rfl rfl (by simp[size_L];omega) (by decide) ?_;intro v2 w2 ho2 hg2 hb2 hl2)
    |(at_builtin;refine wp_app1 Tryz.underlying33 info5 rfl rfl (.tmp 50) (.tmp 52) rfl rfl ho2 (hb2 _ (hb1 _ hb.out)).size (byteV s0[k]) rfl rfl (by simp[size_L];omega) (by decide) ?_;intro v3 w3 ho3 hg3 hb3 hl3))
   go_roundg (gk - 1)
   case measure=>have:=hk.out;omega
   case rel=>exact⟨k+1,out++en1.data.toList++[32,s0[k]],false,_,by have:=hk.out;unfold Hid;omega,by go_num,rfl,rfl,by unfold Hid;rw[<-H1.out];simp,by show _+0<=_;simp only[zA,List.length_cons,List.length_nil,size_L];omega,by unfold Hid;simpa [byteV]using ho3,hb3 _ (hb2 _ (hb1 _ hb.out))⟩
  |false =>
   go_wp2_with (first
    |(at_builtin;refine wp_appS rfl (.tmp 43) (.tmp 44) rfl rfl ho.out hb.out.size en1 rfl (by omega) ?_;intro v1 w1 ho1 hg1 hb1)
    |(at_builtin;refine wp_app1 Tryz.underlying33 info5 rfl rfl (.tmp 50) (.tmp 52) rfl rfl ho1 (hb1 _ hb.out).size (byteV s0[k]) rfl rfl (by simp[size_L];omega) (by decide) ?_;intro v3 w3 ho3 hg3 hb3 hl3))
   go_roundg (gk - 1)
   case measure=>have:=hk.out;omega
   case rel=>exact⟨k+1,out++en1.data.toList++[s0[k]],false,_,by have:=hk.out;unfold Hid;omega,by go_num,rfl,rfl,by unfold Hid;rw[<-H1.out];simp,by show _+0<=_;simp only[zA,List.length_cons,List.length_nil,size_L];omega,by unfold Hid;simpa [byteV]using ho3,hb3 _ (hb1 _ hb.out)⟩
 rw[drop_end s0 k hlt]at hp;have hr:Hid (relaxed false [] s0.data.toList=out):=by unfold Hid;rw[<-hp.out];simp[relaxed]
 have hcv:=run_str ho.out;obtain⟨A,c,hv,hcap,_⟩:=ho.out.slice;rw[List.length_map]at hv hcap;subst hv;have hsz:(B out).size<=4294967296:=by rw[size_B];omega
 rcases Nat.eq_zero_or_pos out.length with h0|h0
 ·have hz:((out.length:Int) == 0)=true:=by rw[h0];rfl
  have H0:=zH h0;clear h0;go_wp2;go_ret
  have:out=[]:=List.eq_nil_of_length_eq_zero H0.out;exact⟨ret_eq (str_eq (by rw[bodyR,hr.out,this];rfl)),hb.out⟩
 have hz:((out.length:Int) == 0)=false:=by rw[beq_eq_false_iff_ne];omega
 go_wp2;go_ret
 exact⟨ret_eq (str_eq (by rw[bodyR,hr.out,if_neg (by intro h;rw[h]at h0;simp at h0),L_append,L_B])),hb.out⟩
def digits : Int->List UInt8->Option Int
 |n,[]=>some n
 |n,c::l=>if(c.toNat:Int) < 48\/57 < (c.toNat:Int)then none else if(9223372036854775808 - ((c.toNat:Int) - 48)) / 10 < n then none else digits (n*10+((c.toNat:Int) - 48)) l
def wholeR(m:Bool)(r:List UInt8):Option Int :=
 if r=[]then none else match digits 0 r with
  |none=>none
  |some v=>if m=true then some (-v)else if v=9223372036854775808 then none else some v
def whole : List UInt8->Option Int
 |[]=>none
 |c::l=>if(c.toNat:Int)=45 then wholeR true l else if(c.toNat:Int)=43 then wholeR false l else wholeR false (c::l)
theorem neg_back(x:Int)(h0:0<=x)(h1:x<=9223372036854775808):wrap64 (IntKind.u64.wrap (-x))=(some (-x)).getD 0:=by
 rw[Option.getD_some,IntKind.wrap_u64];unfold wrap64;omega
theorem c34(s:ByteArray)(w:World)(hs:s.size<=1073741824) :
  Calls Tryz.prog 34 #[.string s] w fun e w'=>e=.returned (.tuple #[.int .i64 ((whole (strip s.data.toList)).getD 0),.bool (whole (strip s.data.toList)).isSome])/\Below w.heap.size w w':=by
 obtain⟨s1,h1⟩:∃s1,Hid (B (strip s.data.toList)=s1):=⟨_,rfl⟩;have hsl:Hid (strip s.data.toList=s1.data.toList):=by unfold Hid;rw[<-h1.out];rfl
 have hs1:s1.size<=1073741824:=by have:=strip_le s.data.toList;rw[size_L]at this;rw[<-h1.out,size_B];omega
 rw[hsl.out];by_cases hz:0 < s1.size
 ·have he:=isEmpty_pos hz
  have hL:=L_at0 s1 hz;by_cases h45:(s1[0].toNat:Int)=45\/(s1[0].toNat:Int)=43
  ·have hL1:s1.data.toList.drop 1=(s1.extract 1 s1.size).data.toList:=(Lib.extract_to_end s1 1).symm
   have hM0:∃m,Hid (m=((s1[0].toNat:Int) == 45))/\Hid (whole s1.data.toList=wholeR m (s1.extract 1 s1.size).data.toList):=by
    refine⟨_,rfl,?_⟩;unfold Hid;rw[hL,whole,<-hL1];rcases h45 with h|h
    ·simp[h]
    simp[h]
   obtain⟨m,hm,HM⟩:=hM0;have hsz:(s1.extract 1 s1.size).size=s1.size - 1:=by simp
   have Hsz:=zH hsz;clear hsz hL hL1;by_cases hN:(s1.extract 1 s1.size).data.toList=[]
   ·have hLe:(s1.extract 1 s1.size).toList=[]:=by rw[Lib.toList_data];exact hN
    have h01:¬0 < s1.size - 1:=by
     have h:=congrArg List.length hN;rw[size_L]at h;have h2:=Hsz.out;simp only[List.length_nil]at h;omega
    have HN:=zH hN;clear hN hm;rcases h45 with h45|h45;all_goals
     go_enter Tryz.func34,Tryz.ntmps34;go_wp2_with (go_at_call 50;refine(c50 _ _ (by omega)).mono ?_;rintro e w1⟨rfl,hb1⟩;rw[h1.out]);go_loopg [6,7] 0 (fun g n i w'=>n=.int .u64 0/\i=.int .i64 0/\w'=w1)
     case atStart=>exact⟨rfl,rfl,rfl⟩
     obtain⟨rfl,rfl,rfl⟩:=hrel;go_wp2;go_ret2
     exact⟨tup2 (int_eq (by rw[HM.out,wholeR,if_pos HN.out];rfl)) (bool_eq (by rw[HM.out,wholeR,if_pos HN.out];rfl)),hb1⟩
   have HN:=zH hN;clear hN;rcases h45 with h45|h45
   ·have hmt:m=true:=by rw[hm.out,h45];rfl
    rw[hmt]at HM;clear hm hmt;go_enter Tryz.func34,Tryz.ntmps34;go_wp2_with (go_at_call 50;refine(c50 _ _ (by omega)).mono ?_;rintro e w1⟨rfl,hb1⟩;rw[h1.out]);have hs2:(s1.extract 1 s1.size).size<=1073741824:=by have:=Hsz.out;omega
    clear Hsz;generalize s1.extract 1 s1.size=s2 at *
    have hS0:Hid (digits 0 (s2.data.toList.drop 0)=digits 0 s2.data.toList):=rfl;go_loopg [6,7] s2.size (fun g n i w'=>∃x:Int,∃k:Nat,Hid (k+g=s2.size)/\n=.int .u64 x/\0<=x/\x<=9223372036854775808/\i=.int .i64 k/\Hid (digits x (s2.data.toList.drop k)=digits 0 s2.data.toList)/\w'=w1)
    case atStart=>exact⟨0,0,Nat.zero_add _,rfl,by omega,by omega,rfl,hS0,rfl⟩
    obtain⟨x,k,hk,rfl,hx0,hx1,rfl,hp,rfl⟩:=hrel;have hk':k<=s2.size:=by have:=hk.out;omega
    by_cases hlt:k < s2.size
    ·rw[drop_at s2 k hlt]at hp
     have hp1:=hp.out;rw[digits]at hp1;by_cases hd:(s2[k].toNat:Int) < 48\/57 < (s2[k].toNat:Int)
     ·rw[if_pos hd]at hp1
      have H1:=zH hp1;clear hp1 hp;rcases hd with hd|hd;all_goals
       go_wp2;go_ret2
       exact⟨tup2 (int_eq (by rw[HM.out,wholeR,if_neg HN.out,<-H1.out];rfl)) (bool_eq (by rw[HM.out,wholeR,if_neg HN.out,<-H1.out];rfl)),hb1⟩
     rw[if_neg hd]at hp1;obtain⟨hd1,hd2⟩:48<=(s2[k].toNat:Int)/\(s2[k].toNat:Int)<=57:=by omega
     clear hd;by_cases hbig:(9223372036854775808 - ((s2[k].toNat:Int) - 48)) / 10 < x
     ·rw[if_pos hbig]at hp1
      have H1:=zH hp1;clear hp1 hp;go_wp2;go_ret2
      exact⟨tup2 (int_eq (by rw[HM.out,wholeR,if_neg HN.out,<-H1.out];rfl)) (bool_eq (by rw[HM.out,wholeR,if_neg HN.out,<-H1.out];rfl)),hb1⟩
     rw[if_neg hbig]at hp1;have H1:=zH hp1;clear hp1 hp;go_wp2;go_roundg (gk - 1)
     case measure=>have:=hk.out;omega
     case rel=>exact⟨_,k+1,by have:=hk.out;unfold Hid;omega,rfl,by omega,by omega,by go_num,H1,rfl⟩
    rw[drop_end s2 k hlt]at hp;have hne:=isEmpty_pos (s:=s2) (by have:=HN.out;have h2:=size_L s2;rcases Nat.eq_zero_or_pos s2.size with h0|h0;exact absurd (nil_of_size h0) this;exact h0);have hdx:Hid (digits 0 s2.data.toList=some x):=hp.out.symm;clear hp;go_wp2;go_ret2
    exact⟨tup2 (int_eq (by rw[HM.out,wholeR,if_neg HN.out,hdx.out];exact neg_back x hx0 hx1)) (bool_eq (by rw[HM.out,wholeR,if_neg HN.out,hdx.out];rfl)),hb1⟩
   have hmt:m=false:=by rw[hm.out,h45];rfl
   rw[hmt]at HM;clear hm hmt;go_enter Tryz.func34,Tryz.ntmps34;go_wp2_with (go_at_call 50;refine(c50 _ _ (by omega)).mono ?_;rintro e w1⟨rfl,hb1⟩;rw[h1.out]);have hs2:(s1.extract 1 s1.size).size<=1073741824:=by have:=Hsz.out;omega
   clear Hsz;generalize s1.extract 1 s1.size=s2 at *
   have hS0:Hid (digits 0 (s2.data.toList.drop 0)=digits 0 s2.data.toList):=rfl;go_loopg [6,7] s2.size (fun g n i w'=>∃x:Int,∃k:Nat,Hid (k+g=s2.size)/\n=.int .u64 x/\0<=x/\x<=9223372036854775808/\i=.int .i64 k/\Hid (digits x (s2.data.toList.drop k)=digits 0 s2.data.toList)/\w'=w1)
   case atStart=>exact⟨0,0,Nat.zero_add _,rfl,by omega,by omega,rfl,hS0,rfl⟩
   obtain⟨x,k,hk,rfl,hx0,hx1,rfl,hp,rfl⟩:=hrel;have hk':k<=s2.size:=by have:=hk.out;omega
   by_cases hlt:k < s2.size
   ·rw[drop_at s2 k hlt]at hp
    have hp1:=hp.out;rw[digits]at hp1;by_cases hd:(s2[k].toNat:Int) < 48\/57 < (s2[k].toNat:Int)
    ·rw[if_pos hd]at hp1
     have H1:=zH hp1;clear hp1 hp;rcases hd with hd|hd;all_goals
      go_wp2;go_ret2
      exact⟨tup2 (int_eq (by rw[HM.out,wholeR,if_neg HN.out,<-H1.out];rfl)) (bool_eq (by rw[HM.out,wholeR,if_neg HN.out,<-H1.out];rfl)),hb1⟩
    rw[if_neg hd]at hp1;obtain⟨hd1,hd2⟩:48<=(s2[k].toNat:Int)/\(s2[k].toNat:Int)<=57:=by omega
    clear hd;by_cases hbig:(9223372036854775808 - ((s2[k].toNat:Int) - 48)) / 10 < x
    ·rw[if_pos hbig]at hp1
     have H1:=zH hp1;clear hp1 hp;go_wp2;go_ret2
     exact⟨tup2 (int_eq (by rw[HM.out,wholeR,if_neg HN.out,<-H1.out];rfl)) (bool_eq (by rw[HM.out,wholeR,if_neg HN.out,<-H1.out];rfl)),hb1⟩
    rw[if_neg hbig]at hp1;have H1:=zH hp1;clear hp1 hp;go_wp2;go_roundg (gk - 1)
    case measure=>have:=hk.out;omega
    case rel=>exact⟨_,k+1,by have:=hk.out;unfold Hid;omega,rfl,by omega,by omega,by go_num,H1,rfl⟩
   rw[drop_end s2 k hlt]at hp;have hne:=isEmpty_pos (s:=s2) (by have:=HN.out;have h2:=size_L s2;rcases Nat.eq_zero_or_pos s2.size with h0|h0;exact absurd (nil_of_size h0) this;exact h0);have hdx:Hid (digits 0 s2.data.toList=some x):=hp.out.symm;clear hp;by_cases hm:x=9223372036854775808
   ·have hme:(x == 9223372036854775808)=true:=zE hm
    have Hm:=zH hm;clear hm;go_wp2;go_ret2
    exact⟨tup2 (int_eq (by rw[HM.out,wholeR,if_neg HN.out,hdx.out];simp[Hm.out])) (bool_eq (by rw[HM.out,wholeR,if_neg HN.out,hdx.out];simp[Hm.out])),hb1⟩
   have hme:(x == 9223372036854775808)=false:=zF hm;have hx2:x<=9223372036854775807:=by omega
   have Hm:=zH hm;clear hm;go_wp2;go_ret2
   exact⟨tup2 (int_eq (by rw[HM.out,wholeR,if_neg HN.out,hdx.out];simp[Hm.out])) (bool_eq (by rw[HM.out,wholeR,if_neg HN.out,hdx.out];simp[Hm.out])),hb1⟩
  have HN:Hid (¬s1.data.toList=[]):=by unfold Hid;rw[hL];simp
  have HM:Hid (whole s1.data.toList=wholeR false s1.data.toList):=by
   unfold Hid;rw[hL,whole,if_neg (by omega),if_neg (by omega),<-hL]
  clear hL;obtain⟨h45,h43⟩:¬(s1[0].toNat:Int)=45/\¬(s1[0].toNat:Int)=43:=by omega
  have h45e:((s1[0].toNat:Int) == 45)=false:=zF h45;have h45n:((s1[0].toNat:Int) != 45)=true:=zN h45;have h43e:((s1[0].toNat:Int) == 43)=false:=zF h43;have h43n:((s1[0].toNat:Int) != 43)=true:=zN h43;go_enter Tryz.func34,Tryz.ntmps34;go_wp2_with (go_at_call 50;refine(c50 _ _ (by omega)).mono ?_;rintro e w1⟨rfl,hb1⟩;rw[h1.out]);have hS0:Hid (digits 0 (s1.data.toList.drop 0)=digits 0 s1.data.toList):=rfl;go_loopg [6,7] s1.size (fun g n i w'=>∃x:Int,∃k:Nat,Hid (k+g=s1.size)/\n=.int .u64 x/\0<=x/\x<=9223372036854775808/\i=.int .i64 k/\Hid (digits x (s1.data.toList.drop k)=digits 0 s1.data.toList)/\w'=w1)
  case atStart=>exact⟨0,0,Nat.zero_add _,rfl,by omega,by omega,rfl,hS0,rfl⟩
  obtain⟨x,k,hk,rfl,hx0,hx1,rfl,hp,rfl⟩:=hrel;have hk':k<=s1.size:=by have:=hk.out;omega
  by_cases hlt:k < s1.size
  ·rw[drop_at s1 k hlt]at hp
   have hp1:=hp.out;rw[digits]at hp1;by_cases hd:(s1[k].toNat:Int) < 48\/57 < (s1[k].toNat:Int)
   ·rw[if_pos hd]at hp1
    have H1:=zH hp1;clear hp1 hp;rcases hd with hd|hd;all_goals
     go_wp2;go_ret2
     exact⟨tup2 (int_eq (by rw[HM.out,wholeR,if_neg HN.out,<-H1.out];rfl)) (bool_eq (by rw[HM.out,wholeR,if_neg HN.out,<-H1.out];rfl)),hb1⟩
   rw[if_neg hd]at hp1;obtain⟨hd1,hd2⟩:48<=(s1[k].toNat:Int)/\(s1[k].toNat:Int)<=57:=by omega
   clear hd;by_cases hbig:(9223372036854775808 - ((s1[k].toNat:Int) - 48)) / 10 < x
   ·rw[if_pos hbig]at hp1
    have H1:=zH hp1;clear hp1 hp;go_wp2;go_ret2
    exact⟨tup2 (int_eq (by rw[HM.out,wholeR,if_neg HN.out,<-H1.out];rfl)) (bool_eq (by rw[HM.out,wholeR,if_neg HN.out,<-H1.out];rfl)),hb1⟩
   rw[if_neg hbig]at hp1;have H1:=zH hp1;clear hp1 hp;go_wp2;go_roundg (gk - 1)
   case measure=>have:=hk.out;omega
   case rel=>exact⟨_,k+1,by have:=hk.out;unfold Hid;omega,rfl,by omega,by omega,by go_num,H1,rfl⟩
  rw[drop_end s1 k hlt]at hp;have hne:=isEmpty_pos (s:=s1) (by have:=HN.out;have h2:=size_L s1;rcases Nat.eq_zero_or_pos s1.size with h0|h0;exact absurd (nil_of_size h0) this;exact h0);have hdx:Hid (digits 0 s1.data.toList=some x):=hp.out.symm;clear hp;by_cases hm:x=9223372036854775808
  ·have hme:(x == 9223372036854775808)=true:=zE hm
   have Hm:=zH hm;clear hm;go_wp2;go_ret2
   exact⟨tup2 (int_eq (by rw[HM.out,wholeR,if_neg HN.out,hdx.out];simp[Hm.out])) (bool_eq (by rw[HM.out,wholeR,if_neg HN.out,hdx.out];simp[Hm.out])),hb1⟩
  have hme:(x == 9223372036854775808)=false:=zF hm;have hx2:x<=9223372036854775807:=by omega
  have Hm:=zH hm;clear hm;go_wp2;go_ret2
  exact⟨tup2 (int_eq (by rw[HM.out,wholeR,if_neg HN.out,hdx.out];simp[Hm.out])) (bool_eq (by rw[HM.out,wholeR,if_neg HN.out,hdx.out];simp[Hm.out])),hb1⟩
 have he:=toList_nil (s:=s1) (by omega);have HM:Hid (whole s1.data.toList=none):=by unfold Hid;rw[nil_of_size (s:=s1) (by omega)];rfl
 go_enter Tryz.func34,Tryz.ntmps34;go_wp2_with (go_at_call 50;refine(c50 _ _ (by omega)).mono ?_;rintro e w1⟨rfl,hb1⟩;rw[h1.out]);go_loopg [6,7] 0 (fun g n i w'=>n=.int .u64 0/\i=.int .i64 0/\w'=w1)
 case atStart=>exact⟨rfl,rfl,rfl⟩
 obtain⟨rfl,rfl,rfl⟩:=hrel;go_wp2;go_ret2
 exact⟨tup2 (int_eq (by rw[HM.out];rfl)) (bool_eq (by rw[HM.out];rfl)),hb1⟩
end Go.Proofs.YtnkihlpmmfeioaaGreatDoor
