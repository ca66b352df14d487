/- Part of the proof that laws.FnDVerifies answers true: A41 -/
import Derived.Test.YtnkihlpmmfeioaaGreatDoorZ10
set_option linter.unusedVariables false
set_option linter.unusedSimpArgs false
set_option maxRecDepth 1000000
set_option maxHeartbeats 16000000
namespace Go.Proofs.YtnkihlpmmfeioaaGreatDoor
open Go.RowKit
def noCR(l:List UInt8):List UInt8:=l.filter fun c=>decide (¬(c.toNat:Int)=13) && decide (¬(c.toNat:Int)=10)
theorem noCR_cons(x:UInt8)(l:List UInt8):noCR (x::l)=if(x.toNat:Int)=13\/(x.toNat:Int)=10 then noCR l else x::noCR l:=by
 unfold noCR;rw[List.filter_cons];by_cases h1:(x.toNat:Int)=13
 ·simp[h1]
 by_cases h2:(x.toNat:Int)=10
 ·simp[h2]
 simp[h1,h2]
theorem RdB.drop{w:World}{A:Option Addr}{n c:Nat}{l:List UInt8}{k:Nat}(h:RdB w (.slice A n c) l)(hk:k < c)(hkl:k<=n):∀A',(∀g off,A=some ⟨g,off,none⟩->A'=some ⟨g,off+k,none⟩)->RdB w (.slice A' (n - k) (c - k)) (l.drop k):=by
 intro A' hA';obtain⟨A0,c0,he,hc,hA⟩:=h;injection he with h1 h2 h3
 subst h1 h2 h3;refine⟨A',c - k,by rw[List.length_drop],by rw[List.length_drop];omega,fun hp=>?_⟩;rw[List.length_drop]at hp;obtain⟨g,off,rfl,hcl⟩:=hA (by omega);refine⟨g,off+k,hA' g off rfl,fun i x hx=>?_⟩;rw[List.getElem?_drop]at hx;rw[Nat.add_assoc];exact hcl _ x hx
theorem RdB.ptr{w:World}{A:Option Addr}{n c:Nat}{l:List UInt8}(h:RdB w (.slice A n c) l)(hp:0 < l.length):∃g off,A=some ⟨g,off,none⟩/\∀(i:Nat) (x:UInt8),l[i]?=some x->w.cell? ⟨g,off+i,none⟩=some (byteV x):=by
 obtain⟨A0,c0,he,hc,hA⟩:=h;injection he with h1 h2 h3
 subst h1;exact hA hp
theorem four{l:List UInt8}(h:4<=l.length):∃a b c d t,l=a::b::c::d::t:=by
 match l,h with
 |a::b::c::d::t,_=>exact⟨a,b,c,d,t,rfl⟩
theorem unb64N_nil(f:Nat):unb64N f []=some []:=by cases f <;> rfl
theorem Src.b3(w:World)(n:Int)(h0:0<=n)(h1:n < 16777216)(m:Nat)(hm:m<=3):Src Tryz.prog 1 33 (.slice (some ⟨w.heap.size,0,none⟩) m 3) m (byteVs ((bytes3 n).take m)) (w.alloc (.cells #[.int .u8 (n / 65536),.int .u8 (n / 256 % 256),.int .u8 (n % 256)] 5)):=by
 refine Src.ofSlice _ Tryz.underlying33 _ _ _ _ (by rw[byteVs_len,List.length_take];simp[bytes3];omega) (fun j u hj=>?_) (byteVs_one _);have hjl:=(List.getElem?_eq_some_iff.1 hj).1;rw[byteVs_len]at hjl;rw[byteVs_at (zG hjl)]at hj;injection hj with hj
 subst hj;exact bytes3_cells w n h0 h1 m j _ (zG hjl)
theorem or64(n v:Int)(h0:0<=n)(h1:n < 1099511627776)(h2:0<=v)(h3:v < 64):bits .or .u64 (n*64) v=n*64+v:=by
 obtain⟨a,rfl⟩:=Int.eq_ofNat_of_zero_le h0;obtain⟨b,rfl⟩:=Int.eq_ofNat_of_zero_le h2;have hb:b < 2 ^ 6:=by omega
 show IntKind.u64.wrap ((BitVec.ofInt 64 ((a:Int)*64) ||| BitVec.ofInt 64 (b:Int)).toNat:Int)=_;rw[show((a:Int)*64)=((a*64:Nat):Int)by simp,BitVec.ofInt_natCast,BitVec.ofInt_natCast,BitVec.toNat_or,BitVec.toNat_ofNat,BitVec.toNat_ofNat,Nat.mod_eq_of_lt (by omega),Nat.mod_eq_of_lt (by omega),
  show a*64=a <<< 6 by rw[Nat.shiftLeft_eq],<-Nat.shiftLeft_add_eq_or_of_lt hb,IntKind.wrap_u64,Nat.shiftLeft_eq]
 omega
theorem b64v_pad(c:UInt8)(h:(c.toNat:Int)=61):b64v c=-1:=by
 unfold b64v;repeat' split
 all_goals first|omega|rfl
def DecAt(w':World)(base:Nat)(v err:Value):Option (List UInt8)->Prop
 |some r=>err=.nilIface/\OwnB w' base v r
 |none=>∃m,ErrS w' err m/\m.size<=100
theorem c138(s:ByteArray)(w:World)(hs:s.size<=1073741824) :
  Calls Tryz.prog 138 #[.string s] w fun e w'=>∃v err,e=.returned (.tuple #[v,err])/\DecAt w' w.heap.size v err (unb64 (noCR s.data.toList))/\Below w.heap.size w w':=by
 obtain⟨R,hR⟩:∃R,Hid (unb64 (noCR s.data.toList)=R):=⟨_,rfl⟩;rw[hR.out];go_enter Tryz.func138,Tryz.ntmps138;go_upto_region 2 with(go_at_call 93;refine(c93 _ _).mono ?_;rintro e w1⟨rfl,rfl⟩)
 obtain⟨bad,hbad,hbs⟩:∃bad:ByteArray,Hid (bad=⟨#[105,108,108,101,103,97,108,32,98,97,115,101,54,52,32,100,97,116,97]⟩)/\Hid (bad.size<=100):=⟨_,rfl,by unfold Hid;decide⟩;rw[<-hbad.out];have hErr:Hid (∀w',Below (w.alloc (.cells #[.string bad] 237)).heap.size (w.alloc (.cells #[.string bad] 237)) w'->ErrS w' (.iface 235 (.pointer (some ⟨w.heap.size,0,none⟩))) bad):=fun w' h =>
  ⟨_,rfl,(h.cell (p:=⟨w.heap.size,0,none⟩) (by simp)).trans (by rw[cells_row];rfl)⟩
 have hB1:Hid (Below w.heap.size w (w.alloc (.cells #[.string bad] 237))):=(zB _ _).alloc (zR _) _;generalize w.alloc (.cells #[.string bad] 237)=W1 at *
 clear hbad;obtain⟨gE,hgE⟩:∃gE,Hid (w.heap.size=gE):=⟨_,rfl⟩;rw[hgE.out]at hErr ⊢;obtain⟨C,hC⟩:∃C,Hid (noCR s.data.toList=C):=⟨_,rfl⟩;rw[hC.out]at hR;have hCl:Hid (C.length<=s.size):=by unfold Hid;rw[<-hC.out,<-size_L];exact List.length_filter_le _ _
 go_wp2;go_loopg [5,6] s.size (fun g v j w'=>∃k:Nat,∃out:List UInt8,Hid (k+g=s.size)/\k<=s.size/\j=.int .i64 (k:Int)/\Hid (out++noCR (s.data.toList.drop k)=C)/\Hid (out.length<=k)/\Hid (OwnB w' W1.heap.size v out)/\Hid (Below W1.heap.size W1 w'))
 case atStart=>exact⟨0,[],Nat.zero_add _,Nat.zero_le _,rfl,hC,zR _,OwnB.nil _ _,zB _ _⟩
 obtain⟨k,out,hk,hks,rfl,hq,hol,ho,hb⟩:=hrel;by_cases hlt:k < s.size
 ·have hq2:=hq.out
  rw[drop_at s k hlt,noCR_cons]at hq2;by_cases h13:(s[k].toNat:Int)=13
  ·rw[if_pos (.inl h13)]at hq2
   have HQ:=zH hq2;have n1:((s[k].toNat:Int) != 13)=false:=zQ h13;clear hq hq2 h13;go_wp2;go_roundg (gk - 1)
   case measure=>have:=hk.out;omega
   case rel=>exact⟨k+1,out,by have:=hk.out;unfold Hid;omega,by omega,by go_num,HQ,by have:=hol.out;unfold Hid;omega,ho,hb⟩
  have n1:((s[k].toNat:Int) != 13)=true:=zN h13;by_cases h10:(s[k].toNat:Int)=10
  ·rw[if_pos (.inr h10)]at hq2
   have HQ:=zH hq2;have n2:((s[k].toNat:Int) != 10)=false:=zQ h10;clear hq hq2 h13 h10;go_wp2;go_roundg (gk - 1)
   case measure=>have:=hk.out;omega
   case rel=>exact⟨k+1,out,by have:=hk.out;unfold Hid;omega,by omega,by go_num,HQ,by have:=hol.out;unfold Hid;omega,ho,hb⟩
  rw[if_neg (fun h=>h.elim h13 h10)]at hq2;have HQ:=zH hq2;have n2:((s[k].toNat:Int) != 10)=true:=zN h10;clear hq hq2 h13 h10;go_wp2_with (at_builtin;refine wp_appb rfl (.tmp 30) (.tmp 34) rfl s[k] rfl rfl ho.out (by have:=hol.out;omega) hb.out.size ?_;intro v2 w2 hO2 hg2 hb2 hl2;have hb3:=hb2 W1 hb.out);go_roundg (gk - 1)
  case measure=>have:=hk.out;omega
  case rel=>exact⟨k+1,out++[s[k]],by have:=hk.out;unfold Hid;omega,by omega,by go_num,by unfold Hid;rw[List.append_assoc];exact HQ.out,by have:=hol.out;unfold Hid;simp;omega,hO2,hb3⟩
 have hq2:=hq.out;rw[drop_end s k hlt,show noCR []=[]from rfl,List.append_nil]at hq2;subst hq2;obtain⟨A,c,rfl,hc,hcm,_⟩:=ho.out.slice;unfold maxLen at hcm;have hrd:=zH ho.out.rdB;have hCb:out.length<=1073741824:=by have:=hCl.out;omega
 have hB2:=zH (bthen hB1.out hb.out);obtain⟨W2,hW2⟩:∃W2:World,W2=wr:=⟨_,rfl⟩;rw[<-hW2]at hrd hb hB2 ⊢;clear hq ho hW2;by_cases h4:out.length % 4=0
 ·have n1:((out.length:Int) % 4 != 0)=false:=zQ (by omega)
  have hR2:Hid ((unb64N out.length out).map (([]:List UInt8)++·)=R):=by
   unfold Hid;have:=hR.out;rw[unb64,if_pos h4]at this;rw[this];cases R <;> simp
  have H4:=zH h4;clear h4;go_wp2;have hO0:Hid (OwnB (W2.alloc (.cells #[] 5)) W2.heap.size (.slice (some ⟨W2.heap.size,0,none⟩) 0 0) []):=OwnB.new W2 _ (zR _) #[] 5 [] 0 0 rfl (zR _) rfl (by simp) (fun i c h=>by simp at h);have hb0:Hid (Below W2.heap.size W2 (W2.alloc (.cells #[] 5))):=(zB _ _).alloc (zR _) _;go_loopg [5,7] out.length (fun g v v7 w'=>∃rest res:List UInt8,∃A c,v=.slice A rest.length c/\Hid (RdB W2 (.slice A rest.length c) rest)/\rest.length<=c/\c<=2 ^ 63 - 1/\Hid (rest.length % 4=0/\rest.length<=g)/\Hid (res.length+rest.length<=out.length)/\Hid ((unb64N g rest).map (res++·)=R)/\Hid (OwnB w' W2.heap.size v7 res)/\Hid (Below W2.heap.size W2 w'))
  case atStart=>exact⟨out,[],A,c,rfl,hrd,hc,hcm,⟨H4.out,zR _⟩,by unfold Hid;simp,hR2,hO0,hb0⟩
  clear hrd hO0 hb0 hc hcm hR2;obtain⟨rest,res,A,c,rfl,hrd,hc,hcm,hrl,hresl,hq,ho,hbw⟩:=hrel;by_cases hne:rest=[]
  ·subst hne
   have hq2:=hq.out;rw[unb64N_nil,Option.map_some,List.append_nil]at hq2;obtain rfl:=hq2;clear hq;go_wp2;go_ret2
   exact⟨_,_,rfl,⟨rfl,ho.out.mono (by have:=hB2.out.size;have:=hgE.out;omega)⟩,bthen hB2.out hbw.out⟩
  have hr4:4<=rest.length:=by
   have:=hrl.out.1;have:rest.length≠0:=fun h=>hne (List.eq_nil_of_length_eq_zero h)
   omega
  obtain⟨c0,c1,c2,c3,t,rfl⟩:=four hr4;obtain⟨g,off,rfl,hcl⟩:=hrd.out.ptr (by simp);obtain⟨f,hf⟩:∃f,gk=f+1:=⟨gk - 1,by have:=hrl.out.2;simp at this;omega⟩;have hq2:=hq.out;rw[hf,unb64N,if_neg (by simp)]at hq2;obtain⟨last,hlast⟩:∃last,Hid (decide ((c0::c1::c2::c3::t).length<=4)=last):=⟨_,rfl⟩;rw[hlast.out,show(c0::c1::c2::c3::t).take 4=[c0,c1,c2,c3]from rfl,show(c0::c1::c2::c3::t).drop 4=t from rfl]at hq2;obtain⟨F,hF⟩:∃F,Hid (foldQ last 0 [c0,c1,c2,c3] 0 0=F):=⟨_,rfl⟩;rw[hF.out]at hq2;obtain⟨q,hqq⟩:∃q,Hid ([c0,c1,c2,c3]=q):=⟨_,rfl⟩;rw[hqq.out]at hF;obtain⟨L,hL⟩:∃L,Hid ((c0::c1::c2::c3::t).length=L):=⟨_,rfl⟩;have hcq:Hid (∀(i:Nat) (x:UInt8),q[i]?=some x->wr.cell? ⟨g,off+i,none⟩=some (byteV x)):=fun i x hx=>by
   have hx2:(c0::c1::c2::c3::t)[i]?=some x:=by
    rw[<-hqq.out]at hx
    match i,hx with
    |0,hx=>exact hx
    |1,hx=>exact hx
    |2,hx=>exact hx
    |3,hx=>exact hx
    |n+4,hx=>simp at hx
   have h1:=hcl i x hx2;exact(hbw.out.cell (cell_lt h1)).trans h1
  have HQ:=zH hq2;have HF1:=zH hf;rw[hL.out]at hc hlast hr4 hrd hrl hresl ⊢;clear hq hq2 hf hcl hne;obtain⟨wo,hwo⟩:∃wo:World,wo=wr:=⟨_,rfl⟩;rw[<-hwo]at ho hbw hcq ⊢;clear hwo;have hL4:decide (0 < L)=true:=decide_eq_true (by omega);have hL5:0 < L:=by omega
  go_wp2;go_loopg [8,9,10] 4 (fun g vn vd vi w'=>∃n1 d1:Int,∃e1 k1:Nat,vn=.int .u64 n1/\0<=n1/\Hid (n1 < pw k1)/\vd=.int .i64 d1/\Hid (d1=if e1=0 then 4 else(k1:Int) - (e1:Int))/\e1<=k1 - 2/\vi=.int .i64 (k1:Int)/\k1<=4/\Hid (k1+g=4)/\Hid (foldQ last k1 (q.drop k1) n1 e1=F)/\Hid (Below wo.heap.size wo w'))
  case atStart=>exact⟨0,4,0,0,rfl,Int.le_refl _,by unfold Hid;decide,rfl,rfl,by omega,rfl,by omega,rfl,hF,zB _ _⟩
  clear hF;obtain⟨n1,d1,e1,k1,rfl,hn0,hn1,rfl,hd1,he1,rfl,hk4,hkg,hfq,hb3⟩:=hrel;by_cases hk:k1 < 4
  ·have hql:q.length=4:=by rw[<-hqq.out];rfl
   have hkq:k1 < q.length:=by omega
   obtain⟨ck,hck⟩:∃ck,Hid (q[k1]=ck):=⟨q[k1],zH rfl⟩;have hqk:=zG hkq;rw[hck.out]at hqk;have qc0:=hcq.out k1 ck hqk;have qc:=(hb3.out.cell (cell_lt qc0)).trans qc0;unfold byteV at qc;have hfq2:=hfq.out;rw[List.drop_eq_getElem_cons hkq,hck.out]at hfq2;have HFQ:=zH hfq2;have hv0:=(b64v_lt ck).1;have hv1:=(b64v_lt ck).2;have hkI:(k1:Int) < 4:=by omega
   have HQK:=zH hqk;clear hfq hfq2 hqk qc0 hql;obtain⟨w3,hw3⟩:∃w3:World,w3=wr:=⟨_,rfl⟩;rw[<-hw3]at hb3 qc ⊢;clear hw3;have hcQ:=zH qc;clear qc;go_wp2;go_loopg [11,12] 64 (fun g v x w'=>∃(v1:Int) (x1:Nat),v=.int .i64 v1/\Hid (v1=if 0<=b64v ck/\b64v ck < x1 then b64v ck else -1)/\x=.int .i64 x1/\x1<=64/\Hid (x1+g=64)/\Hid (Below w3.heap.size w3 w'))
   case atStart=>exact⟨-1,0,rfl,by unfold Hid;rw[if_neg (by omega)],rfl,by omega,rfl,zB _ _⟩
   obtain⟨v,x,rfl,hv,rfl,hx,hxg,hb4⟩:=hrel;have qc:=(hb4.out.cell (cell_lt hcQ.out)).trans hcQ.out;by_cases hx4:x < 64
   ·have hsg:=signs_eq x hx4 ck
    by_cases hbv:b64v ck=(x:Int)
    ·rw[decide_eq_true hbv]at hsg
     have Hbv:=zH hbv;clear hbv;go_upto_region 21 with fail
     have z1:(0:Int)<=(x:Int):=by omega
     have z2:(x:Int) < 64:=by omega
     have z3:(0:Int)<=(k1:Int):=by omega
     have z4:(k1:Int) < (L:Int):=by omega
     go_quiet (fail)
     go_wp2;go_roundg (gk - 1)
     case measure=>have:=hxg.out;omega
     case rel=>exact⟨x,x+1,rfl,by unfold Hid;have:=Hbv.out;rw[if_pos (by omega)];exact this.symm,by go_num,by omega,by have:=hxg.out;unfold Hid;omega,below_drewN hb4.out _⟩
    rw[decide_eq_false hbv]at hsg;have Hbv:=zH hbv;clear hbv;go_upto_region 21 with fail
    have z1:(0:Int)<=(x:Int):=by omega
    have z2:(x:Int) < 64:=by omega
    have z3:(0:Int)<=(k1:Int):=by omega
    have z4:(k1:Int) < (L:Int):=by omega
    go_quiet (fail)
    go_wp2;go_roundg (gk - 1)
    case measure=>have:=hxg.out;omega
    case rel=>exact⟨v,x+1,rfl,by unfold Hid;have h1:=Hbv.out;rw[hv.out];split <;> split <;> omega,by go_num,by omega,by have:=hxg.out;unfold Hid;omega,below_drewN hb4.out _⟩
   have hv':v=b64v ck:=by rw[hv.out];split <;> omega
   have hBall:=zH (bthen hb3.out hb4.out);have hqc2:=zH qc;clear hv hb3 hb4 qc hcQ;have qc:=hqc2.out;have qc3:=(hBall.out.cell (cell_lt (hcq.out 3 c3 (by rw[<-hqq.out];rfl)))).trans (hcq.out 3 c3 (by rw[<-hqq.out];rfl));unfold byteV at qc3;have hfq2:=HFQ.out;by_cases hneg:b64v ck < 0
   ·have hvn:v < 0:=by omega
    by_cases h61:(ck.toNat:Int)=61
    ·have m61:((ck.toNat:Int) != 61)=false:=zQ h61
     by_cases hk2:1 < k1
     ·have hk2I:¬(k1:Int) < 2:=by omega
      cases hls:last with
      |true =>
       have hL4':L=4:=by have:=hlast.out;rw[hls,decide_eq_true_iff]at this;omega
       have hLI:¬(4:Int) < (L:Int):=by omega
       by_cases hlook:k1=2/\¬(c3.toNat:Int)=61
       ·have hFn:F=none:=by
         rw[<-hfq2,hls,foldQ,if_pos ⟨h61,hk2,rfl⟩,hlook.1,<-hqq.out];show foldQ true 3 [c3] _ _=none;rw[foldQ,if_neg (fun h=>hlook.2 h.1),if_pos (.inr (by omega))]
        have k2e:((k1:Int) == 2)=true:=zE (by omega);have m3:((c3.toNat:Int) != 61)=true:=zN hlook.2;clear hfq2 hneg h61 hls hlook hv' hL4';obtain rfl:R=none:=by have:=HQ.out;rw[hFn]at this;exact this.symm
        clear hFn;go_wp2;all_goals (go_ret2;exact⟨_,_,rfl,⟨bad,hErr.out _ (bthen hb.out (bthen hbw.out hBall.out)),hbs.out⟩,bthen hB2.out (bthen hbw.out hBall.out)⟩)
       have HF2:Hid (foldQ last (k1+1) (q.drop (k1+1)) (n1*64) (e1+1)=F):=by
        unfold Hid;rw[<-hfq2,hls,foldQ,if_pos ⟨h61,hk2,rfl⟩]
       have hn2:n1 < 262144:=by have:=hn1.out;have:=pw_le k1 hk;omega
       have hd2:d1=4\/d1<=(k1:Int):=by have:=hd1.out;split at this <;> omega
       by_cases hk22:k1=2
       ·have m3:((c3.toNat:Int) != 61)=false:=zQ (Classical.byContradiction fun h=>hlook ⟨hk22,h⟩)
        have k2e:((k1:Int) == 2)=true:=zE (by omega);clear hfq2 hneg h61 hls hlook hv' hL4' hk22;go_wp2;all_goals
         rw[or64 n1 0 hn0 (by omega) (by omega) (by omega),Int.add_zero];have hp:=hn1.out;have hk3:=hkg.out;go_roundg (3 - k1)
         case measure=>omega
         case rel =>
          refine⟨n1*64,_,e1+1,k1+1,rfl,by omega,by unfold Hid;rw[pw];omega,rfl,?_,by omega,by go_num,by omega,by unfold Hid;omega,HF2,hBall⟩;have:=hd1.out;unfold Hid;rw[if_neg (by omega)];split at this <;> omega
       have k2e:((k1:Int) == 2)=false:=zF (by omega);clear hfq2 hneg h61 hls hlook hv' hL4' hk22;go_wp2;all_goals
        rw[or64 n1 0 hn0 (by omega) (by omega) (by omega),Int.add_zero];have hp:=hn1.out;have hk3:=hkg.out;go_roundg (3 - k1)
        case measure=>omega
        case rel =>
         refine⟨n1*64,_,e1+1,k1+1,rfl,by omega,by unfold Hid;rw[pw];omega,rfl,?_,by omega,by go_num,by omega,by unfold Hid;omega,HF2,hBall⟩;have:=hd1.out;unfold Hid;rw[if_neg (by omega)];split at this <;> omega
      |false =>
       have hFn:F=none:=by
        rw[<-hfq2,hls,foldQ,if_neg (fun h=>by simp at h),if_pos (.inl hneg)]
       have hLI:(4:Int) < (L:Int):=by have:=hlast.out;rw[hls,decide_eq_false_iff_not]at this;omega
       clear hfq2 hneg h61 hls hv';obtain rfl:R=none:=by have:=HQ.out;rw[hFn]at this;exact this.symm
       clear hFn;go_wp2;all_goals (go_ret2;exact⟨_,_,rfl,⟨bad,hErr.out _ (bthen hb.out (bthen hbw.out hBall.out)),hbs.out⟩,bthen hB2.out (bthen hbw.out hBall.out)⟩)
     have hFn:F=none:=by
      rw[<-hfq2,foldQ,if_neg (fun h=>hk2 h.2.1),if_pos (.inl hneg)]
     have hk2I:(k1:Int) < 2:=by omega
     clear hfq2 hneg h61 hk2 hv';obtain rfl:R=none:=by have:=HQ.out;rw[hFn]at this;exact this.symm
     clear hFn;go_wp2;all_goals (go_ret2;exact⟨_,_,rfl,⟨bad,hErr.out _ (bthen hb.out (bthen hbw.out hBall.out)),hbs.out⟩,bthen hB2.out (bthen hbw.out hBall.out)⟩)
    have hFn:F=none:=by
     rw[<-hfq2,foldQ,if_neg (fun h=>h61 h.1),if_pos (.inl hneg)]
    have m61:((ck.toNat:Int) != 61)=true:=zN h61;clear hfq2 hneg h61 hv';obtain rfl:R=none:=by have:=HQ.out;rw[hFn]at this;exact this.symm
    clear hFn;go_wp2;all_goals (go_ret2;exact⟨_,_,rfl,⟨bad,hErr.out _ (bthen hb.out (bthen hbw.out hBall.out)),hbs.out⟩,bthen hB2.out (bthen hbw.out hBall.out)⟩)
   have hvn:¬v < 0:=by omega
   have h61:¬(ck.toNat:Int)=61:=fun h=>by
    have:=b64v_pad ck h;omega
   by_cases he0:0 < e1
   ·have hFn:F=none:=by
     rw[<-hfq2,foldQ,if_neg (fun h=>h61 h.1),if_pos (.inr he0)]
    have hd4:d1 < 4:=by have:=hd1.out;rw[if_neg (by omega)]at this;omega
    clear hfq2 hneg h61 hv';obtain rfl:R=none:=by have:=HQ.out;rw[hFn]at this;exact this.symm
    clear hFn;go_wp2;all_goals (go_ret2;exact⟨_,_,rfl,⟨bad,hErr.out _ (bthen hb.out (bthen hbw.out hBall.out)),hbs.out⟩,bthen hB2.out (bthen hbw.out hBall.out)⟩)
   obtain rfl:e1=0:=by omega
   have hd4:¬d1 < 4:=by have:=hd1.out;rw[if_pos rfl]at this;omega
   have HF2:Hid (foldQ last (k1+1) (q.drop (k1+1)) (n1*64+v) 0=F):=by
    unfold Hid;rw[<-hfq2,foldQ,if_neg (fun h=>h61 h.1),if_neg (fun h=>h.elim hneg (by omega)),hv']
   have hn2:n1 < 262144:=by have:=hn1.out;have:=pw_le k1 hk;omega
   have hv2:v < 64:=by omega
   have hv3:0<=v:=by omega
   have hd5:Hid (d1=4):=by have:=hd1.out;rw[if_pos rfl]at this;exact this
   clear hfq2 hneg h61 hv' he0;go_wp2;rw[or64 n1 v hn0 (by omega) hv3 hv2];have hp:=hn1.out;have hk3:=hkg.out;go_roundg (3 - k1)
   case measure=>omega
   case rel=>exact⟨n1*64+v,d1,0,k1+1,rfl,by omega,by unfold Hid;rw[pw];omega,rfl,by unfold Hid;rw[if_pos rfl];exact hd5.out,by omega,by go_num,by omega,by unfold Hid;omega,HF2,hBall⟩
  have hk44:k1=4:=by omega
  have hfq2:=hfq.out;rw[hk44,<-hqq.out,show[c0,c1,c2,c3].drop 4=[]from rfl,foldQ]at hfq2;have hQ2:=HQ.out;rw[<-hfq2]at hQ2;have hn24:n1 < 16777216:=by have:=hn1.out;rw[hk44]at this;simpa [pw]using this
  have hkI:¬(k1:Int) < 4:=by omega
  have hd2:=hd1.out;rw[hk44]at hd2;have HQ2:Hid (Option.map (res++·) (Option.map ((bytes3 n1).take (3 - e1)++·) (unb64N f t))=R):=hQ2;have htl:Hid (t.length+4=L):=by unfold Hid;rw[<-hL.out];simp
  have hoW:=zH (ho.out.below hb3.out);have hbW:=zH (bthen hbw.out hb3.out);have he3:e1=0\/e1=1\/e1=2:=by omega
  have hd3:Hid (d1=4 - (e1:Int)):=by unfold Hid;rw[hd2];split <;> omega
  clear hfq2 hQ2 hfq hd2 hd1 hn1 he1;by_cases hc4:c=4
  ·obtain rfl:L=4:=by omega
   obtain rfl:t=[]:=List.eq_nil_of_length_eq_zero (by have:=htl.out;omega);subst hc4;rcases he3 with rfl|rfl|rfl
   ·obtain rfl:d1=4:=by have:=hd3.out;omega
    go_wp2_with (at_builtin;refine wp_appB (tx:=33) (n:=3) (m:=(bytes3 n1).take 3) rfl (.tmp 99) (.tmp 111) rfl rfl rfl (hoW.out.alloc _) (Src.b3 wr n1 hn0 hn24 3 (by decide)) (by have:=hresl.out;rw[List.length_take];simp[bytes3];omega) (by have:=hbW.out.size;simp;omega) ?_;intro v5 w5 hO5 hg5 hb5 hl5;have hb6:=hb5 W2 (hbW.out.alloc hbW.out.size _);clear hb5 hg5 hl5);go_roundg f
    case measure=>have:=HF1.out;omega
    case rel =>
     refine⟨[],res++(bytes3 n1).take 3,_,_,rfl,?_,?_,?_,?_,?_,?_,hO5,hb6⟩
     ·exact⟨_,0,rfl,zR _,fun h=>by simp at h⟩
     ·exact zR _
     ·omega
     ·have h1:=hrl.out;have:=HF1.out;unfold Hid;simp at h1 ⊢;try omega
     ·have:=hresl.out;unfold Hid;rw[zA,List.length_take];simp[bytes3]at this ⊢;try omega
     have h1:=HQ2.out;unfold Hid;rw[<-h1,Option.map_map];congr 1
     funext z
     simp
   ·obtain rfl:d1=3:=by have:=hd3.out;omega
    go_wp2_with (at_builtin;refine wp_appB (tx:=33) (n:=2) (m:=(bytes3 n1).take 2) rfl (.tmp 99) (.tmp 111) rfl rfl rfl (hoW.out.alloc _) (Src.b3 wr n1 hn0 hn24 2 (by decide)) (by have:=hresl.out;rw[List.length_take];simp[bytes3];omega) (by have:=hbW.out.size;simp;omega) ?_;intro v5 w5 hO5 hg5 hb5 hl5;have hb6:=hb5 W2 (hbW.out.alloc hbW.out.size _);clear hb5 hg5 hl5);go_roundg f
    case measure=>have:=HF1.out;omega
    case rel =>
     refine⟨[],res++(bytes3 n1).take 2,_,_,rfl,?_,?_,?_,?_,?_,?_,hO5,hb6⟩
     ·exact⟨_,0,rfl,zR _,fun h=>by simp at h⟩
     ·exact zR _
     ·omega
     ·have h1:=hrl.out;have:=HF1.out;unfold Hid;simp at h1 ⊢;try omega
     ·have:=hresl.out;unfold Hid;rw[zA,List.length_take];simp[bytes3]at this ⊢;try omega
     have h1:=HQ2.out;unfold Hid;rw[<-h1,Option.map_map];congr 1
     funext z
     simp
   obtain rfl:d1=2:=by have:=hd3.out;omega
   go_wp2_with (at_builtin;refine wp_appB (tx:=33) (n:=1) (m:=(bytes3 n1).take 1) rfl (.tmp 99) (.tmp 111) rfl rfl rfl (hoW.out.alloc _) (Src.b3 wr n1 hn0 hn24 1 (by decide)) (by have:=hresl.out;rw[List.length_take];simp[bytes3];omega) (by have:=hbW.out.size;simp;omega) ?_;intro v5 w5 hO5 hg5 hb5 hl5;have hb6:=hb5 W2 (hbW.out.alloc hbW.out.size _);clear hb5 hg5 hl5);go_roundg f
   case measure=>have:=HF1.out;omega
   case rel =>
    refine⟨[],res++(bytes3 n1).take 1,_,_,rfl,?_,?_,?_,?_,?_,?_,hO5,hb6⟩
    ·exact⟨_,0,rfl,zR _,fun h=>by simp at h⟩
    ·exact zR _
    ·omega
    ·have h1:=hrl.out;have:=HF1.out;unfold Hid;simp at h1 ⊢;try omega
    ·have:=hresl.out;unfold Hid;rw[zA,List.length_take];simp[bytes3]at this ⊢;try omega
    have h1:=HQ2.out;unfold Hid;rw[<-h1,Option.map_map];congr 1
    funext z
    simp
  obtain rfl:L=t.length+4:=htl.out.symm;have hc5:4 < c:=by omega
  have hc5I:(4:Int) < (c:Int):=by omega
  rcases he3 with rfl|rfl|rfl
  ·obtain rfl:d1=4:=by have:=hd3.out;omega
   go_wp2_with (at_builtin;refine wp_appB (tx:=33) (n:=3) (m:=(bytes3 n1).take 3) rfl (.tmp 99) (.tmp 111) rfl rfl rfl (hoW.out.alloc _) (Src.b3 wr n1 hn0 hn24 3 (by decide)) (by have:=hresl.out;rw[List.length_take];simp[bytes3];omega) (by have:=hbW.out.size;simp;omega) ?_;intro v5 w5 hO5 hg5 hb5 hl5;have hb6:=hb5 W2 (hbW.out.alloc hbW.out.size _);clear hb5 hg5 hl5);go_roundg f
   case measure=>have:=HF1.out;omega
   case rel =>
    refine⟨t,res++(bytes3 n1).take 3,_,_,rfl,?_,?_,?_,?_,?_,?_,hO5,hb6⟩
    ·have:=hrd.out.drop (k:=4) (by omega) (by omega) (some ⟨g,off+4,none⟩) (fun g' o' h=>by injection h with h;injection h with h1 h2;subst h1 h2;rfl)
     unfold Hid;simpa using this
    ·omega
    ·omega
    ·have h1:=hrl.out;have:=HF1.out;unfold Hid;simp at h1 ⊢;try omega
    ·have:=hresl.out;unfold Hid;rw[zA,List.length_take];simp[bytes3]at this ⊢;try omega
    have h1:=HQ2.out;unfold Hid;rw[<-h1,Option.map_map];congr 1
    funext z
    simp
  ·obtain rfl:d1=3:=by have:=hd3.out;omega
   go_wp2_with (at_builtin;refine wp_appB (tx:=33) (n:=2) (m:=(bytes3 n1).take 2) rfl (.tmp 99) (.tmp 111) rfl rfl rfl (hoW.out.alloc _) (Src.b3 wr n1 hn0 hn24 2 (by decide)) (by have:=hresl.out;rw[List.length_take];simp[bytes3];omega) (by have:=hbW.out.size;simp;omega) ?_;intro v5 w5 hO5 hg5 hb5 hl5;have hb6:=hb5 W2 (hbW.out.alloc hbW.out.size _);clear hb5 hg5 hl5);go_roundg f
   case measure=>have:=HF1.out;omega
   case rel =>
    refine⟨t,res++(bytes3 n1).take 2,_,_,rfl,?_,?_,?_,?_,?_,?_,hO5,hb6⟩
    ·have:=hrd.out.drop (k:=4) (by omega) (by omega) (some ⟨g,off+4,none⟩) (fun g' o' h=>by injection h with h;injection h with h1 h2;subst h1 h2;rfl)
     unfold Hid;simpa using this
    ·omega
    ·omega
    ·have h1:=hrl.out;have:=HF1.out;unfold Hid;simp at h1 ⊢;try omega
    ·have:=hresl.out;unfold Hid;rw[zA,List.length_take];simp[bytes3]at this ⊢;try omega
    have h1:=HQ2.out;unfold Hid;rw[<-h1,Option.map_map];congr 1
    funext z
    simp
  obtain rfl:d1=2:=by have:=hd3.out;omega
  go_wp2_with (at_builtin;refine wp_appB (tx:=33) (n:=1) (m:=(bytes3 n1).take 1) rfl (.tmp 99) (.tmp 111) rfl rfl rfl (hoW.out.alloc _) (Src.b3 wr n1 hn0 hn24 1 (by decide)) (by have:=hresl.out;rw[List.length_take];simp[bytes3];omega) (by have:=hbW.out.size;simp;omega) ?_;intro v5 w5 hO5 hg5 hb5 hl5;have hb6:=hb5 W2 (hbW.out.alloc hbW.out.size _);clear hb5 hg5 hl5);go_roundg f
  case measure=>have:=HF1.out;omega
  case rel =>
   refine⟨t,res++(bytes3 n1).take 1,_,_,rfl,?_,?_,?_,?_,?_,?_,hO5,hb6⟩
   ·have:=hrd.out.drop (k:=4) (by omega) (by omega) (some ⟨g,off+4,none⟩) (fun g' o' h=>by injection h with h;injection h with h1 h2;subst h1 h2;rfl)
    unfold Hid;simpa using this
   ·omega
   ·omega
   ·have h1:=hrl.out;have:=HF1.out;unfold Hid;simp at h1 ⊢;try omega
   ·have:=hresl.out;unfold Hid;rw[zA,List.length_take];simp[bytes3]at this ⊢;try omega
   have h1:=HQ2.out;unfold Hid;rw[<-h1,Option.map_map];congr 1
   funext z
   simp
 have n1:((out.length:Int) % 4 != 0)=true:=zN (by omega);obtain rfl:R=none:=by have:=hR.out;rw[unb64,if_neg h4]at this;exact this.symm
 clear h4;go_wp2;go_ret2
 exact⟨_,_,rfl,⟨bad,hErr.out _ hb.out,hbs.out⟩,hB2.out⟩
theorem noCR_strip(l:List UInt8):noCR (strip l)=strip l:=by
 induction l with
 |nil=>rfl
 |cons x l ih =>
  rw[strip_cons];by_cases hb:blank x=true
  ·rw[if_pos hb];exact ih
  rw[if_neg hb,noCR_cons,if_neg,ih];intro h;apply hb;rw[blank_iff];omega
theorem c138p(l:List UInt8)(w:World)(hs:(B l).size<=1073741824) :
  Calls Tryz.prog 138 #[.string (B l)] w fun e w'=>∃v err,e=.returned (.tuple #[v,err])/\DecAt w' w.heap.size v err (unb64 (noCR l))/\Below w.heap.size w w':=c138 (B l) w hs
theorem DecAt.mono{w:World}{b b':Nat}{v err:Value}{R:Option (List UInt8)}(h:DecAt w b v err R)(hb:b'<=b):DecAt w b' v err R:=by
 cases R with
 |none=>exact h
 |some r=>exact⟨h.1,h.2.mono hb⟩
theorem c104(s:ByteArray)(w:World)(hs:s.size<=1073741824)(hp:plainL s.data.toList) :
  Calls Tryz.prog 104 #[.string s] w fun e w'=>∃v err,e=.returned (.tuple #[v,err])/\DecAt w' w.heap.size v err (unb64 (strip s.data.toList))/\Below w.heap.size w w':=by
 have hl:=strip_le s.data.toList;have hlen:(B (strip s.data.toList)).size<=1073741824:=by rw[size_B];rw[size_L]at hl;omega
 have HP:=zH hp;clear hp hl;go_enter Tryz.func104,Tryz.ntmps104;go_wp2_with (first
  |(go_at_call 98;refine(c98 s _ hs HP.out).mono ?_;rintro e w1⟨rfl,hb1⟩)
  |(go_at_call 138;refine(c138p _ _ hlen).mono ?_;rintro e w2⟨v,err,rfl,hD,hb2⟩;rw[noCR_strip]at hD;have hbb:=bthen hb1 hb2;have hD2:=zH (hD.mono hb1.size);clear hD))
 go_ret2
 exact⟨_,_,rfl,hD2.out,hbb⟩
end Go.Proofs.YtnkihlpmmfeioaaGreatDoor
