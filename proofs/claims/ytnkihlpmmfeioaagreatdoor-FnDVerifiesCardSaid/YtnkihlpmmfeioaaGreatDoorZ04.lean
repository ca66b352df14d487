/- Part of the proof that laws.FnDVerifies answers true: A10,K1,K2 -/
import Derived.Deep.DeepCutAuto
import Derived.Deep.AppendSrc
import Derived.Deep.RegionLaw
import Derived.Test.YtnkihlpmmfeioaaGreatDoorZ03
set_option linter.unusedVariables false
set_option linter.unusedSimpArgs false
set_option maxRecDepth 1000000
set_option maxHeartbeats 16000000
namespace Go.Proofs.YtnkihlpmmfeioaaGreatDoor
open Go.RowKit
section
variable {ops:Array Oper}{rest:List Oper}{o:Oper}{a:Act}{Q:Exit->Act->World->Prop}
theorem wp_appR(hgd:o.guard=none)(sl x:Operand)(ho:o.op=.call { callee:=.builtin .append,args:=#[sl,x],argTypes:=#[33,33] })
  {w:World} {base:Nat} {v:Value} {l:List UInt8} (hs:a.eval sl=v) (how:Own w base 5 v (l.map byteV)) (hbs:base<=w.heap.size)
  (ad:Addr) (m c:Nat) (hx:a.eval x=.slice (some ad) m c) (l2:List UInt8) (hm:l2.length=m) (hcell:∀(j:Nat) (u:UInt8),l2[j]?=some u->w.cell? (ad.add j)=some (byteV u))
  (hlen:l.length+l2.length<=140737488355328)
  (h:∀v' w',Own w' base 5 v' ((l++l2).map byteV)->w.grownBy w' v.ownBlock->(∀w0,Below base w0 w->Below base w0 w')->(v'.ownBlock=v.ownBlock\/v'.ownBlock=some w.heap.size)->wpList Tryz.prog ops Q rest (a.put o.dst v') w') :
  wpList Tryz.prog ops Q (o::rest) a w:=by
 obtain⟨i,hi,hz0,hz1,hz2⟩:=info_parts info5;refine wpList_append_own_at (P:=Tryz.prog) w hgd sl x 33 ho base 5 i (.int .u8 0) 1 1 Tryz.underlying33 hi hz0 hz1 hz2 rfl (by decide) v (l.map byteV).length (l.map byteV) hs how
  ad m c (l2.map byteV) hx (by simp[hm]) (fun j u hu=>?_) (fun u hu=>?_) (by simp[maxLen];omega) (by simp;omega) hbs ?_
 ·rw[List.getElem?_map]at hu
  cases hj:l2[j]? with
  |none=>rw[hj]at hu;simp at hu
  |some y=>rw[hj]at hu;simp at hu;rw[<-hu];exact hcell j y hj
 ·obtain⟨y,_,rfl⟩:=List.mem_map.1 hu;rfl
 intro v' w' h1 h2 h3 h4;refine h v' w' ?_ h2 (fun w0 hb=>hb.grown h2 hbs fun k hk=>(World.ownsRow.lt how k hk).1) h4;unfold Own;rw[<-List.map_append]at h1
 simpa [hm]using h1
end
def b64v(c:UInt8):Int:=if 65<=(c.toNat:Int)/\(c.toNat:Int)<=90 then c.toNat - 65 else if 97<=(c.toNat:Int)/\(c.toNat:Int)<=122 then c.toNat - 71 else if 48<=(c.toNat:Int)/\(c.toNat:Int)<=57 then c.toNat+4 else if(c.toNat:Int)=43 then 62 else if(c.toNat:Int)=47 then 63 else -1
def foldQ(last:Bool):Nat->List UInt8->Int->Nat->Option (Int × Nat)
 |_,[],n,e=>some (n,e)
 |k,c::l,n,e=>if(c.toNat:Int)=61/\1 < k/\last=true then foldQ last (k+1) l (n*64) (e+1)else if b64v c < 0\/0 < e then none else foldQ last (k+1) l (n*64+b64v c) e
def b64n(c:Nat):Nat:=if 65<=c/\c<=90 then c - 65 else if 97<=c/\c<=122 then c - 71 else if 48<=c/\c<=57 then c+4 else if c=43 then 62 else if c=47 then 63 else 64
def signN(x:Nat):Nat:=if x < 26 then x+65 else if x < 52 then x+71 else if x < 62 then x - 4 else if x=62 then 43 else 47
theorem b64_sign(x c:Nat)(hx:x < 64):(signN x=c)↔(b64n c=x):=by
 unfold signN b64n;constructor
 ·intro h;subst h;repeat' split
  all_goals omega
 intro h;subst h;repeat' split at hx
 all_goals (repeat' split)
 all_goals omega
theorem signs_at : ∀x:Fin 64,((⟨#[65,66,67,68,69,70,71,72,73,74,75,76,77,78,79,80,81,82,83,84,85,86,87,88,89,90,97,98,99,100,101,102,103,104,105,106,107,108,109,110,111,112,113,114,115,116,117,118,119,120,121,122,48,49,50,51,52,53,54,55,56,57,43,47]⟩:ByteArray)[x.val]'(by have:=x.isLt;exact this)).toNat=signN x.val:=by decide +kernel
theorem b64v_n(c:UInt8):b64v c=if b64n c.toNat=64 then -1 else(b64n c.toNat:Int):=by
 have:=c.toNat_lt;unfold b64v b64n;repeat' split
 all_goals omega
theorem b64v_lt(c:UInt8):-1<=b64v c/\b64v c < 64:=by
 rw[b64v_n];unfold b64n;repeat' split
 all_goals omega
theorem signs_eq(x:Nat)(hx:x < 64)(c:UInt8):(((((⟨#[65,66,67,68,69,70,71,72,73,74,75,76,77,78,79,80,81,82,83,84,85,86,87,88,89,90,97,98,99,100,101,102,103,104,105,106,107,108,109,110,111,112,113,114,115,116,117,118,119,120,121,122,48,49,50,51,52,53,54,55,56,57,43,47]⟩:ByteArray)[x]'(show x < 64 from hx)).toNat:Nat):Int) == (c.toNat:Int))=decide (b64v c=(x:Int)):=by
 have h:=signs_at ⟨x,hx⟩;simp only at h;rw[h,b64v_n];have h2:=b64_sign x c.toNat hx;by_cases hc:signN x=c.toNat
 ·have h3:=h2.1 hc
  rw[if_neg (by omega),h3,hc];simp
 have h3:¬b64n c.toNat=x:=fun h4=>hc (h2.2 h4)
 have h4:((signN x:Int) == (c.toNat:Int))=false:=by rw[beq_eq_false_iff_ne];omega
 rw[h4];symm;rw[decide_eq_false_iff_not];split <;> omega
def byteI(x:Int):UInt8:=UInt8.ofNat x.toNat
theorem byteI_V(x:Int)(h0:0<=x)(h1:x < 256):byteV (byteI x)=.int .u8 x:=by
 unfold byteV byteI;congr 1;simp[UInt8.toNat_ofNat'];omega
def bytes3(n:Int):List UInt8:=[byteI (n / 65536),byteI (n / 256 % 256),byteI (n % 256)]
theorem bytes3_cells(w:World)(n:Int)(h0:0<=n)(h1:n < 16777216)(m:Nat):∀(j:Nat) (u:UInt8),((bytes3 n).take m)[j]?=some u->(w.alloc (.cells #[.int .u8 (n / 65536),.int .u8 (n / 256 % 256),.int .u8 (n % 256)] 5)).cell? ((⟨w.heap.size,0,none⟩:Addr).add j)=some (byteV u):=by
 intro j u hj;rw[List.getElem?_take]at hj;split at hj
 ·match j,hj with
  |0,hj=>simp[bytes3]at hj;subst hj;rw[byteI_V _ (by omega) (by omega)];simp[Addr.add]
  |1,hj=>simp[bytes3]at hj;subst hj;rw[byteI_V _ (by omega) (by omega)];simp[Addr.add]
  |2,hj=>simp[bytes3]at hj;subst hj;rw[byteI_V _ (by omega) (by omega)];simp[Addr.add]
  |n+3,hj=>simp[bytes3]at hj
 simp at hj
def unb64N : Nat->List UInt8->Option (List UInt8)
 |0,_=>some []
 |f+1,l=>if l=[]then some []else match foldQ (decide (l.length<=4)) 0 (l.take 4) 0 0 with
  |none=>none
  |some p=>(unb64N f (l.drop 4)).map ((bytes3 p.1).take (3 - p.2)++·)
def unb64(l:List UInt8):Option (List UInt8):=if l.length % 4=0 then unb64N l.length l else none
def pw : Nat->Int
 |0=>1
 |k+1=>64*pw k
theorem pw_le : ∀k,k < 4->pw k<=262144
 |0,_=>by simp[pw]
 |1,_=>by simp[pw]
 |2,_=>by simp[pw]
 |3,_=>by simp[pw]
theorem c76(s:ByteArray)(w:World)(hs:s.size<=1073741824) :
  Calls Tryz.prog 76 #[.string s] w fun e w'=>e=.returned (.tuple #[.string (B ((unb64 s.data.toList).getD [])),.bool (unb64 s.data.toList).isSome])/\Below w.heap.size w w':=by
 by_cases hm4:s.size % 4=0
 ·have hR:Hid (unb64 s.data.toList=unb64N s.size s.data.toList):=by unfold Hid unb64;rw[size_L,if_pos hm4]
  rw[hR.out];obtain⟨R,hR0⟩:∃R,Hid (unb64N s.size s.data.toList=R):=⟨_,rfl⟩;rw[hR0.out];have hm4i:((s.size:Int) % 4 != 0)=false:=by rw[bne_eq_false_iff_eq];omega
  go_enter Tryz.func76,Tryz.ntmps76;go_wp2;go_loopg [4,5] s.size (fun g v j w'=>∃i:Nat,∃out:List UInt8,j=.int .i64 i/\i<=s.size/\Hid (i % 4=0/\s.size - i<=g)/\Hid ((unb64N g (s.data.toList.drop i)).map (out++·)=R/\out.length<=i)/\Hid (Own w' w.heap.size 5 v (out.map byteV))/\Hid (Below w.heap.size w w'))
  case atStart=>exact⟨0,[],rfl,Nat.zero_le _,⟨rfl,by omega⟩,⟨by rw[List.drop_zero,hR0.out];cases R <;> simp,zR _⟩,Own.nil _ _ _,zB _ _⟩
  obtain⟨i,out,rfl,hi,him,hp,ho,hb⟩:=hrel;by_cases hlt:i < s.size
  ·have hi4:i+4<=s.size:=by have:=him.out.1;omega
   cases gk with
   |zero=>have:=him.out.2;omega
   |succ gm =>
    obtain⟨p1,p2⟩:=hp.out;have hlen:(s.data.toList.drop i).length=s.size - i:=by rw[List.length_drop,size_L]
    rw[unb64N,if_neg (by intro h;rw[h]at hlen;simp at hlen;omega),hlen]at p1;obtain⟨q,hq⟩:∃q,Hid ((s.data.toList.drop i).take 4=q):=⟨_,rfl⟩;rw[hq.out]at p1;have hql:q.length=4:=by rw[<-hq.out,List.length_take,hlen];omega
    have hqk:∀k,(h:k < 4)->q.drop k=s[i+k]'(by omega)::q.drop (k+1):=by
     intro k h;rw[List.drop_eq_getElem_cons (by omega)];congr 1
     simp only[<-hq.out,List.getElem_take,List.getElem_drop];rfl
    obtain⟨last,hlast⟩:∃last,Hid (decide (s.size - i<=4)=last):=⟨_,rfl⟩;rw[hlast.out]at p1;have hle:(((i:Int)+4) == (s.size:Int))=last:=by rw[<-hlast.out];by_cases h:s.size - i<=4 <;> simp[h] <;> omega
    obtain⟨F,hF⟩:∃F,Hid (foldQ last 0 q 0 0=F):=⟨_,rfl⟩;rw[hF.out]at p1;have H0:=zH (And.intro p1 p2);have Hqk:=zH hqk;have Hqn:=zH hql;clear p1 p2 hp hlen hqk hql;go_wp2;go_loopg [6,7,8] 4 (fun g n e k w'=>∃(n1:Int) (e1:Nat) (k1:Nat),n=.int .i64 n1/\0<=n1/\Hid (n1 < pw k1)/\e=.int .i64 e1/\e1<=k1 - 2/\k=.int .i64 k1/\k1<=4/\Hid (k1+g=4)/\Hid (foldQ last k1 (q.drop k1) n1 e1=F)/\w'=wr)
    case atStart=>exact⟨0,0,0,rfl,Int.le_refl _,by unfold Hid;decide,rfl,by omega,rfl,by omega,rfl,hF,rfl⟩
    obtain⟨n,e,k,rfl,hn0,hn1,rfl,he,rfl,hk,hkg,hf,rfl⟩:=hrel;by_cases hk4:k < 4
    ·have hik:i+k < s.size:=by omega
     have hn2:n < 262144:=by have:=hn1.out;have:=pw_le k hk4;omega
     rw[Hqk.out k hk4]at hf;have hv0:=(b64v_lt s[i+k]).1;have hv1:=(b64v_lt s[i+k]).2;go_wp2;go_loopg [10,11] 64 (fun g v x w'=>∃(v1:Int) (x1:Nat),v=.int .i64 v1/\Hid (v1=if 0<=b64v s[i+k]/\b64v s[i+k] < x1 then b64v s[i+k]else -1)/\x=.int .i64 x1/\x1<=64/\Hid (x1+g=64)/\w'=wr)
     case atStart=>exact⟨-1,0,rfl,by unfold Hid;rw[if_neg (by omega)],rfl,by omega,rfl,rfl⟩
     obtain⟨v,x,rfl,hv,rfl,hx,hxg,rfl⟩:=hrel;by_cases hx4:x < 64
     ·have hsg:=signs_eq x hx4 s[i+k]
      by_cases hbv:b64v s[i+k]=(x:Int)
      ·rw[decide_eq_true hbv]at hsg
       have Hbv:=zH hbv;clear hbv;go_wp2;go_roundg (gk - 1)
       case measure=>have:=hxg.out;omega
       case rel=>exact⟨x,x+1,rfl,by unfold Hid;have:=Hbv.out;rw[if_pos (by omega)];exact this.symm,by go_num,by omega,by have:=hxg.out;unfold Hid;omega,rfl⟩
      rw[decide_eq_false hbv]at hsg;have Hbv:=zH hbv;clear hbv;go_wp2;go_roundg (gk - 1)
      case measure=>have:=hxg.out;omega
      case rel=>exact⟨v,x+1,rfl,by unfold Hid;have h1:=Hbv.out;rw[hv.out];split <;> split <;> omega,by go_num,by omega,by have:=hxg.out;unfold Hid;omega,rfl⟩
     have hv':v=b64v s[i+k]:=by rw[hv.out];split <;> omega
     clear hv;by_cases hpad:(s[i+k].toNat:Int)=61/\1 < k/\last=true
     ·have hf1:=hf.out
      rw[foldQ,if_pos hpad]at hf1;have H1:=zH hf1;clear hf hf1;obtain⟨h61,hk1,hlt1⟩:=hpad;rw[hlt1]at hle;have Hv:=zH hv';clear hv' hlt1;go_wp2;go_roundg (3 - k)
      case measure=>have:=hkg.out;omega
      case rel =>
       refine⟨n*64,e+1,k+1,?_,by omega,?_,by go_num,by omega,by go_num,by omega,by unfold Hid;omega,H1,rfl⟩
       ·rfl
       have:=hn1.out;unfold Hid;rw[pw];omega
     have hf1:=hf.out;rw[foldQ,if_neg hpad]at hf1;have hor:¬(s[i+k].toNat:Int)=61\/¬1 < k\/last=false:=by
      rcases Classical.em ((s[i+k].toNat:Int)=61)with h|h
      ·rcases Classical.em (1 < k)with h2|h2
       ·right;right;cases hl:last with
        |false=>rfl
        |true=>exact absurd ⟨h,h2,hl⟩ hpad
       exact .inr (.inl h2)
      exact .inl h
     by_cases hbad:b64v s[i+k] < 0\/0 < e
     ·rw[if_pos hbad]at hf1
      have H1:=zH hf1;clear hf hf1 hpad;rw[<-hv']at hbad;have Hv:=zH hv';clear hv';have HR:Hid (none=R):=by have:=H0.out.1;rw[<-H1.out]at this;exact this
      rcases hor with h61|hk1|hl0
      ·have h61e:((s[i+k].toNat:Int) == 61)=false:=zF h61
       rcases hbad with hbad|hbad;all_goals
        go_wp2;all_goals (go_ret2;exact⟨tup2 (str_eq (by rw[<-HR.out];rfl)) (bool_eq (by rw[<-HR.out];rfl)),hb.out⟩)
      ·rcases hbad with hbad|hbad
       all_goals
        go_wp2;all_goals (go_ret2;exact⟨tup2 (str_eq (by rw[<-HR.out];rfl)) (bool_eq (by rw[<-HR.out];rfl)),hb.out⟩)
      rw[hl0]at hle;clear hl0;rcases hbad with hbad|hbad;all_goals
       go_wp2;all_goals (go_ret2;exact⟨tup2 (str_eq (by rw[<-HR.out];rfl)) (bool_eq (by rw[<-HR.out];rfl)),hb.out⟩)
     rw[if_neg hbad]at hf1;have H1:=zH hf1;clear hf hf1 hpad;rw[<-hv']at hbad;have hv2:v < 64:=by omega
     have hv3:0<=v:=by omega
     have he0:¬0 < e:=by omega
     have Hv:=zH hv';clear hv' hbad;rcases hor with h61|hk1|hl0
     ·have h61e:((s[i+k].toNat:Int) == 61)=false:=zF h61
      go_wp2;go_roundg (3 - k)
      case measure=>have:=hkg.out;omega
      case rel=>exact⟨n*64+v,e,k+1,rfl,by omega,by have:=hn1.out;unfold Hid;rw[pw];omega,rfl,by omega,by go_num,by omega,by unfold Hid;omega,by unfold Hid;rw[Hv.out];exact H1.out,rfl⟩
     ·go_wp2
      all_goals
       go_roundg (3 - k)
       case measure=>have:=hkg.out;omega
       case rel=>exact⟨n*64+v,e,k+1,rfl,by omega,by have:=hn1.out;unfold Hid;rw[pw];omega,rfl,by omega,by go_num,by omega,by unfold Hid;omega,by unfold Hid;rw[Hv.out];exact H1.out,rfl⟩
     rw[hl0]at hle;have Hl0:=zH hl0;clear hl0;go_wp2;all_goals
      go_roundg (3 - k)
      case measure=>have:=hkg.out;omega
      case rel=>exact⟨n*64+v,e,k+1,rfl,by omega,by have:=hn1.out;unfold Hid;rw[pw];omega,rfl,by omega,by go_num,by omega,by unfold Hid;omega,by unfold Hid;rw[Hv.out];exact H1.out,rfl⟩
    obtain rfl:k=4:=by omega
    have hn2:n < 16777216:=by have:=hn1.out;simp[pw]at this;omega
    go_wp2_with (at_builtin;refine wp_appR rfl (.tmp 65) (.tmp 77) rfl rfl (ho.out.alloc _) (by have:=hb.out.size;simp;omega) ⟨wr.heap.size,0,none⟩ (3 - e) 3 rfl ((bytes3 n).take (3 - e)) (by simp[bytes3]) (bytes3_cells wr n hn0 hn2 _) (by have:=H0.out.2;simp[bytes3];omega) ?_;intro v1 w1 ho1 hg1 hb1 hl1);have HR:Hid ((unb64N gm (s.data.toList.drop (i+4))).map ((out++(bytes3 n).take (3 - e))++·)=R):=by
     have h1:=H0.out.1;have h2:=hf.out;rw[List.drop_eq_nil_of_le (by rw[Hqn.out];exact zR _),foldQ]at h2;rw[<-h2]at h1;simp only[List.drop_drop]at h1;unfold Hid;rw[<-h1,Option.map_map];congr 1;funext x;simp
    go_roundg gm
    case measure=>omega
    case rel=>exact⟨i+4,out++(bytes3 n).take (3 - e),by go_num,hi4,⟨by have:=him.out.1;omega,by have:=him.out.2;omega⟩,⟨HR.out,by have:=H0.out.2;simp[bytes3];omega⟩,ho1,hb1 _ ((hb.out).alloc hb.out.size _)⟩
  have hp1:=hp.out.1;rw[drop_end s i hlt]at hp1;have hR1:Hid (some out=R):=by
   unfold Hid;rw[<-hp1];cases gk <;> simp[unb64N]
  clear hp hp1;have hcv:=run_str ho.out;go_wp2;go_ret2
  exact⟨tup2 (str_eq (by rw[<-hR1.out];rfl)) (bool_eq (by rw[<-hR1.out];rfl)),hb.out⟩
 have hm4i:((s.size:Int) % 4 != 0)=true:=by rw[bne_iff_ne];omega
 have hR:Hid (unb64 s.data.toList=none):=by unfold Hid unb64;rw[size_L,if_neg hm4]
 go_enter Tryz.func76,Tryz.ntmps76;go_wp2;go_ret2
 exact⟨tup2 (str_eq (by rw[hR.out];rfl)) (bool_eq (by rw[hR.out];rfl)),zB _ _⟩
def Blk(w:World)(g:Nat)(cs:Array Value)(e:TypeId):Prop:=w.heap[g]?=some (.cells cs e (0,0))
theorem Blk.cell{w:World}{g:Nat}{cs:Array Value}{e:TypeId}(h:Blk w g cs e)(k:Nat):w.cell? ⟨g,k,none⟩=cs[k]?:=cell_of_row w g k cs e _ h
theorem Blk.frozen{w:World}{g:Nat}{cs:Array Value}{e:TypeId}(h:Blk w g cs e)(k:Nat):w.frozen? ⟨g,k,none⟩=false:=frozen_of_row w g k cs e h
theorem Blk.lt{w:World}{g:Nat}{cs:Array Value}{e:TypeId}(h:Blk w g cs e):g < w.heap.size:=(Array.getElem?_eq_some_iff.1 h).1
theorem Blk.set_{w:World}{g:Nat}{cs:Array Value}{e:TypeId}(h:Blk w g cs e)(k:Nat)(u:Value):Blk (w.setCell ⟨g,k,none⟩ u) g (cs.setIfInBounds k u) e:=heap_setCell_same w g k cs e u h
theorem Blk.below{w w':World}{g:Nat}{cs:Array Value}{e:TypeId}(h:Blk w g cs e){b:Nat}(hb:Below b w w')(hg:g < b):Blk w' g cs e:=(hb.block g hg).trans h
theorem Blk.new(w:World)(cs:Array Value)(e:TypeId):Blk (w.alloc (.cells cs e)) w.heap.size cs e:=heap_alloc_new w _
theorem Blk.to{w:World}{g:Nat}{cs cs':Array Value}{e:TypeId}(h:Blk w g cs e)(hc:cs=cs'):Blk w g cs' e:=hc ▸ h
theorem grown_set(w:World)(g k:Nat)(u:Value):w.grownBy (w.setCell ⟨g,k,none⟩ u) (some g) :=
 ⟨rfl,rfl,rfl,by simp,fun j _ hj=>heap_setCell_other w ⟨g,k,none⟩ j u (fun e=>hj (by simp[e]))⟩
theorem below_set{a w:World}{g k:Nat}{u:Value}(h:Below a.heap.size a w)(hg:a.heap.size<=g):Below a.heap.size a (w.setCell ⟨g,k,none⟩ u) :=
 h.grown (grown_set w g k u) h.size fun j hj=>by injection hj with hj;omega
theorem belowB_set{b:Nat}{a w:World}{g k:Nat}{u:Value}(h:Below b a w)(hg:b<=g)(hb:b<=w.heap.size):Below b a (w.setCell ⟨g,k,none⟩ u) :=
 h.grown (grown_set w g k u) hb fun j hj=>by injection hj with hj;omega
theorem Blk.setNe{w:World}{g g' k:Nat}{u:Value}{cs:Array Value}{e:TypeId}(h:Blk w g cs e)(hg:g≠g'):Blk (w.setCell ⟨g',k,none⟩ u) g cs e :=
 (heap_setCell_other w ⟨g',k,none⟩ g u hg).trans h
theorem results_cell_tmp{fn:Func}{t u:Tmp}{e:TypeId}(h:fn.results=#[.cell t e,.tmp u])(tmps:Array Value)(w:World)(g:Nat)(cs:Array Value)(ht:tmps.getD t undef=.pointer (some ⟨g,0,none⟩))
  (hb:Blk w g cs e)(hl:(loadVar e ⟨g,0,none⟩).run Tryz.prog w=.ok (.agg cs) w) :
  (results fn tmps).run Tryz.prog w=.ok (.tuple #[.agg cs,tmps.getD u undef]) w:=by
 simp only[Array.getD_eq_getD_getElem?]at ht;simp[results,h,ht,asAddr,hl]
theorem World.isSome_setCells'(b:Nat):∀(vs:List Value) (o:Nat) (w:World) (x:Addr),(w.cell? x).isSome=true->((w.setCells b o vs).cell? x).isSome=true
 |[],_,_,_,h=>h
 |v::r,o,w,x,h=>by
  rw[World.setCells];refine World.isSome_setCells' b r _ _ _ ?_;obtain⟨u,hu⟩:=Option.isSome_iff_exists.1 h;obtain⟨v',hv'⟩:=cell?_setCell_some (w:=w) (p:=⟨b,o,none⟩) (x:=v) (q:=x) (v:=u) hu;rw[hv'];rfl
def byteVs(l:List UInt8):List Value:=l.map byteV
theorem byteVs_len(l:List UInt8):(byteVs l).length=l.length:=by simp[byteVs]
theorem byteVs_at{l:List UInt8}{i:Nat}{c:UInt8}(h:l[i]?=some c):(byteVs l)[i]?=some (byteV c):=by simp[byteVs,h]
theorem byteVs_one(l:List UInt8):∀u∈byteVs l,u.oneCell'=true:=by
 intro u hu;obtain⟨c,_,rfl⟩:=List.mem_map.1 hu;rfl
def OwnB(w:World)(base:Nat)(v:Value)(l:List UInt8):Prop :=
 (v=.slice none 0 0/\l=[])\/∃g off cap,v=.slice (some ⟨g,off,none⟩) l.length cap/\base<=g/\g < w.heap.size/\l.length<=cap/\cap<=maxLen /\
  (∀(i:Nat) (c:UInt8),l[i]?=some c->w.cell? ⟨g,off+i,none⟩=some (byteV c))/\(∀i:Nat,i < cap->(w.cell? ⟨g,off+i,none⟩).isSome=true)/\∀i:Nat,i < cap->w.frozen? ⟨g,off+i,none⟩=false
theorem OwnB.nil(w:World)(base:Nat):OwnB w base (.slice none 0 0) []:=.inl ⟨rfl,rfl⟩
theorem OwnB.slice{w:World}{base:Nat}{v:Value}{l:List UInt8}(h:OwnB w base v l) :
  ∃A c,v=.slice A l.length c/\l.length<=c/\c<=maxLen/\(0 < l.length->∃g off,A=some ⟨g,off,none⟩/\base<=g/\g < w.heap.size/\(∀(i:Nat) (x:UInt8),l[i]?=some x->w.cell? ⟨g,off+i,none⟩=some (byteV x))/\∀i:Nat,i < c->w.frozen? ⟨g,off+i,none⟩=false):=by
 rcases h with⟨rfl,rfl⟩|⟨g,off,cap,rfl,h1,h2,h3,h4,h5,h6,h7⟩
 ·exact⟨none,0,rfl,zR _,by simp[maxLen],fun h=>by simp at h⟩
 exact⟨_,cap,rfl,h3,h4,fun _=>⟨g,off,rfl,h1,h2,h5,h7⟩⟩
theorem OwnB.mono{w:World}{base base':Nat}{v:Value}{l:List UInt8}(h:OwnB w base v l)(hb:base'<=base):OwnB w base' v l:=by
 rcases h with h|⟨g,off,cap,h0,h1,h2⟩
 ·exact .inl h
 exact .inr ⟨g,off,cap,h0,zT hb h1,h2⟩
theorem OwnB.grown{w w':World}{base:Nat}{v:Value}{l:List UInt8}(h:OwnB w base v l){row:Option Nat}(hg:w.grownBy w' row)(hne:v.ownBlock=none\/v.ownBlock≠row):OwnB w' base v l:=by
 rcases h with h|⟨g,off,cap,rfl,h1,h2,h3,h4,h5,h6,h7⟩
 ·exact .inl h
 have hb:w'.heap[g]?=w.heap[g]?:=hg.block g h2 (by rcases hne with h|h;cases h;exact h);have hs:=hg.size;exact .inr ⟨g,off,cap,rfl,h1,by omega,h3,h4,fun i c hc=>(World.cell?_of_block (a:=⟨g,off+i,none⟩) hb).trans (h5 i c hc),fun i hi=>by rw[World.cell?_of_block (a:=⟨g,off+i,none⟩) hb];exact h6 i hi,
  fun i hi=>(World.frozen?_of_block (a:=⟨g,off+i,none⟩) hb).trans (h7 i hi)⟩
theorem grown_of_below{w w':World}(hb:Below w.heap.size w w'):w.grownBy w' none:=⟨hb.os,hb.tape,hb.output,hb.size,fun k hk _=>hb.block k hk⟩
theorem OwnB.below{w w':World}{base:Nat}{v:Value}{l:List UInt8}(h:OwnB w base v l)(hb:Below w.heap.size w w'):OwnB w' base v l :=
 h.grown (grown_of_below hb) (by cases v.ownBlock <;> simp)
theorem OwnB.alloc{w:World}{base:Nat}{v:Value}{l:List UInt8}(h:OwnB w base v l)(o:Obj):OwnB (w.alloc o) base v l:=h.below ((zB _ _).alloc (zR _) _)
theorem OwnB.drewN{w:World}{base:Nat}{v:Value}{l:List UInt8}(h:OwnB w base v l)(n:Nat):OwnB (w.drewN n) base v l:=h
theorem OwnB.lt{w:World}{base:Nat}{v:Value}{l:List UInt8}(h:OwnB w base v l)(g:Nat)(hg:v.ownBlock=some g):base<=g/\g < w.heap.size:=by
 rcases h with⟨rfl,_⟩|⟨g',off,cap,rfl,h1,h2,_⟩
 ·cases hg
 injection hg with hg;subst hg;exact⟨h1,h2⟩
theorem OwnB.off{w:World}{base g:Nat}{v:Value}{l:List UInt8}(h:OwnB w base v l)(hg:g < base):v.ownBlock=none\/v.ownBlock≠some g:=by
 cases hb:v.ownBlock with
 |none=>exact .inl rfl
 |some k=>refine .inr fun he=>?_;injection he with he;subst he;have:=h.lt k hb;omega
theorem OwnB.setNe{w:World}{base g k:Nat}{u:Value}{v:Value}{l:List UInt8}(h:OwnB w base v l)(hg:g < base):OwnB (w.setCell ⟨g,k,none⟩ u) base v l:=h.grown (grown_set w g k u) (h.off hg)
theorem grownBy.trans'{a b c:World}{row:Option Nat}(h:a.grownBy b row)(k:b.grownBy c row):a.grownBy c row :=
 ⟨k.os.trans h.os,k.tape.trans h.tape,k.output.trans h.output,zT h.size k.size,fun j hj hr=>(k.block j (zL hj h.size) hr).trans (h.block j hj hr)⟩
theorem grown_sets(g:Nat):∀(vs:List Value) (o:Nat) (w:World),w.grownBy (w.setCells g o vs) (some g)
 |[],_,w=>⟨rfl,rfl,rfl,zR _,fun _ _ _=>rfl⟩
 |v::r,o,w=>by
  have h1:=grown_set w g o v;have h2:=grown_sets g r (o+1) (w.setCell ⟨g,o,none⟩ v);exact⟨h2.os.trans h1.os,h2.tape.trans h1.tape,h2.output.trans h1.output,zT h1.size h2.size,fun k hk hne=>(h2.block k (zL hk h1.size) hne).trans (h1.block k hk hne)⟩
theorem size_setCells(g:Nat):∀(vs:List Value) (o:Nat) (w:World),(w.setCells g o vs).heap.size=w.heap.size
 |[],_,_=>rfl
 |v::r,o,w=>by rw[World.setCells,size_setCells g r,World.size_setCell]
theorem cells_row(w:World)(cs:Array Value)(e:TypeId)(k:Nat):(w.alloc (.cells cs e)).cell? ⟨w.heap.size,k,none⟩=cs[k]?:=cell_of_row _ _ k cs e _ (heap_alloc_new w _)
theorem frozen_row(w:World)(cs:Array Value)(e:TypeId)(k:Nat):(w.alloc (.cells cs e)).frozen? ⟨w.heap.size,k,none⟩=false:=frozen_of_row _ _ k cs e (heap_alloc_new w _)
theorem OwnB.new(w:World)(base:Nat)(hb:base<=w.heap.size)(cs:Array Value)(e:TypeId)(l:List UInt8)(n cap:Nat)(hn:n=l.length)(hl:l.length<=cap)(hc:cs.size=cap)(hm:cap<=maxLen)(hv:∀(i:Nat) (c:UInt8),l[i]?=some c->cs[i]?=some (byteV c)) :
  OwnB (w.alloc (.cells cs e)) base (.slice (some ⟨w.heap.size,0,none⟩) n cap) l:=by
 subst hn;refine .inr ⟨w.heap.size,0,cap,rfl,hb,by simp,hl,hm,fun i c h=>?_,fun i hi=>?_,fun i hi=>?_⟩
 ·rw[Nat.zero_add,cells_row];exact hv i c h
 ·rw[Nat.zero_add,cells_row,Array.getElem?_eq_getElem (by omega)];rfl
 rw[Nat.zero_add];exact frozen_row _ _ _ _
theorem OwnB.conv(w:World)(base:Nat)(hb:base<=w.heap.size)(s:ByteArray)(hs:s.size<=maxLen):OwnB (Lib.bytesWorld w 5 s) base (.slice (some ⟨w.heap.size,0,none⟩) s.size (grownCap w s.size 0 5)) s.data.toList:=by
 have hge:=grownCap_ge w s.size 0 5;have hsz:(Lib.bytesCells w 5 s).size=grownCap w s.size 0 5:=by
  have h0:s.data.size=s.size:=rfl;simp[Lib.bytesCells];omega
 refine .inr ⟨w.heap.size,0,grownCap w s.size 0 5,rfl,hb,by rw[Lib.bytesWorld_size];omega,hge,grownCap_le_maxLen w s.size 0 5 hs,fun i c h=>?_,fun i hi=>?_,fun i hi=>?_⟩
 ·rw[Nat.zero_add];exact(RowAt.bytes w s).cell h
 ·rw[Nat.zero_add];simp only[World.cell?,Lib.bytesWorld_at_new];rw[Array.getElem?_eq_getElem (by omega)];rfl
 rw[Nat.zero_add];simp only[World.frozen?,Lib.bytesWorld_at_new];rw[hsz];simp;omega
theorem info5' : ∃i,Tryz.prog.info? 5=some i/\i.zero=some (.int .u8 0)/\i.size=1/\i.bytes=1:=info_parts info5
theorem run_appB(w:World)(ty tx base n:Nat)(v x:Value)(l m:List UInt8)(hown:OwnB w base v l)(hs:Src Tryz.prog 1 tx x n (byteVs m) w)
  (hlen:l.length+m.length<=140737488355328)(hbase:base<=w.heap.size) :
  ∃v' w',(Builtin.append_ #[33,tx] ty #[v,x]).run Tryz.prog w=.ok v' w'/\OwnB w' base v' (l++m)/\w.grownBy w' v.ownBlock/\(v'.ownBlock=v.ownBlock\/v'.ownBlock=some w.heap.size):=by
 obtain⟨i,hi,hz,hi1,hi2⟩:=info5';have hn:n=m.length:=by have:=hs.newsLen;rw[byteVs_len]at this;omega
 have hu:=Tryz.underlying33
 -- a new row
 have new:∀(old:Nat) (row:Option Nat),OwnB (w.drew.alloc (.cells ((byteVs l++byteVs m).toArray++Builtin.zeroCells (Value.int .u8 0).cells (grownCap w (l.length+n) old 5 - (l.length+n))) 5)) base
   (.slice (some ⟨w.heap.size,0,none⟩) (l.length+n) (grownCap w (l.length+n) old 5)) (l++m) /\
   w.grownBy (w.drew.alloc (.cells ((byteVs l++byteVs m).toArray++Builtin.zeroCells (Value.int .u8 0).cells (grownCap w (l.length+n) old 5 - (l.length+n))) 5)) row:=by
  intro old row;have hge:=grownCap_ge w (l.length+n) old 5;have hcm:=grownCap_le_maxLen w (l.length+n) old 5 (by simp only[maxLen];omega);refine⟨OwnB.new w.drew base hbase _ 5 (l++m) _ _ (by simp[hn]) (by simp;omega) ?_ hcm fun k c hk=>?_,⟨rfl,rfl,rfl,by simp,fun k hk _=>heap_alloc_old w.drew _ hk⟩⟩
  ·simp only[Array.size_append,List.size_toArray,size_zeroCells,zA,byteVs_len]
   show _+_*1=_;omega
  have hlt:=(List.getElem?_eq_some_iff.1 hk).1;rw[Array.getElem?_append_left (by simpa [byteVs]using hlt)];simp only[List.getElem?_toArray];rw[show byteVs l++byteVs m=byteVs (l++m)from(List.map_append).symm];exact byteVs_at hk
 rcases hown with⟨rfl,rfl⟩|⟨g,off,cap,rfl,h1,h2,h3,h4,h5,h6,h7⟩
 ·by_cases h0:m=[]
  ·subst h0
   have hn0:n=0:=hn;subst hn0;refine⟨.slice none 0 0,w,?_,OwnB.nil _ _,⟨rfl,rfl,rfl,zR _,fun _ _ _=>rfl⟩,.inl rfl⟩;have hc:=hs.cells;have hl:=hs.len w;rcases hs.kind with⟨e',hk⟩|hk <;> simp[Builtin.append_,run_underlying hu,run_underlying hk,sizeOf,typeInfo,hi,hi1,hl,hc,byteVs]
  have hpos:0 < m.length:=List.length_pos_iff.2 h0;have hr:=run_append_grow_src (P:=Tryz.prog) w 33 tx ty 5 i _ hu hi hz none 0 0 [] (run_firstCells_none w.drew i.size 0 0 0) x n (byteVs m) (hi1 ▸ hs) (by omega) (by omega) (by rw[hi2];exact growslice_fits (by omega) (by simp at hlen;omega));have hq:=new 0 none;simp only[List.length_nil]at hq;exact⟨_,_,hr,hq.1,⟨hq.2.os,hq.2.tape,hq.2.output,hq.2.size,fun k hk _=>hq.2.block k hk (by simp)⟩,.inr rfl⟩
 by_cases hroom:l.length+n<=cap
 ·have hr:=run_append_room_src (P:=Tryz.prog) w 33 tx ty 5 i hu hi g off l.length cap x n (byteVs m) (hi1 ▸ hs) hroom
   (fun j hj=>by rw[byteVs_len]at hj;rw[hi1,Nat.mul_one,Nat.add_assoc];exact h6 _ (by omega)) (fun j hj=>by rw[byteVs_len]at hj;rw[hi1,Nat.mul_one,Nat.add_assoc];exact h7 _ (by omega))
  rw[hi1,Nat.mul_one]at hr;refine⟨_,_,hr,.inr ⟨g,off,cap,by rw[zA,hn],h1,by rw[size_setCells];exact h2,by rw[zA];omega,h4,fun k c hk=>?_,fun k hk=>?_,fun k hk=>?_⟩,grown_sets g _ _ _,.inl rfl⟩
  ·by_cases hkl:k < l.length
   ·rw[List.getElem?_append_left hkl]at hk
    rw[World.cell?_setCells_out g _ _ _ _ (fun _ _=>.inl (by simp;omega))];exact h5 k c hk
   rw[List.getElem?_append_right (by omega)]at hk;have hkm:=(List.getElem?_eq_some_iff.1 hk).1;have hin:=World.cell?_setCells_in g (byteVs m) (off+l.length) w (fun j hj=>by rw[byteVs_len]at hj;rw[Nat.add_assoc];exact h6 _ (by omega)) (k - l.length) (by rw[byteVs_len];omega);rw[show off+l.length+(k - l.length)=off+k by omega]at hin;rw[hin,<-byteVs_at hk,zG (by rw[byteVs_len];omega)]
  ·exact World.isSome_setCells' g _ _ _ _ (h6 k hk)
  rw[World.frozen?_setCells];exact h7 k hk
 have holds:∀j u,(byteVs l)[j]?=some u->w.drew.cell? ((⟨g,off,none⟩:Addr).add j)=some u:=by
  intro j u hj;rw[show(⟨g,off,none⟩:Addr).add j=⟨g,off+j,none⟩from by unfold Addr.add;split <;> simp_all];have hjl:=(List.getElem?_eq_some_iff.1 hj).1;rw[byteVs_len]at hjl;rw[byteVs_at (zG hjl)]at hj;injection hj with hj
  subst hj
  simpa using h5 j _ (zG hjl)
 have hr:=run_append_grow_src (P:=Tryz.prog) w 33 tx ty 5 i _ hu hi hz (some ⟨g,off,none⟩) l.length cap (byteVs l) (by rw[hi1];exact run_firstCells_some w.drew 1 l.length ⟨g,off,none⟩ l.length cap (byteVs l) (by rw[byteVs_len];omega) holds)
  x n (byteVs m) (hi1 ▸ hs) (by omega) (by omega) (by rw[hi2];exact growslice_fits (by omega) (by omega))
 have hq:=new cap (some g);exact⟨_,_,hr,hq.1,⟨hq.2.os,hq.2.tape,hq.2.output,hq.2.size,hq.2.block⟩,.inr rfl⟩
theorem Src.byte(w:World)(c:UInt8):Src Tryz.prog 1 33 (.slice (some ⟨w.heap.size,0,none⟩) 1 1) 1 (byteVs [c]) (w.alloc (.cells #[byteV c] 5)) :=
 Src.ofSlice _ Tryz.underlying33 _ _ _ _ rfl (cell_one_new w (byteV c) 5) (byteVs_one _)
theorem Src.text(w:World)(s:ByteArray):Src Tryz.prog 1 9 (.string s) s.size (byteVs s.data.toList) w:=Src.ofString w Tryz.underlying9 s
def RdB(w:World)(v:Value)(l:List UInt8):Prop:=∃A c,v=.slice A l.length c/\l.length<=c/\(0 < l.length->∃g off,A=some ⟨g,off,none⟩/\∀(i:Nat) (x:UInt8),l[i]?=some x->w.cell? ⟨g,off+i,none⟩=some (byteV x))
theorem OwnB.rdB{w:World}{base:Nat}{v:Value}{l:List UInt8}(h:OwnB w base v l):RdB w v l:=by
 obtain⟨A,c,rfl,h1,_,h2⟩:=h.slice;exact⟨A,c,rfl,h1,fun hp=>by obtain⟨g,off,r,_,_,h5,_⟩:=h2 hp;exact⟨g,off,r,h5⟩⟩
theorem RdB.keep{w w':World}{v:Value}{l:List UInt8}(h:RdB w v l)(hk:∀(a:Addr) (u:Value),w.cell? a=some u->w'.cell? a=some u):RdB w' v l:=by
 obtain⟨A,c,h1,h2,h3⟩:=h;refine⟨A,c,h1,h2,fun hp=>?_⟩;obtain⟨g,off,h5,h6⟩:=h3 hp;exact⟨g,off,h5,fun i x hx=>hk _ _ (h6 i x hx)⟩
theorem RdB.below'{w w':World}{v:Value}{l:List UInt8}(h:RdB w v l)(hb:Below w.heap.size w w'):RdB w' v l :=
 h.keep fun a u hu=>(hb.cell (cell_lt hu)).trans hu
theorem Src.bytes{w:World}{A:Option Addr}{n c:Nat}{l:List UInt8}(h:RdB w (.slice A n c) l):Src Tryz.prog 1 33 (.slice A n c) n (byteVs l) w:=by
 obtain⟨A',c',he,hc,h3⟩:=h;injection he with h1 h2 h4
 subst h1 h2 h4;by_cases hp:0 < l.length
 ·obtain⟨g,off,rfl,h6⟩:=h3 hp
  refine Src.ofSlice _ Tryz.underlying33 _ _ _ _ (by rw[byteVs_len];omega) (fun j u hj=>?_) (byteVs_one _);rw[show(⟨g,off,none⟩:Addr).add j=⟨g,off+j,none⟩from by unfold Addr.add;split <;> simp_all];have hjl:=(List.getElem?_eq_some_iff.1 hj).1;rw[byteVs_len]at hjl;rw[byteVs_at (zG hjl)]at hj;injection hj with hj
  subst hj;exact h6 j _ (zG hjl)
 obtain rfl:l=[]:=List.eq_nil_of_length_eq_zero (by omega);cases A with
 |none=>exact Src.ofNil _ Tryz.underlying33 _
 |some a=>exact Src.ofSlice _ Tryz.underlying33 a 0 _ [] rfl (fun j u hj=>by simp at hj) (fun u hu=>by cases hu)
section
variable {ops:Array Oper}{rest:List Oper}{o:Oper}{a:Act}{Q:Exit->Act->World->Prop}
theorem wp_appB{tx n:Nat}{w:World}{base:Nat}{v x:Value}{l m:List UInt8}(hgd:o.guard=none)(s xo:Operand)(ho:o.op=.call { callee:=.builtin .append,args:=#[s,xo],argTypes:=#[33,tx] })
  (hs:a.eval s=v) (hx:a.eval xo=x) (hown:OwnB w base v l) (hsrc:Src Tryz.prog 1 tx x n (byteVs m) w) (hlen:l.length+m.length<=140737488355328) (hbase:base<=w.heap.size)
  (h:∀v' w',OwnB w' base v' (l++m)->w.grownBy w' v.ownBlock->(∀w0,Below base w0 w->Below base w0 w')->(v'.ownBlock=v.ownBlock\/v'.ownBlock=some w.heap.size)->wpList Tryz.prog ops Q rest (a.put o.dst v') w') :
  wpList Tryz.prog ops Q (o::rest) a w:=by
 refine wpList_plain hgd fun K hK=>?_
 obtain⟨v',w',hr,h2,h3,h5⟩:=run_appB w o.type tx base n v x l m hown hsrc hlen hbase;unfold Oper.wp execOp;simp only[ho,resolve,invoke,builtin,Sem.run_bind,Sem.run_pure,Result.andThen_ok,List.map_toArray,List.map_cons,List.map_nil,hs,hx,hr];exact hK _ _ (h v' w' h2 h3 (fun w0 hb=>hb.grown h3 hbase fun k hk=>(hown.lt k hk).1) h5)
theorem wp_appb{w:World}{base:Nat}{v:Value}{l:List UInt8}(hgd:o.guard=none)(s xo:Operand)(ho:o.op=.call { callee:=.builtin .append,args:=#[s,xo],argTypes:=#[33,33] })
  (c:UInt8) (hs:a.eval s=v) (hx:a.eval xo=.slice (some ⟨w.heap.size,0,none⟩) 1 1) (hown:OwnB w base v l) (hlen:l.length+1<=140737488355328) (hbase:base<=w.heap.size)
  (h:∀v' w',OwnB w' base v' (l++[c])->(w.alloc (.cells #[byteV c] 5)).grownBy w' v.ownBlock->(∀w0,Below base w0 w->Below base w0 w')->(v'.ownBlock=v.ownBlock\/v'.ownBlock=some (w.heap.size+1))->wpList Tryz.prog ops Q rest (a.put o.dst v') w') :
  wpList Tryz.prog ops Q (o::rest) a (w.alloc (.cells #[byteV c] 5)) :=
 wp_appB hgd s xo ho hs hx (hown.alloc _) (Src.byte w c) (by simpa using hlen) (by simp;omega) fun v' w' h1 h2 h3 h4 =>
  h v' w' h1 h2 (fun w0 hb=>h3 w0 (hb.alloc hbase _)) (by simpa using h4)
theorem step_appB{K:Act->World->Prop}{E:Prop}{tx n:Nat}{w:World}{base:Nat}{v x:Value}{l m:List UInt8}{s xo:Operand}(hgd:o.guard=none)(ho:o.op=.call { callee:=.builtin .append,args:=#[s,xo],argTypes:=#[33,tx] })
  (hs:a.eval s=v) (hown:OwnB w base v l) (hx:a.eval xo=x) (hsrc:Src Tryz.prog 1 tx x n (byteVs m) w) (hlen:l.length+m.length<=140737488355328) (hbase:base<=w.heap.size)
  (h:∀v' w',OwnB w' base v' (l++m)->(∀w0,Below base w0 w->Below base w0 w')->w.grownBy w' v.ownBlock->(v'.ownBlock=v.ownBlock\/v'.ownBlock=some w.heap.size)->K (a.put o.dst v') w') :
  if Region.wanted o (yielded ops a.tmps)=true then Oper.wp Tryz.prog o a w K Q else E:=by
 have hw:Region.wanted o (yielded ops a.tmps)=true:=by simp[Region.wanted,hgd]
 rw[if_pos hw];obtain⟨v',w',hr,h2,h3,h5⟩:=run_appB w o.type tx base n v x l m hown hsrc hlen hbase;unfold Oper.wp execOp;simp only[ho,resolve,invoke,builtin,Sem.run_bind,Sem.run_pure,Result.andThen_ok,List.map_toArray,List.map_cons,List.map_nil,hs,hx,hr];exact h v' w' h2 (fun w0 hb=>hb.grown h3 hbase fun k hk=>(hown.lt k hk).1) h3 h5
end
theorem OwnB.cellAt{w:World}{base g off n c:Nat}{l:List UInt8}(h:OwnB w base (.slice (some ⟨g,off,none⟩) n c) l){i:Nat}{x:UInt8}(hx:l[i]?=some x):w.cell? ⟨g,off+i,none⟩=some (byteV x):=by
 rcases h with⟨h,_⟩|⟨g',off',cap,he,_,_,_,_,h5,_⟩
 ·cases h
 injection he with h1 h2 h3
 injection h1 with h1
 injection h1 with h1 h4
 subst h1 h4;exact h5 i x hx
theorem Own.off{w:World}{base g:Nat}{e:TypeId}{v:Value}{xs:List Value}(h:Own w base e v xs)(hg:g < base):v.ownBlock=none\/v.ownBlock≠some g:=by
 cases hb:v.ownBlock with
 |none=>exact .inl rfl
 |some k=>refine .inr fun he=>?_;injection he with he;subst he;have:=(World.ownsRow.lt h k hb).1;omega
theorem Own.setNe{w:World}{base g k:Nat}{u:Value}{e:TypeId}{v:Value}{xs:List Value}(h:Own w base e v xs)(hg:g < base):Own (w.setCell ⟨g,k,none⟩ u) base e v xs:=h.grown (grown_set w g k u) (h.off hg)
theorem strOf_B(l:List UInt8):strOfNums (l.map fun c=>(c.toNat:Int))=B l:=by
 unfold strOfNums B;congr 2
 rw[List.map_map];exact(List.map_congr_left (g:=id) (fun c _=>by simp)).trans (List.map_id l)
theorem OwnB.str{w:World}{base:Nat}{v:Value}{l:List UInt8}(h:OwnB w base v l):(convert 33 9 v).run Tryz.prog w=.ok (.string (B l)) w:=by
 rcases h with⟨rfl,rfl⟩|⟨g,off,cap,rfl,_,_,_,_,h5,_⟩
 ·exact run_convert_bytes_nil w 33 5 Tryz.underlying33 Tryz.underlying5 0 0 9 Tryz.underlying9
 have:=run_convert_bytes_arg (P:=Tryz.prog) w 33 5 Tryz.underlying33 Tryz.underlying5 g off l.length cap (l.map fun c=>(c.toNat:Int)) (by simp) (fun i hi=>by
  rw[h5 i l[i] (zG hi)];simp[byteV,List.getElem?_map,zG hi,List.getD_eq_getElem?_getD]) 9 Tryz.underlying9
 rw[this,strOf_B]
end Go.Proofs.YtnkihlpmmfeioaaGreatDoor
