/- Part of the proof that laws.FnDVerifies answers true: A20,A21,A22,A45 -/
import Derived.Deep.DrawnRows
import Derived.BigRegion
import Derived.Test.YtnkihlpmmfeioaaGreatDoorZ12
import Derived.Test.YtnkihlpmmfeioaaGreatDoorZ15
set_option linter.unusedVariables false
set_option linter.unusedSimpArgs false
set_option maxRecDepth 1000000
set_option maxHeartbeats 16000000
namespace Go.Proofs.YtnkihlpmmfeioaaGreatDoor
open Go.RowKit
theorem rootN_le(f p d low high:Nat)(h:¬1 < high - low):rootN f p d low high=low:=by
 cases f with
 |zero=>rfl
 |succ f=>rw[rootN,if_neg h]
theorem c142(p d:Nat)(w:World)(hp:p < 18446744073709551616)(hd:d < 6) :
  Calls Tryz.prog 142 #[.int .u64 (p:Int),.int .i64 (d:Int)] w fun e w'=>e=.returned (.int .u32 ((root p d:Nat):Int))/\Below w.heap.size w w':=by
 obtain⟨R,hR⟩:∃R,Hid (rootN 64 p d 0 137438953472=R):=⟨_,rfl⟩;rw[root,hR.out];go_enter Tryz.func142,Tryz.ntmps142;go_wp2;go_loopg [5,6] 137438953472 (fun g a b w'=>∃f low high:Nat,Hid (high - low<=g)/\a=.int .u64 (low:Int)/\b=.int .u64 (high:Int)/\low<=high/\high<=137438953472/\Hid (high - low<=2 ^ f)/\Hid (rootN f p d low high=R)/\Hid (Below w.heap.size w w'))
 case atStart=>exact⟨64,0,137438953472,zR _,rfl,rfl,Nat.zero_le _,zR _,by unfold Hid;decide,hR,zB _ _⟩
 obtain⟨f,low,high,hg,rfl,rfl,hlh,hh,hf,hr,hb⟩:=hrel;by_cases h1:1 < high - low
 ·obtain⟨f',rfl⟩:∃f',f=f'+1:=by
   cases f with
   |zero=>have:=hf.out;simp at this;omega
   |succ f'=>exact⟨f',rfl⟩
  have hf2:=hf.out;rw[Nat.pow_succ]at hf2;have hr2:=hr.out;rw[rootN,if_pos h1]at hr2;have hgo:=hg.out;obtain⟨x,hx⟩:∃x,(low+high) / 2=x:=⟨_,rfl⟩;rw[hx]at hr2;have hx1:low < x:=by omega
  have hx2:x < high:=by omega
  have hxI:((low:Int)+(high:Int)) / 2=(x:Int):=by omega
  have f1:high - x<=2 ^ f':=by omega
  have f2:x - low<=2 ^ f':=by omega
  have HF:=zH (And.intro f1 f2);have HX:=zH hx;clear hf2 f1 f2 hf hr hx hg;have z1:(1:Int) < (high:Int) - (low:Int):=by omega
  cases hpw:power x d p with
  |true =>
   rw[if_pos hpw]at hr2;have HR:=zH hr2;have HP:=zH hpw;have HG:=zH hgo;clear hr2 hpw hgo;go_wp2_with (go_at_call 150;refine(c150 x d p _ (by omega) hd hp).mono ?_;rintro e w1⟨rfl,hb1⟩;rw[HP.out]);go_roundg (high - x)
   case measure=>have:=HG.out;omega
   case rel=>exact⟨f',x,high,zR _,rfl,rfl,by omega,hh,HF.out.1,HR,bthen hb.out hb1⟩
  |false =>
   rw[if_neg (by rw[hpw];decide)]at hr2;have HR:=zH hr2;have HP:=zH hpw;have HG:=zH hgo;clear hr2 hpw hgo;go_wp2_with (go_at_call 150;refine(c150 x d p _ (by omega) hd hp).mono ?_;rintro e w1⟨rfl,hb1⟩;rw[HP.out]);go_roundg (x - low)
   case measure=>have:=HG.out;omega
   case rel=>exact⟨f',low,x,zR _,rfl,rfl,by omega,by omega,HF.out.2,HR,bthen hb.out hb1⟩
 have hr2:=hr.out;rw[rootN_le _ _ _ _ _ h1]at hr2;have z1:¬(1:Int) < (high:Int) - (low:Int):=by omega
 subst hr2;go_wp2;go_ret
 exact⟨ret_eq (int_eq (by simp)),hb.out⟩
theorem info201 : (Tryz.prog.info? 201).map (fun i=>(i.zero,i.size,i.bytes))=some (some (.int .u32 0),1,4):=by kernel_rfl
def uCells(l:List Nat):List Value:=l.map fun(x:Nat)=>Value.int .u32 (x:Int)
theorem uCells_len(l:List Nat):(uCells l).length=l.length:=by simp[uCells]
theorem c119(many d:Nat)(R:List Nat)(w:World)(hR:rootsN 400 many d 2 []=R)(hm:R.length=many)(hd:d < 6)(hm2:many<=1000) :
  Calls Tryz.prog 119 #[.int .i64 (many:Int),.int .i64 (d:Int)] w fun e w'=>∃v,e=.returned v/\Own w' w.heap.size 201 v (uCells R)/\Below w.heap.size w w':=by
 have HR:=zH hR;have HM:=zH hm;clear hR hm;go_enter Tryz.func119,Tryz.ntmps119;go_wp2;go_loopg [5,6] 400 (fun g v b w'=>∃f p:Nat,∃out:List Nat,Hid (f=g)/\b=.int .u64 (p:Int)/\Hid (p+f=402)/\p<=402/\Hid (rootsN f many d p out=R)/\Hid (out.length+f<=400)/\Hid (Own w' w.heap.size 201 v (uCells out))/\Hid (Below w.heap.size w w'))
 case atStart=>exact⟨400,2,[],rfl,rfl,rfl,by omega,HR,by unfold Hid;simp,Own.nil _ _ _,zB _ _⟩
 clear HR;obtain⟨f,p,out,hf,rfl,hpf,hp,hr,hl,ho,hb⟩:=hrel;by_cases hlt:out.length < many
 ·obtain⟨f',rfl⟩:∃f',f=f'+1:=by
   cases f with
   |zero=>have:=hr.out;rw[rootsN]at this;rw[this,HM.out]at hlt;omega
   |succ f'=>exact⟨f',rfl⟩
  have hr2:=hr.out;rw[rootsN,if_pos hlt]at hr2;obtain⟨A,c,rfl,hc,_⟩:=ho.out.slice;rw[uCells_len]at hc ho ⊢;obtain⟨pr,hpr⟩:∃pr,Hid (isPrimeN 100 p 2 true=pr):=⟨_,rfl⟩;rw[hpr.out]at hr2;have HR:=zH hr2;clear hr2 hr;have hpp:=hpf.out;have hll:=hl.out;clear hl;go_wp2;go_loopg [7,8] 100 (fun g b c w'=>∃f q:Nat,∃r:Bool,Hid (f=g)/\Hid (q+f=102)/\2<=q/\q<=102/\b=.bool r/\c=.int .u64 (q:Int)/\Hid (isPrimeN f p q r=pr)/\w'=wr)
  case atStart=>exact⟨100,2,true,rfl,rfl,by omega,by omega,rfl,rfl,hpr,rfl⟩
  clear hpr;obtain⟨fq,q,r,hfq,hq,hq2,hq102,rfl,rfl,hpr,rfl⟩:=hrel;have hqq:q*q<=102*102:=Nat.mul_le_mul hq102 hq102;obtain⟨Q,hQ⟩:∃Q,Hid (q*q=Q):=⟨_,rfl⟩;have hQI:(q:Int)*(q:Int)=(Q:Int):=by rw[<-hQ.out];simp
  rw[hQ.out]at hqq;by_cases hle:Q<=p
  ·obtain⟨fq',rfl⟩:∃f',fq=f'+1:=by
    cases fq with
    |zero=>have h1:=hq.out;obtain rfl:q=102:=(by omega);have:=hQ.out;omega
    |succ f'=>exact⟨f',rfl⟩
   have hp2:=hpr.out;rw[isPrimeN,if_pos (by rw[hQ.out];exact hle)]at hp2;have z1:(q:Int)≠0:=by omega
   by_cases hz:p % q=0
   ·have n1:((p:Int) % (q:Int) != 0)=false:=zQ (by omega)
    rw[hz]at hp2;cases r with
    |true =>
     have HP:Hid (isPrimeN fq' p (q+1) false=pr):=hp2;clear hp2 hz hpr;go_wp2;go_roundg fq'
     case measure=>have:=hfq.out;omega
     case rel=>exact⟨fq',q+1,false,rfl,by have:=hq.out;unfold Hid;omega,by omega,by have:=hq.out;omega,rfl,by go_num,HP,rfl⟩
    |false =>
     have HP:Hid (isPrimeN fq' p (q+1) false=pr):=hp2;clear hp2 hz hpr;go_wp2;go_roundg fq'
     case measure=>have:=hfq.out;omega
     case rel=>exact⟨fq',q+1,false,rfl,by have:=hq.out;unfold Hid;omega,by omega,by have:=hq.out;omega,rfl,by go_num,HP,rfl⟩
   have n1:((p:Int) % (q:Int) != 0)=true:=zN (by omega);rw[show(p % q == 0)=false from zF hz]at hp2;cases r with
   |true =>
    have HP:Hid (isPrimeN fq' p (q+1) true=pr):=hp2;clear hp2 hz hpr;go_wp2;go_roundg fq'
    case measure=>have:=hfq.out;omega
    case rel=>exact⟨fq',q+1,true,rfl,by have:=hq.out;unfold Hid;omega,by omega,by have:=hq.out;omega,rfl,by go_num,HP,rfl⟩
   |false =>
    have HP:Hid (isPrimeN fq' p (q+1) false=pr):=hp2;clear hp2 hz hpr;go_wp2;go_roundg fq'
    case measure=>have:=hfq.out;omega
    case rel=>exact⟨fq',q+1,false,rfl,by have:=hq.out;unfold Hid;omega,by omega,by have:=hq.out;omega,rfl,by go_num,HP,rfl⟩
  have hpr2:r=pr:=by
   have:=hpr.out;cases fq with
   |zero=>exact this
   |succ fq=>rw[isPrimeN,if_neg (by rw[hQ.out];exact hle)]at this;exact this
  subst hpr2;clear hpr;cases r with
  |true =>
   rw[if_pos rfl]at HR;go_wp2_with (first
    |(go_at_call 142;refine(c142 p d _ (by omega) hd).mono ?_;rintro e w1⟨rfl,hb1⟩;have hb2:=bthen hb.out hb1;have ho2:=ho.out.below hb1)
    |(at_builtin;refine wp_app1 Tryz.underlying199 info201 rfl rfl (.tmp 30) (.tmp 34) rfl rfl ho2 hb2.size (.int .u32 ((root p d:Nat):Int)) rfl rfl (by rw[uCells_len];omega) (by decide) ?_;intro v2 w2 ho3 hg3 hb3 hl3))
   have g1:Hid (p+1+f'=402):=by unfold Hid;omega
   have g2:Hid ((out++[root p d]).length+f'<=400):=by unfold Hid;simp;omega
   have g3:p+1<=402:=by omega
   have g4:Hid (Own w2 w.heap.size 201 v2 (uCells (out++[root p d]))):=by unfold Hid;simpa [uCells]using ho3
   go_roundg f'
   case measure=>have:=hf.out;omega
   case rel=>exact⟨f',p+1,out++[root p d],rfl,by go_num,g1,g3,HR,g2,g4,hb3 _ hb2⟩
  |false =>
   rw[if_neg (by decide)]at HR;go_wp2;have g1:Hid (p+1+f'=402):=by unfold Hid;omega
   have g2:Hid (out.length+f'<=400):=by unfold Hid;omega
   have g3:p+1<=402:=by omega
   go_roundg f'
   case measure=>have:=hf.out;omega
   case rel=>exact⟨f',p+1,out,rfl,by go_num,g1,g3,HR,g2,ho,hb⟩
 have hR2:out=R:=by
  have:=hr.out;cases f with
  |zero=>exact this
  |succ f=>rw[rootsN,if_neg hlt]at this;exact this
 subst hR2;obtain⟨A,c,rfl,hc,_⟩:=ho.out.slice;rw[uCells_len]at hc ho ⊢;go_wp2;go_ret
 exact⟨_,rfl,ho.out,hb.out⟩
def sg0(x:W32):W32:=rotr x 7 ^^^ rotr x 18 ^^^ x >>> 3
def sg1(x:W32):W32:=rotr x 17 ^^^ rotr x 19 ^^^ x >>> 10
def bePart(l:List UInt8)(i:Nat):Nat->W32
 |0=>0#32
 |n+1=>bePart l i n <<< 8 ||| BitVec.ofNat 32 (l.getD (4*i+n) 0).toNat
def wF(l:List UInt8)(i:Nat):W32 :=
 if i < 16 then bePart l i 4 else wF l (i - 16)+sg0 (wF l (i - 15))+wF l (i - 7)+sg1 (wF l (i - 2))
termination_by i
decreasing_by all_goals omega
theorem wF_lo(l:List UInt8)(i:Nat)(h:i < 16):wF l i=bePart l i 4:=by rw[wF,if_pos h]
theorem wF_hi(l:List UInt8)(i:Nat)(h:¬i < 16):wF l i=wF l (i - 16)+sg0 (wF l (i - 15))+wF l (i - 7)+sg1 (wF l (i - 2)):=by rw[wF,if_neg h]
def wL(l:List UInt8)(i:Nat):List W32:=(List.range i).map (wF l)++List.replicate (64 - i) 0#32
theorem wL_len(l:List UInt8)(i:Nat)(h:i<=64):(wL l i).length=64:=by simp[wL];omega
theorem wL_at(l:List UInt8)(i j:Nat)(h:j < i):(wL l i)[j]?=some (wF l j):=by
 unfold wL;rw[List.getElem?_append_left (by simpa using h)];simp[h]
theorem wL_next(l:List UInt8)(i:Nat)(h:i < 64):(wL l i)[i]?=some 0#32:=by
 unfold wL;rw[List.getElem?_append_right (by simp)];simp[List.getElem?_replicate];omega
theorem wL_set(l:List UInt8)(i:Nat)(h:i < 64):(wL l i).set i (wF l i)=wL l (i+1):=by
 unfold wL;rw[List.set_append_right _ _ (by simp),List.range_succ,List.map_append,List.append_assoc];congr 1
 rw[List.length_map,List.length_range,Nat.sub_self,show 64 - i=(64 - (i+1))+1 by omega,List.replicate_succ];rfl
def H0 : List W32:=[0x6A09E667#32,0xBB67AE85#32,0x3C6EF372#32,0xA54FF53A#32,0x510E527F#32,0x9B05688C#32,0x1F83D9AB#32,0x5BE0CD19#32]
def KL : List W32:=[0x428a2f98#32,0x71374491#32,0xb5c0fbcf#32,0xe9b5dba5#32,0x3956c25b#32,0x59f111f1#32,0x923f82a4#32,0xab1c5ed5#32,0xd807aa98#32,0x12835b01#32,0x243185be#32,0x550c7dc3#32,0x72be5d74#32,0x80deb1fe#32,0x9bdc06a7#32,0xc19bf174#32,0xe49b69c1#32,0xefbe4786#32,0x0fc19dc6#32,0x240ca1cc#32,0x2de92c6f#32,0x4a7484aa#32,0x5cb0a9dc#32,0x76f988da#32,0x983e5152#32,0xa831c66d#32,0xb00327c8#32,0xbf597fc7#32,0xc6e00bf3#32,0xd5a79147#32,0x06ca6351#32,0x14292967#32,0x27b70a85#32,0x2e1b2138#32,0x4d2c6dfc#32,0x53380d13#32,0x650a7354#32,0x766a0abb#32,0x81c2c92e#32,0x92722c85#32,0xa2bfe8a1#32,0xa81a664b#32,0xc24b8b70#32,0xc76c51a3#32,0xd192e819#32,0xd6990624#32,0xf40e3585#32,0x106aa070#32,0x19a4c116#32,0x1e376c08#32,0x2748774c#32,0x34b0bcb5#32,0x391c0cb3#32,0x4ed8aa4a#32,0x5b9cca4f#32,0x682e6ff3#32,0x748f82ee#32,0x78a5636f#32,0x84c87814#32,0x8cc70208#32,0x90befffa#32,0xa4506ceb#32,0xbef9a3f7#32,0xc67178f2#32]
def wCells(l:List W32):List Value:=l.map fun x=>Value.int .u32 (x.toNat:Int)
theorem wCells_len(l:List W32):(wCells l).length=l.length:=by simp[wCells]
theorem wCells_at{l:List W32}{k:Nat}{x:W32}(h:l[k]?=some x):(wCells l)[k]?=some (Value.int .u32 (x.toNat:Int)):=by simp[wCells,h]
theorem wCells_set(l:List W32)(k:Nat)(x:W32):(wCells l).set k (Value.int .u32 (x.toNat:Int))=wCells (l.set k x):=by simp[wCells,List.map_set]
theorem roots8_cells : uCells (rootsN 400 8 2 2 [])=wCells H0:=by rw[roots8];rfl
theorem roots64_cells : uCells (rootsN 400 64 3 2 [])=wCells KL:=by rw[roots64];rfl
def kAt(i:Nat):W32:=KL.getD i 0#32
theorem kAt_get(i:Nat)(h:i < 64):KL[i]?=some (kAt i):=by
 unfold kAt;rw[List.getD_eq_getElem?_getD];have:i < KL.length:=h;rw[zG this];rfl
def chM(e f g:W32):W32:=(e &&& f) ^^^ (~~~e &&& g)
def majM(a b c:W32):W32:=(a &&& b) ^^^ (a &&& c) ^^^ (b &&& c)
def bs1(e:W32):W32:=rotr e 6 ^^^ rotr e 11 ^^^ rotr e 25
def bs0(a:W32):W32:=rotr a 2 ^^^ rotr a 13 ^^^ rotr a 22
def t1M(k w:W32)(e f g h:W32):W32:=h+bs1 e+chM e f g+k+w
def t2M(a b c:W32):W32:=bs0 a+majM a b c
def rnd(k w:W32):List W32->List W32
 |[a,b,c,d,e,f,g,h]=>[t1M k w e f g h+t2M a b c,a,b,c,d+t1M k w e f g h,e,f,g]
 |l=>l
def rounds(l:List UInt8)(st:List W32):Nat->List W32
 |0=>st
 |n+1=>rnd (kAt n) (wF l n) (rounds l st n)
theorem rnd_len(k w:W32)(l:List W32):(rnd k w l).length=l.length:=by
 unfold rnd;split <;> simp
theorem rounds_len(l:List UInt8)(st:List W32)(n:Nat):(rounds l st n).length=st.length:=by
 induction n with
 |zero=>rfl
 |succ n ih=>rw[rounds,rnd_len,ih]
def addW(x y:List W32):List W32:=List.zipWith (·+·) x y
def blockM(st:List W32)(l:List UInt8):List W32:=addW st (rounds l st 64)
theorem blockM_len(st:List W32)(l:List UInt8):(blockM st l).length=st.length:=by
 simp[blockM,addW,rounds_len]
def compN : Nat->List W32->List UInt8->List W32
 |0,st,_=>st
 |n+1,st,l=>compN n (blockM st l) (l.drop 64)
def lenB(n:Nat):Nat->List UInt8
 |0=>[]
 |k+1=>UInt8.ofNat (8*n / 2 ^ (8*k) % 256)::lenB n k
theorem lenB_len(n k:Nat):(lenB n k).length=k:=by
 induction k with
 |zero=>rfl
 |succ k ih=>simp[lenB,ih]
def zerosN(n:Nat):Nat:=(119 - n % 64) % 64
def pad(l:List UInt8):List UInt8:=l++128::List.replicate (zerosN l.length) 0++lenB l.length 8
theorem pad_len(l:List UInt8):(pad l).length % 64=0:=by
 simp[pad,lenB_len,zerosN];omega
def wBytes(x:W32):List UInt8:=[UInt8.ofNat (x.toNat / 16777216 % 256),UInt8.ofNat (x.toNat / 65536 % 256),UInt8.ofNat (x.toNat / 256 % 256),UInt8.ofNat (x.toNat % 256)]
def sha(l:List UInt8):List UInt8:=(compN ((pad l).length / 64) H0 (pad l)).flatMap wBytes
def addTo(x y:List W32)(i:Nat):List W32:=addW (x.take i) (y.take i)++x.drop i
theorem addTo_zero(x y:List W32):addTo x y 0=x:=by simp[addTo,addW]
theorem addTo_all(x y:List W32)(h:y.length=x.length):addTo x y x.length=addW x y:=by
 unfold addTo;rw[List.take_length,<-h,List.take_length,h,List.drop_length,List.append_nil]
theorem addTo_at(x y:List W32)(i:Nat)(h:y.length=x.length)(hi:i < x.length):(addTo x y i)[i]?=x[i]?:=by
 unfold addTo addW;rw[List.getElem?_append_right (by simp[h];omega)];simp[h,Nat.min_eq_left (Nat.le_of_lt hi)]
theorem addTo_set(x y:List W32)(i:Nat)(h:y.length=x.length)(hi:i < x.length){a b:W32}(ha:x[i]?=some a)(hb:y[i]?=some b):(addTo x y i).set i (a+b)=addTo x y (i+1):=by
 have hl:(addW (x.take i) (y.take i)).length=i:=by simp[addW,h];omega
 unfold addTo;rw[List.set_append_right _ _ (by omega),hl,Nat.sub_self,List.take_add_one,List.take_add_one,ha,hb,List.drop_eq_getElem_cons hi];simp only[List.set_cons_zero,Option.toList_some];unfold addW;rw[List.zipWith_append (by simp[h]),List.append_assoc];rfl
theorem eight{l:List W32}(h:l.length=8):∃a b c d e f g i,l=[a,b,c,d,e,f,g,i]:=by
 match l,h with
 |[a,b,c,d,e,f,g,i],_=>exact⟨a,b,c,d,e,f,g,i,rfl⟩
theorem compN_len(n:Nat)(st:List W32)(l:List UInt8):(compN n st l).length=st.length:=by
 induction n generalizing st l with
 |zero=>rfl
 |succ n ih=>rw[compN,ih,blockM_len]
def wArr(l:List W32):Array Value:=(wCells l).toArray
theorem wArr_at{l:List W32}{k:Nat}{x:W32}(h:l[k]?=some x):(wArr l)[k]?=some (Value.int .u32 (x.toNat:Int)):=by
 unfold wArr;rw[List.getElem?_toArray];exact wCells_at h
theorem wArr_set(l:List W32)(k:Nat)(x:W32):(wArr l).setIfInBounds k (Value.int .u32 (x.toNat:Int))=wArr (l.set k x):=by
 unfold wArr;rw[<-wCells_set];simp
theorem wL_set0(l:List UInt8)(i:Nat)(h:i < 64):(wL l i).set i 0#32=wL l i:=by
 refine List.ext_getElem? fun j=>?_
 rw[List.getElem?_set];split
 ·rename_i hj;subst hj;rw[wL_len _ _ (by omega),if_pos h,wL_next _ _ h]
 rfl
theorem Own.lit0(w:World)(base:Nat)(hb:base<=w.heap.size):(w.alloc (.cells #[] 201)).ownsRow base 201 1 (.slice (some ⟨w.heap.size,0,none⟩) 0 0) 0 [] :=
 ⟨rfl,.inr ⟨w.heap.size,0,#[],rfl,hb,heap_alloc_new w _,by simp,by simp[maxLen],by simp,rfl⟩⟩
theorem cell_alloc'{w:World}{a:Addr}{u:Value}(o:Obj)(ha:a.block < w.heap.size)(h:w.cell? a=some u):(w.alloc o).cell? a=some u :=
 (((zB w.heap.size w).alloc (zR _) o).cell ha).trans h
theorem wCells_one(l:List W32):∀u∈wCells l,u.oneCell'=true:=by
 intro u hu;obtain⟨c,_,rfl⟩:=List.mem_map.1 hu;rfl
theorem quiet_add{P:Program}{f:FuncId}{args:Array Value}{w:World}{a n:Nat}{v:Value}
  (h:Calls P f args (w.drewN (a+n)) fun e w'=>e=.returned v/\∃m,w'=(w.drewN (a+n)).drewN m):Calls P f args (w.drewN (a+n)) fun e w''=>e=.returned v/\∃m,w''=w.drewN (a+m) :=
 h.mono fun _ _ ⟨he,m,hm⟩=>⟨he,n+m,by rw[hm,World.drewN_drewN,Nat.add_assoc]⟩
theorem Own.storeAt'{w:World}{base g cap:Nat}{e:TypeId}{n:Nat}{xs:List Value}(h:Own w base e (.slice (some ⟨g,0,none⟩) n cap) xs)(j:Nat)(u:Value):w.frozen? ⟨g,j,none⟩=false/\(∀k,Own ((w.drewN k).setCell ⟨g,j,none⟩ u) base e (.slice (some ⟨g,0,none⟩) n cap) (xs.set j u))/\True :=
 ⟨(h.storeAt j u).1,fun k=>((h.drewN k).storeAt j u).2.1,trivial⟩
theorem add_lit0(g j:Nat):(⟨g,0,none⟩:Addr).add j=⟨g,j,none⟩:=by unfold Addr.add;split <;> simp_all
theorem w4(x:W32):#[Value.int .u8 ((x.toNat:Int) / 16777216),Value.int .u8 ((x.toNat:Int) / 65536 % 256),Value.int .u8 ((x.toNat:Int) / 256 % 256),Value.int .u8 ((x.toNat:Int) % 256)]=(byteVs (wBytes x)).toArray:=by
 have hx:=x.isLt;have h1:((x.toNat:Int) / 16777216)=((UInt8.ofNat (x.toNat / 16777216 % 256)).toNat:Int):=by simp;omega
 have h2:((x.toNat:Int) / 65536 % 256)=((UInt8.ofNat (x.toNat / 65536 % 256)).toNat:Int):=by simp
 have h3:((x.toNat:Int) / 256 % 256)=((UInt8.ofNat (x.toNat / 256 % 256)).toNat:Int):=by simp
 have h4:((x.toNat:Int) % 256)=((UInt8.ofNat (x.toNat % 256)).toNat:Int):=by simp
 rw[h1,h2,h3,h4];rfl
theorem Src.row(w:World)(l:List UInt8):Src Tryz.prog 1 33 (.slice (some ⟨w.heap.size,0,none⟩) l.length l.length) l.length (byteVs l) (w.alloc (.cells (byteVs l).toArray 5)) :=
 Src.ofSlice _ Tryz.underlying33 _ _ _ _ (by rw[byteVs_len,Nat.mul_one]) (fun j u hj=>by rw[add_lit0,cells_row,List.getElem?_toArray];exact hj) (byteVs_one _)
theorem hp_new'(w:World)(o:Obj)(b:Nat)(hb:w.heap.size=b):(w.alloc o).heap[b]?=some o:=by subst hb;exact heap_alloc_new w o
theorem w4'(x:W32):#[Value.int .u8 (IntKind.u8.wrap ((x.toNat:Int) / 16777216)),Value.int .u8 (IntKind.u8.wrap ((x.toNat:Int) / 65536)),Value.int .u8 (IntKind.u8.wrap ((x.toNat:Int) / 256)),Value.int .u8 (IntKind.u8.wrap (x.toNat:Int))]=(byteVs (wBytes x)).toArray:=by
 have hx:=x.isLt;rw[IntKind.wrap_u8,IntKind.wrap_u8,IntKind.wrap_u8,IntKind.wrap_u8,<-w4,show(x.toNat:Int) / 16777216 % 256=(x.toNat:Int) / 16777216 by omega]
theorem Src.at4{w:World}{g:Nat}(x:W32)(h:w.heap[g]?=some (.cells #[Value.int .u8 (IntKind.u8.wrap ((x.toNat:Int) / 16777216)),Value.int .u8 (IntKind.u8.wrap ((x.toNat:Int) / 65536)),Value.int .u8 (IntKind.u8.wrap ((x.toNat:Int) / 256)),Value.int .u8 (IntKind.u8.wrap (x.toNat:Int))] 5)) :
  Src Tryz.prog 1 33 (.slice (some ⟨g,0,none⟩) 4 4) 4 (byteVs (wBytes x)) w:=by
 rw[w4']at h;exact Src.ofSlice _ Tryz.underlying33 _ _ _ _ rfl (fun j u hj=>by rw[add_lit0,cell_of_row _ _ j _ _ _ h,List.getElem?_toArray];exact hj) (byteVs_one _)
theorem below_al1{a w:World}(h:Below a.heap.size a w)(o:Obj):Below a.heap.size a (w.alloc o):=h.alloc h.size _
theorem below_dr1{a w:World}(h:Below a.heap.size a w):Below a.heap.size a w.drew:=⟨h.os,h.tape,h.output,h.size,h.block⟩
theorem be_step(x0:W32)(cb:UInt8):bits .or .u32 ((x0.toNat:Int)*256 % 4294967296) ((cb.toNat:Int) % 4294967296)=((x0 <<< 8 ||| BitVec.ofNat 32 cb.toNat).toNat:Int):=by
 have h1:=w_shl x0 8;rw[show(2:Int) ^ 8=256 from rfl]at h1;have h2:((cb.toNat:Int) % 4294967296)=((BitVec.ofNat 32 cb.toNat).toNat:Int):=by rw[BitVec.toNat_ofNat];have:=cb.toNat_lt;simp;omega
 rw[h1,h2,w_or]
theorem c120'(x:W32)(k:Int)(w:World)(h0:0<=k)(hn:k < 32) :
  Calls Tryz.prog 120 #[.int .u32 (x.toNat:Int),.int .i64 k] w fun e w'=>e=.returned (.int .u32 ((rotr x k.toNat).toNat:Int))/\∃n,w'=w.drewN n:=by
 have:=c120 x k.toNat w (by omega)
 rwa [Int.toNat_of_nonneg h0]at this
theorem sched_eq(x16 x15 x7 x2:W32):((x16.toNat:Int)+bits .xor .u32 (bits .xor .u32 ((rotr x15 7).toNat:Int) ((rotr x15 18).toNat:Int)) ((x15.toNat:Int) / 8)+(x7.toNat:Int) +
  bits .xor .u32 (bits .xor .u32 ((rotr x2 17).toNat:Int) ((rotr x2 19).toNat:Int)) ((x2.toNat:Int) / 1024)) % 4294967296=((x16+sg0 x15+x7+sg1 x2).toNat:Int):=by
 have h1:=w_shr x15 3;have h2:=w_shr x2 10;rw[show(2:Int) ^ 3=8 from rfl]at h1;rw[show(2:Int) ^ 10=1024 from rfl]at h2;rw[h1,h2,w_xor,w_xor,w_xor,w_xor];rw[show rotr x15 7 ^^^ rotr x15 18 ^^^ x15 >>> 3=sg0 x15 from rfl,show rotr x2 17 ^^^ rotr x2 19 ^^^ x2 >>> 10=sg1 x2 from rfl];generalize sg0 x15=a
 generalize sg1 x2=b
 simp only[BitVec.toNat_add];omega
theorem t1_eq(k w e f g h:W32):(((h.toNat:Int)+bits .xor .u32 (bits .xor .u32 ((rotr e 6).toNat:Int) ((rotr e 11).toNat:Int)) ((rotr e 25).toNat:Int) +
  bits .xor .u32 (bits .and .u32 (e.toNat:Int) (f.toNat:Int)) (bits .and .u32 (bits .xor .u32 (if IntKind.u32.signed=true then -1 else IntKind.u32.max) (e.toNat:Int)) (g.toNat:Int))+(k.toNat:Int)) % 4294967296+(w.toNat:Int)) % 4294967296=((t1M k w e f g h).toNat:Int):=by
 rw[show(if IntKind.u32.signed=true then -1 else IntKind.u32.max)=4294967295 from rfl,w_not,w_and,w_and,w_xor,w_xor,w_xor];rw[show rotr e 6 ^^^ rotr e 11 ^^^ rotr e 25=bs1 e from rfl,show(e &&& f) ^^^ (~~~e &&& g)=chM e f g from rfl];unfold t1M;generalize bs1 e=a
 generalize chM e f g=b
 simp only[BitVec.toNat_add];omega
theorem t2_eq(a b c:W32):(bits .xor .u32 (bits .xor .u32 ((rotr a 2).toNat:Int) ((rotr a 13).toNat:Int)) ((rotr a 22).toNat:Int) +
  bits .xor .u32 (bits .xor .u32 (bits .and .u32 (a.toNat:Int) (b.toNat:Int)) (bits .and .u32 (a.toNat:Int) (c.toNat:Int))) (bits .and .u32 (b.toNat:Int) (c.toNat:Int))) % 4294967296=((t2M a b c).toNat:Int):=by
 rw[w_and,w_and,w_and,w_xor,w_xor,w_xor,w_xor,w_add];rfl
def z64 : Array Value:=#[.int .u32 0,.int .u32 0,.int .u32 0,.int .u32 0,.int .u32 0,.int .u32 0,.int .u32 0,.int .u32 0,.int .u32 0,.int .u32 0,.int .u32 0,.int .u32 0,.int .u32 0,.int .u32 0,.int .u32 0,.int .u32 0,.int .u32 0,.int .u32 0,.int .u32 0,.int .u32 0,.int .u32 0,.int .u32 0,.int .u32 0,.int .u32 0,.int .u32 0,.int .u32 0,.int .u32 0,.int .u32 0,.int .u32 0,.int .u32 0,.int .u32 0,.int .u32 0,.int .u32 0,.int .u32 0,.int .u32 0,.int .u32 0,.int .u32 0,.int .u32 0,.int .u32 0,.int .u32 0,.int .u32 0,.int .u32 0,.int .u32 0,.int .u32 0,.int .u32 0,.int .u32 0,.int .u32 0,.int .u32 0,.int .u32 0,.int .u32 0,.int .u32 0,.int .u32 0,.int .u32 0,.int .u32 0,.int .u32 0,.int .u32 0,.int .u32 0,.int .u32 0,.int .u32 0,.int .u32 0,.int .u32 0,.int .u32 0,.int .u32 0,.int .u32 0]
theorem shc(n:Nat)(h:n < 32)(h0:0 < n):bits .and .u64 (IntKind.u64.wrap (-(n:Int))) 31=32 - (n:Int):=by
 have key:∀k:Fin 32,0 < k.val->bits .and .u64 (IntKind.u64.wrap (-(k.val:Int))) 31=32 - (k.val:Int):=by decide
 exact key ⟨n,h⟩ h0
theorem c149(x:W32)(n:Nat)(w:World)(hn:n < 32)(h0:0 < n) :
  Calls Tryz.prog 149 #[.int .u32 (x.toNat:Int),.int .i64 (-(n:Int))] w fun e w'=>e=.returned (.int .u32 ((rotr x n).toNat:Int))/\w=w':=by
 have h1:=shc n hn h0;have hb:(0:Int)<=32 - (n:Int):=by omega
 have hb2:(0:Int)<=32 - (32 - (n:Int)):=by omega
 go_enter Tryz.func149,Tryz.ntmps149;go_wp2;go_ret
 exact⟨ret_eq (by rw[show 32 - (32 - n)=n from by omega,w_shr,w_shl,w_or,BitVec.or_comm];rfl),rfl⟩
def KRow(w:World):Prop:=∀(i:Nat) (x:W32),KL[i]?=some x->w.cell? ⟨6,i,none⟩=some (.int .u32 (x.toNat:Int))
def digC(st:List W32)(bv:Value):Array Value:=(wCells st++[bv]).toArray
noncomputable def loopsOf : Code->List Code
 |.loop c=>c::loopsOf c
 |.seq a b=>loopsOf a++loopsOf b
 |.block _ c=>loopsOf c
 |.scope c=>loopsOf c
 |.cond _ a b=>loopsOf a++loopsOf b
 |_=>[]
noncomputable def loop140(k:Nat):Code:=(((Tryz.f140.body.map loopsOf).getD [])[k]?).getD .skip
end Go.Proofs.YtnkihlpmmfeioaaGreatDoor
