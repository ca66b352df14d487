/- Part of the proof that laws.FnDVerifies answers true: K0,A1 -/
import Derived.Test.YtnkihlpmmfeioaaGreatDoorZ00
import Derived.Test.YtnkihlpmmfeioaaGreatDoorProg
import Derived.WalkKit
import Derived.WalkSpells
import Derived.WalkLawsBesides
import Derived.KernelRfl
import Derived.Deep.LoopGhost
import Derived.Deep.Light
import Derived.Deep.QuietTactic
import Derived.BigQuiet
import Derived.Lib.Hide
import Derived.Lib.Strings
import Derived.Lib.IndexBytes
import Derived.Maps.AppendAt
import Derived.Laws.BytesArg
import Derived.Lib.ConvBytes
set_option linter.unusedVariables false
set_option linter.unusedSimpArgs false
set_option maxRecDepth 1000000
set_option maxHeartbeats 16000000
namespace Go.Proofs.YtnkihlpmmfeioaaGreatDoor
open Go.RowKit
def B(l:List UInt8):ByteArray:=⟨l.toArray⟩
theorem L_B(l:List UInt8):(B l).data.toList=l:=rfl
theorem B_L(s:ByteArray):B s.data.toList=s:=Lib.mk_data s
theorem size_B(l:List UInt8):(B l).size=l.length:=rfl
theorem size_L(s:ByteArray):s.data.toList.length=s.size:=rfl
theorem drop_at(s:ByteArray)(k:Nat)(h:k < s.size):s.data.toList.drop k=s[k]::s.data.toList.drop (k+1):=by
 rw[List.drop_eq_getElem_cons (by rw[size_L];exact h)];rfl
theorem take_at(s:ByteArray)(k:Nat)(h:k < s.size)(l:List UInt8):s.data.toList.take (k+1)++l=s.data.toList.take k++s[k]::l:=by
 rw[List.take_succ_eq_append_getElem (by rw[size_L];exact h),List.append_assoc];rfl
theorem drop_end(s:ByteArray)(k:Nat)(h:¬k < s.size):s.data.toList.drop k=[]:=List.drop_eq_nil_of_le (by rw[size_L];omega)
theorem L_extract(s:ByteArray)(a b:Nat):(s.extract a b).data.toList=(s.data.toList.drop a).take (b - a):=Lib.extract_data s a b
theorem L_append(s t:ByteArray):(s++t).data.toList=s.data.toList++t.data.toList:=by simp
theorem ret_eq{v v':Value}(h:v=v'):Ending.returned v=.returned v':=by rw[h]
theorem str_eq{a:ByteArray}{l:List UInt8}(h:a.data.toList=l):Value.string a=.string (B l):=by rw[<-h,B_L]
theorem bool_eq{a b:Bool}(h:a=b):Value.bool a=.bool b:=by rw[h]
theorem int_eq{k:IntKind}{a b:Int}(h:a=b):Value.int k a=.int k b:=by rw[h]
theorem tup2{a b a' b':Value}(h1:a=a')(h2:b=b'):Ending.returned (.tuple #[a,b])=.returned (.tuple #[a',b']):=by rw[h1,h2]
theorem tup3{a b c a' b' c':Value}(h1:a=a')(h2:b=b')(h3:c=c'):Ending.returned (.tuple #[a,b,c])=.returned (.tuple #[a',b',c']):=by rw[h1,h2,h3]
theorem below_drewN{B:Nat}{a w:World}(h:Below B a w)(n:Nat):Below B a (w.drewN n):=⟨h.os,h.tape,h.output,h.size,h.block⟩
theorem below_then{B:Nat}{w w1 w2:World}(h:Below B w w1)(hB:B<=w1.heap.size)(k:Below w1.heap.size w1 w2):Below B w w2:=h.trans (k.mono hB)
theorem bthen{w w1 w2:World}(h:Below w.heap.size w w1)(k:Below w1.heap.size w1 w2):Below w.heap.size w w2:=below_then h h.size k
theorem below_of_drewN{w w':World}(h:∃n,w'=w.drewN n):Below w.heap.size w w':=by obtain⟨n,rfl⟩:=h;exact below_drewN (zB _ _) n
def byteV(c:UInt8):Value:=.int .u8 (c.toNat:Int)
def strV(x:List UInt8):Value:=.string (B x)
theorem info5 : (Tryz.prog.info? 5).map (fun i=>(i.zero,i.size,i.bytes))=some (some (.int .u8 0),1,1):=by kernel_rfl
theorem info9 : (Tryz.prog.info? 9).map (fun i=>(i.zero,i.size,i.bytes))=some (some (.string ⟨#[]⟩),1,16):=by kernel_rfl
def Own(w:World)(base:Nat)(e:TypeId)(v:Value)(xs:List Value):Prop:=w.ownsRow base e 1 v xs.length xs
theorem Own.nil(w:World)(base:Nat)(e:TypeId):Own w base e (.slice none 0 0) []:=⟨rfl,.inl ⟨rfl,rfl⟩⟩
theorem Own.drewN{w:World}{base:Nat}{e:TypeId}{v:Value}{xs:List Value}(h:Own w base e v xs)(n:Nat):Own (w.drewN n) base e v xs:=h
theorem Own.grown{w w':World}{base:Nat}{e:TypeId}{v:Value}{xs:List Value}(h:Own w base e v xs){row:Option Nat}(hg:w.grownBy w' row)(hne:v.ownBlock=none\/v.ownBlock≠row):Own w' base e v xs:=h.kept hg hne
theorem Own.below{w w':World}{base:Nat}{e:TypeId}{v:Value}{xs:List Value}(h:Own w base e v xs)(hb:Below w.heap.size w w'):Own w' base e v xs :=
 h.kept (row:=none) ⟨hb.os,hb.tape,hb.output,hb.size,fun k hk _=>hb.block k hk⟩ (by cases v.ownBlock <;> simp)
theorem Own.alloc{w:World}{base:Nat}{e:TypeId}{v:Value}{xs:List Value}(h:Own w base e v xs)(o:Obj):Own (w.alloc o) base e v xs:=World.ownsRow.alloc h o
theorem Own.slice{w:World}{base:Nat}{e:TypeId}{v:Value}{xs:List Value}(h:Own w base e v xs) :
  ∃A c,v=.slice A xs.length c/\xs.length<=c/\(0 < xs.length->∃g,A=some ⟨g,0,none⟩/\base<=g/\g < w.heap.size/\∀j u,xs[j]?=some u->w.cell? ⟨g,j,none⟩=some u):=by
 rcases h.2 with⟨rfl,h0⟩|⟨g,cap,cur,rfl,hg,hh,hn,_⟩
 ·exact⟨none,0,by rw[h0],by omega,fun hp=>absurd hp (by omega)⟩
 refine⟨_,cap,rfl,hn,fun _=>⟨g,rfl,hg,(Array.getElem?_eq_some_iff.1 hh).1,fun j u hu=>?_⟩⟩;have:=World.ownsRow.cells h (g:=g) rfl j u hu
 rwa [show(⟨g,0,none⟩:Addr).add j=⟨g,j,none⟩from by unfold Addr.add;split <;> simp_all]at this
theorem Own.mono{w:World}{base base':Nat}{e:TypeId}{v:Value}{xs:List Value}(h:Own w base e v xs)(hb:base'<=base):Own w base' e v xs:=by
 obtain⟨h1,h2⟩:=h;rcases h2 with h2|⟨g,cap,cur,r1,r2,r3⟩
 ·exact⟨h1,.inl h2⟩
 exact⟨h1,.inr ⟨g,cap,cur,r1,zT hb r2,r3⟩⟩
section
variable {ops:Array Oper}{rest:List Oper}{o:Oper}{a:Act}{Q:Exit->Act->World->Prop}
theorem wp_app1{t e bytes:Nat}{z:Value}(ht:Tryz.prog.underlying t=some (.slice e))(hinfo:(Tryz.prog.info? e).map (fun i=>(i.zero,i.size,i.bytes))=some (some z,1,bytes))(hz:z.cells.size=1)
  (hgd:o.guard=none)(s x:Operand)(ho:o.op=.call { callee:=.builtin .append,args:=#[s,x],argTypes:=#[t,t] })
  {w:World} {base:Nat} {v:Value} {xs:List Value} (hs:a.eval s=v) (how:Own w base e v xs) (hbs:base<=w.heap.size) (u:Value) (hu:u.oneCell'=true) (hx:a.eval x=.slice (some ⟨w.heap.size,0,none⟩) 1 1)
  (hlen:(xs.length+1)*bytes<=140737488355328) (hb1:0 < bytes)
  (h:∀v' w',Own w' base e v' (xs++[u])->w.grownBy w' v.ownBlock->(∀w0,Below base w0 w->Below base w0 w')->(v'.ownBlock=v.ownBlock\/v'.ownBlock=some (w.heap.size+1))->wpList Tryz.prog ops Q rest (a.put o.dst v') w') :
  wpList Tryz.prog ops Q (o::rest) a (w.alloc (.cells #[u] e)):=by
 obtain⟨i,hi,hz0,hz1,hz2⟩:=info_parts hinfo;have hn:xs.length+1<=maxLen:=by
  unfold maxLen;have:xs.length+1<=(xs.length+1)*bytes:=Nat.le_mul_of_pos_right _ hb1;omega
 refine wpList_append_own_at (P:=Tryz.prog) (w.alloc (.cells #[u] e)) hgd s x t ho base e i z 1 bytes ht hi hz0 hz1 hz2 hz (by decide) v xs.length xs hs (World.ownsRow.alloc how _)
  ⟨w.heap.size,0,none⟩ 1 1 [u] hx rfl (cell_one_new w u e) (by simpa using hu) hn hlen (by simp;omega) ?_
 intro v' w' h1 h2 h3 h4;have hall:w.grownBy w' v.ownBlock:=(World.grownBy_alloc w _ _).trans h2;refine h v' w' (by unfold Own;simpa using h1) hall (fun w0 hb=>hb.grown hall hbs fun k hk=>?_) (by simpa using h4);exact(World.ownsRow.lt how k hk).1
end
def blank(c:UInt8):Bool:=(c.toNat:Int) == 32 || (c.toNat:Int) == 9 || (c.toNat:Int) == 13 || (c.toNat:Int) == 10
theorem blank_iff(c:UInt8):blank c=true↔((c.toNat:Int)=32\/(c.toNat:Int)=9\/(c.toNat:Int)=13\/(c.toNat:Int)=10):=by
 simp[blank,or_assoc]
theorem c88(c:UInt8)(w:World):Calls Tryz.prog 88 #[.int .u8 (c.toNat:Int)] w fun e w'=>e=.returned (.bool (blank c))/\w=w':=by
 obtain⟨r,hr⟩:∃r,Hid (blank c=r):=⟨_,rfl⟩;rw[hr.out];go_enter Tryz.func88,Tryz.ntmps88;go_wp2;all_goals (go_ret;refine⟨ret_eq (bool_eq ?_),rfl⟩;rw[<-hr.out];unfold blank;simp[*])
theorem isEmpty_pos{s:ByteArray}(h:0 < s.size):s.toList.isEmpty=false:=by
 rw[Lib.toList_data,List.isEmpty_eq_false_iff];intro he;have:s.data.toList.length=0:=by rw[he];rfl
 rw[size_L]at this;omega
theorem nil_of_size{s:ByteArray}(h:s.size=0):s.data.toList=[]:=List.eq_nil_of_length_eq_zero (by rw[size_L];exact h)
theorem toList_nil{s:ByteArray}(h:s.size=0):s.toList=[]:=by rw[Lib.toList_data];exact nil_of_size h
theorem L_at0(s:ByteArray)(h:0 < s.size):s.data.toList=s[0]::s.data.toList.drop 1:=by
 have:=drop_at s 0 h;simpa using this
theorem L_last(s:ByteArray)(h:s.size - 1 < s.size):s.data.toList=s.data.toList.take (s.size - 1)++[s[s.size - 1]]:=by
 have:=take_at s (s.size - 1) h [];rw[show s.size - 1+1=s.data.toList.length from by rw[size_L];omega,List.take_length,List.append_nil]at this;exact this
def trimL : List UInt8->List UInt8
 |[]=>[]
 |c::l=>if blank c=true then trimL l else c::l
def trimR(l:List UInt8):List UInt8:=(trimL l.reverse).reverse
def trim(l:List UInt8):List UInt8:=trimR (trimL l)
theorem trimR_snoc(l:List UInt8)(x:UInt8):trimR (l++[x])=if blank x=true then trimR l else l++[x]:=by
 unfold trimR;rw[List.reverse_append];simp only[List.reverse_cons,List.reverse_nil,List.nil_append,List.singleton_append,trimL];split <;> simp
theorem c56(s:ByteArray)(w:World)(hs:s.size<=9223372036854775807) :
  Calls Tryz.prog 56 #[.string s] w fun e w'=>e=.returned (.string (B (trim s.data.toList)))/\∃n,w'=w.drewN n:=by
 go_enter Tryz.func56,Tryz.ntmps56;go_wp2;go_loopg [0] s.size (fun g v w'=>∃s1:ByteArray,Hid (s1.size=g)/\s1.size<=s.size/\v=.string s1/\Hid (trimL s1.data.toList=trimL s.data.toList)/\∃n,w'=w.drewN n)
 case atStart=>exact⟨s,rfl,zR _,rfl,rfl,0,rfl⟩
 obtain⟨s1,hk,hle,rfl,hp,n,rfl⟩:=hrel;by_cases hz:0 < s1.size
 ·have he:=isEmpty_pos hz
  cases hb:blank s1[0]with
  |true =>
   have Hb:=zH hb;clear hb;go_wp2_with (go_at_call 88;refine(c88 _ _).mono ?_;rintro e w'⟨rfl,rfl⟩;rw[Hb.out]);go_roundg (gk - 1)
   case measure=>have:=hk.out;omega
   case rel =>
    refine⟨_,?_,?_,rfl,?_,n,rfl⟩
    ·have:=hk.out;unfold Hid;simp;try omega
    ·simp;try omega
    have:=hp.out;rw[L_at0 s1 hz]at this;simp only[trimL,if_pos Hb.out]at this;unfold Hid;rw[Lib.extract_to_end];exact this
  |false =>
   have Hb:=zH hb;clear hb;have ht:Hid (trimL s.data.toList=s1.data.toList):=by
    have:=hp.out;rw[L_at0 s1 hz]at this;simp only[trimL,Hb.out,Bool.false_eq_true,if_false]at this;unfold Hid;rw[L_at0 s1 hz];exact this.symm
   go_wp2_with (go_at_call 88;refine(c88 _ _).mono ?_;rintro e w'⟨rfl,rfl⟩;rw[Hb.out]);go_loopg [0] s1.size (fun g v w'=>∃s2:ByteArray,Hid (s2.size=g)/\s2.size<=s1.size/\v=.string s2/\Hid (trimR s2.data.toList=trimR s1.data.toList)/\∃n,w'=w.drewN n)
   case atStart=>exact⟨s1,rfl,zR _,rfl,rfl,_,rfl⟩
   obtain⟨s2,hk2,hle2,rfl,hp2,n2,rfl⟩:=hrel;by_cases hz2:0 < s2.size
   ·have he2:=isEmpty_pos hz2
    have hl:=L_last s2 (by omega);cases hb2:blank (s2[s2.size - 1]'(by omega))with
    |true =>
     have Hb2:=zH (And.intro hb2 hl);clear hb2 hl;go_wp2_with (go_at_call 88;refine(c88 _ _).mono ?_;rintro e w'⟨rfl,rfl⟩;rw[Hb2.out.1]);go_roundg (gk - 1)
     case measure=>have:=hk2.out;omega
     case rel =>
      refine⟨_,?_,?_,rfl,?_,n2,rfl⟩
      ·have:=hk2.out;unfold Hid;simp;try omega
      ·simp;try omega
      have:=hp2.out;rw[Hb2.out.2,trimR_snoc,if_pos Hb2.out.1]at this;unfold Hid;rw[L_extract,<-this];rfl
    |false =>
     have Hb2:=zH (And.intro hb2 hl);clear hb2 hl;go_wp2_with (go_at_call 88;refine(c88 _ _).mono ?_;rintro e w'⟨rfl,rfl⟩;rw[Hb2.out.1]);go_ret
     refine⟨ret_eq (str_eq ?_),_,rfl⟩;have:=hp2.out;rw[Hb2.out.2,trimR_snoc,if_neg (by rw[Hb2.out.1];decide),<-Hb2.out.2]at this;rw[trim,ht.out,<-this]
   have he2:=toList_nil (s:=s2) (by omega);go_wp2;go_ret
   refine⟨ret_eq (str_eq ?_),_,rfl⟩;have:=hp2.out;rw[nil_of_size (s:=s2) (by omega)]at this;rw[trim,ht.out,<-this,nil_of_size (s:=s2) (by omega)];rfl
 have he:=toList_nil (s:=s1) (by omega);have ht:Hid (trimL s.data.toList=s1.data.toList):=by
  have:=hp.out;rw[nil_of_size (s:=s1) (by omega)]at this;unfold Hid;rw[nil_of_size (s:=s1) (by omega)];exact this.symm
 go_wp2;go_loopg [0] s1.size (fun g v w'=>∃s2:ByteArray,Hid (s2.size=g)/\s2.size<=s1.size/\v=.string s2/\Hid (trimR s2.data.toList=trimR s1.data.toList)/\∃n,w'=w.drewN n)
 case atStart=>exact⟨s1,rfl,zR _,rfl,rfl,_,rfl⟩
 obtain⟨s2,hk2,hle2,rfl,hp2,n2,rfl⟩:=hrel;by_cases hz2:0 < s2.size
 ·omega
 have he2:=toList_nil (s:=s2) (by omega);go_wp2;go_ret
 refine⟨ret_eq (str_eq ?_),_,rfl⟩;have:=hp2.out;rw[nil_of_size (s:=s2) (by omega)]at this;rw[trim,ht.out,<-this,nil_of_size (s:=s2) (by omega)];rfl
def cutA(c:Int):List UInt8->List UInt8
 |[]=>[]
 |x::l=>if(x.toNat:Int)=c then[]else x::cutA c l
def cutZ(c:Int):List UInt8->List UInt8
 |[]=>[]
 |x::l=>if(x.toNat:Int)=c then l else cutZ c l
def cutF(c:Int):List UInt8->Bool
 |[]=>false
 |x::l=>if(x.toNat:Int)=c then true else cutF c l
theorem c55(s:ByteArray)(c:Int)(w:World)(hs:s.size<=9223372036854775807) :
  Calls Tryz.prog 55 #[.string s,.int .u8 c] w fun e w'=>e=.returned (.tuple #[.string (B (cutA c s.data.toList)),.string (B (cutZ c s.data.toList)),.bool (cutF c s.data.toList)])/\∃n,w'=w.drewN n:=by
 obtain⟨ra,rz,rf,hr⟩:∃ra rz rf,Hid (cutA c s.data.toList=ra/\cutZ c s.data.toList=rz/\cutF c s.data.toList=rf):=⟨_,_,_,rfl,rfl,rfl⟩;rw[hr.out.1,hr.out.2.1,hr.out.2.2];go_enter Tryz.func55,Tryz.ntmps55;go_wp2;go_loopg [7] s.size (fun g i w'=>∃k:Nat,Hid (k+g=s.size)/\i=.int .i64 k/\Hid (s.data.toList.take k++cutA c (s.data.toList.drop k)=ra/\cutZ c (s.data.toList.drop k)=rz/\cutF c (s.data.toList.drop k)=rf)/\w=w')
 case atStart=>exact⟨0,Nat.zero_add _,rfl,hr,rfl⟩
 obtain⟨k,hk,rfl,hp,rfl⟩:=hrel;have hk':k<=s.size:=by have:=hk.out;omega
 by_cases hlt:k < s.size
 ·rw[drop_at s k hlt]at hp
  by_cases h1:(s[k].toNat:Int)=c
  ·obtain⟨p1,p2,p3⟩:=hp.out
   clear hp;simp only[cutA,cutZ,cutF,if_pos h1]at p1 p2 p3;have H1:=zH (And.intro h1 (And.intro p1 (And.intro p2 p3)));have b1:((s[k].toNat:Int) == c)=true:=by simp[h1]
   clear h1 p1 p2 p3;go_wp2;go_quiet (fail)
   go_wp2
   go_ret3
   obtain⟨_,q1,q2,q3⟩:=H1.out;exact⟨tup3 (str_eq (by rw[L_extract,<-q1];simp)) (str_eq (by rw[Lib.extract_to_end,<-q2])) (bool_eq q3),_,rfl⟩
  obtain⟨p1,p2,p3⟩:=hp.out;clear hp;simp only[cutA,cutZ,cutF,if_neg h1]at p1 p2 p3;have b1:((s[k].toNat:Int) == c)=false:=by simp[h1]
  have H1:=zH (And.intro p1 (And.intro p2 p3));clear h1 p1 p2 p3;go_wp2;go_roundg (gk - 1)
  case measure=>have:=hk.out;omega
  case rel=>exact⟨k+1,by have:=hk.out;unfold Hid;omega,by go_num,by rw[take_at s k hlt];exact H1,rfl⟩
 rw[drop_end s k hlt]at hp;go_wp2
 go_ret3
 obtain⟨q1,q2,q3⟩:=hp.out;exact⟨tup3 (str_eq (by rw[<-q1];simp[cutA];rw[List.take_of_length_le (by rw[size_L];omega)])) (str_eq q2) (bool_eq q3),0,rfl⟩
def strip : List UInt8->List UInt8
 |[]=>[]
 |c::l=>if blank c=true then strip l else c::strip l
theorem run_str{w:World}{base:Nat}{v:Value}{l:List UInt8}(h:Own w base 5 v (l.map byteV)):(convert 33 9 v).run Tryz.prog w=.ok (.string (B l)) w:=by
 obtain⟨A,c,rfl,hc,hg⟩:=h.slice;rcases Nat.eq_zero_or_pos (l.map byteV).length with h0|h0
 ·have hl:l=[]:=by simpa using h0
  subst hl;rcases h.2 with⟨he,_⟩|⟨g,cap,cur,he,_⟩
  ·injection he with he1 he2 he3;subst he1
   exact run_convert_bytes_nil w 33 5 Tryz.underlying33 Tryz.underlying5 _ _ 9 Tryz.underlying9
  injection he with he1 he2 he3;subst he1
  have:=run_convert_bytes_arg (P:=Tryz.prog) w 33 5 Tryz.underlying33 Tryz.underlying5 g 0 0 c [] rfl (fun i hi=>absurd hi (by omega)) 9 Tryz.underlying9;exact this
 obtain⟨g,rfl,_,_,hcell⟩:=hg h0;have:=run_convert_bytes_arg (P:=Tryz.prog) w 33 5 Tryz.underlying33 Tryz.underlying5 g 0 (l.map byteV).length c (l.map fun c=>(c.toNat:Int)) (by simp) (fun i hi=>by
  rw[Nat.zero_add,hcell i (.int .u8 ((l.map fun c=>(c.toNat:Int)).getD i 0))];have hi':i < l.length:=by simpa using hi
  simp[byteV,List.getElem?_map,zG hi',List.getD_eq_getElem?_getD]) 9 Tryz.underlying9
 rw[this];congr 2
 unfold strOfNums B;congr 2
 rw[List.map_map];exact(List.map_congr_left (g:=id) (fun c _=>by simp)).trans (List.map_id l)
theorem c50(s:ByteArray)(w:World)(hs:s.size<=140737488355328) :
  Calls Tryz.prog 50 #[.string s] w fun e w'=>e=.returned (.string (B (strip s.data.toList)))/\Below w.heap.size w w':=by
 go_enter Tryz.func50,Tryz.ntmps50;go_wp2;go_loopg [3,4] s.size (fun g v i w'=>∃k:Nat,∃out:List UInt8,Hid (k+g=s.size)/\i=.int .i64 k/\Hid (out++strip (s.data.toList.drop k)=strip s.data.toList/\out.length<=k)/\Hid (Own w' w.heap.size 5 v (out.map byteV))/\Hid (Below w.heap.size w w'))
 case atStart=>exact⟨0,[],Nat.zero_add _,rfl,⟨rfl,zR _⟩,Own.nil _ _ _,zB _ _⟩
 obtain⟨k,out,hk,rfl,hp,ho,hb⟩:=hrel;have hk':k<=s.size:=by have:=hk.out;omega
 by_cases hlt:k < s.size
 ·rw[drop_at s k hlt]at hp
  obtain⟨p1,p2⟩:=hp.out;clear hp;cases hbl:blank s[k]with
  |true =>
   simp only[strip,if_pos hbl]at p1;have H1:=zH (And.intro hbl (And.intro p1 p2));clear hbl p1 p2;go_wp2_with (go_at_call 88;refine(c88 _ _).mono ?_;rintro e w'⟨rfl,rfl⟩;rw[H1.out.1]);go_roundg (gk - 1)
   case measure=>have:=hk.out;omega
   case rel=>exact⟨k+1,out,by have:=hk.out;unfold Hid;omega,by go_num,⟨H1.out.2.1,Nat.le_succ_of_le H1.out.2.2⟩,ho,hb⟩
  |false =>
   simp only[strip,hbl,Bool.false_eq_true,if_false]at p1;have H1:=zH (And.intro hbl (And.intro p1 p2));clear hbl p1 p2;go_wp2_with (first
    |(go_at_call 88;refine(c88 _ _).mono ?_;rintro e w'⟨rfl,rfl⟩;rw[H1.out.1])
    |(at_builtin;refine wp_app1 Tryz.underlying33 info5 rfl rfl (.tmp 16) (.tmp 20) rfl rfl ho.out hb.out.size (byteV s[k]) rfl rfl (by simp;have:=H1.out.2.2;omega) (by decide) ?_;intro v1 w1 ho1 hg1 hb1 hl1))
   go_roundg (gk - 1)
   case measure=>have:=hk.out;omega
   case rel=>exact⟨k+1,out++[s[k]],by have:=hk.out;unfold Hid;omega,by go_num,⟨by rw[List.append_assoc];exact H1.out.2.1,by simp;have:=H1.out.2.2;omega⟩,by unfold Hid;simpa using ho1,hb1 _ hb.out⟩
 rw[drop_end s k hlt]at hp;have hcv:=run_str ho.out;go_wp2;go_ret
 exact⟨ret_eq (str_eq (by rw[<-hp.out.1];simp[strip,L_B])),hb.out⟩
def split(c:Int):List UInt8->List (List UInt8)
 |[]=>[[]]
 |x::l=>if(x.toNat:Int)=c then[]::split c l else match split c l with
  |h::t=>(x::h)::t
  |[]=>[[x]]
theorem split_ne(c:Int)(l:List UInt8):split c l≠[]:=by
 cases l with
 |nil=>simp[split]
 |cons x l=>unfold split;split;simp;split <;> simp
theorem split_found(c:Int)(l:List UInt8)(h:cutF c l=true):split c l=cutA c l::split c (cutZ c l):=by
 induction l with
 |nil=>simp[cutF]at h
 |cons x l ih =>
  by_cases hx:(x.toNat:Int)=c
  ·simp[split,cutA,cutZ,hx]
  simp only[cutF,if_neg hx]at h;simp only[split,cutA,cutZ,if_neg hx,ih h]
theorem split_none(c:Int)(l:List UInt8)(h:cutF c l=false):split c l=[cutA c l]:=by
 induction l with
 |nil=>rfl
 |cons x l ih =>
  by_cases hx:(x.toNat:Int)=c
  ·simp[cutF,hx]at h
  simp only[cutF,if_neg hx]at h;simp only[split,cutA,if_neg hx,ih h]
theorem cutZ_lt(c:Int)(l:List UInt8)(h:cutF c l=true):(cutZ c l).length < l.length:=by
 induction l with
 |nil=>simp[cutF]at h
 |cons x l ih =>
  by_cases hx:(x.toNat:Int)=c
  ·simp[cutZ,hx]
  simp only[cutF,if_neg hx]at h;simp only[cutZ,if_neg hx,List.length_cons];have:=ih h;omega
theorem c31(s:ByteArray)(c:Int)(w:World)(hs:s.size<=1073741824) :
  Calls Tryz.prog 31 #[.string s,.int .u8 c] w fun e w'=>∃v,e=.returned v/\Own w' w.heap.size 9 v ((split c s.data.toList).map strV)/\Below w.heap.size w w':=by
 go_enter Tryz.func31,Tryz.ntmps31;go_wp2;go_loopg [0,5] s.size (fun g v0 v w'=>∃s1:ByteArray,∃out:List (List UInt8),Hid (s1.size=g)/\s1.size<=s.size/\v0=.string s1/\Hid (out++split c s1.data.toList=split c s.data.toList/\out.length+s1.size<=s.size)/\Hid (Own w' w.heap.size 9 v (out.map strV))/\Hid (Below w.heap.size w w'))
 case atStart=>exact⟨s,[],rfl,zR _,rfl,⟨rfl,by simp⟩,Own.nil _ _ _,zB _ _⟩
 obtain⟨s1,out,hk,hle,rfl,hp,ho,hb⟩:=hrel;obtain⟨p1,p2⟩:=hp.out;clear hp;cases hf:cutF c s1.data.toList with
 |true =>
  rw[split_found c _ hf]at p1;have hz:=cutZ_lt c _ hf;rw[size_L]at hz;have H1:=zH (And.intro hf (And.intro p1 (And.intro p2 hz)));clear hf p1 p2 hz;go_wp2_with (first
   |(go_at_call 55;refine(c55 _ _ _ (by omega)).mono ?_;rintro e w1⟨rfl,hn⟩;rw[H1.out.1];have hb1:=below_of_drewN hn;have ho1:=ho.out.below hb1;have hb2:=below_then hb.out hb.out.size hb1;clear hn hb1)
   |(at_builtin;refine wp_app1 Tryz.underlying34 info9 rfl rfl (.tmp 16) (.tmp 18) rfl rfl ho1 hb2.size (strV (cutA c s1.data.toList)) rfl rfl (by simp;have:=H1.out.2.2;omega) (by decide) ?_;intro v2 w2 ho2 hg2 hb3 hl2))
  go_roundg (cutZ c s1.data.toList).length
  case measure=>have:=hk.out;have:=H1.out.2.2.2;omega
  case rel=>exact⟨B (cutZ c s1.data.toList),out++[cutA c s1.data.toList],rfl,by have:=H1.out.2.2.2;rw[size_B];omega,rfl,⟨by rw[List.append_assoc];exact H1.out.2.1,by have:=H1.out.2.2;simp[size_B];omega⟩,by unfold Hid;simpa using ho2,hb3 _ hb2⟩
 |false =>
  rw[split_none c _ hf]at p1;have H1:=zH (And.intro hf (And.intro p1 p2));clear hf p1 p2;go_wp2_with (first
   |(go_at_call 55;refine(c55 _ _ _ (by omega)).mono ?_;rintro e w1⟨rfl,hn⟩;rw[H1.out.1];have hb1:=below_of_drewN hn;have ho1:=ho.out.below hb1;have hb2:=below_then hb.out hb.out.size hb1;clear hn hb1)
   |(at_builtin;refine wp_app1 Tryz.underlying34 info9 rfl rfl (.tmp 16) (.tmp 18) rfl rfl ho1 hb2.size (strV (cutA c s1.data.toList)) rfl rfl (by simp;have:=H1.out.2.2;omega) (by decide) ?_;intro v2 w2 ho2 hg2 hb3 hl2))
  go_ret
  exact⟨_,rfl,by rw[<-H1.out.2.1];simpa using ho2,hb3 _ hb2⟩
def RowAt(w:World)(g:Nat)(l:List UInt8):Prop:=∃cs fr,w.heap[g]?=some (.cells cs 5 fr)/\(∀(i:Nat) (c:UInt8),l[i]?=some c->cs[i]?=some (byteV c))/\∀i:Nat,i < l.length->(decide (fr.1<=i) && decide (i < fr.2))=false
theorem RowAt.lt{w:World}{g:Nat}{l:List UInt8}(h:RowAt w g l):g < w.heap.size:=by
 obtain⟨cs,fr,h1,_⟩:=h;exact(Array.getElem?_eq_some_iff.1 h1).1
theorem RowAt.cell{w:World}{g:Nat}{l:List UInt8}(h:RowAt w g l){i:Nat}{c:UInt8}(hc:l[i]?=some c):w.cell? ⟨g,i,none⟩=some (byteV c):=by
 obtain⟨cs,fr,h1,h2,_⟩:=h;simp[World.cell?,h1,h2 i c hc]
theorem RowAt.free{w:World}{g:Nat}{l:List UInt8}(h:RowAt w g l){i:Nat}(hi:i < l.length):w.frozen? ⟨g,i,none⟩=false:=by
 obtain⟨cs,fr,h1,_,h3⟩:=h;simp only[World.frozen?,h1];exact h3 i hi
theorem RowAt.set_{w:World}{g:Nat}{l:List UInt8}(h:RowAt w g l)(i:Nat)(c:UInt8):RowAt (w.setCell ⟨g,i,none⟩ (byteV c)) g (l.set i c):=by
 obtain⟨cs,fr,h1,h2,h3⟩:=h;refine⟨cs.setIfInBounds i (byteV c),fr,?_,?_,by simpa using h3⟩
 ·simp[World.setCell,Array.getElem?_modify,h1]
 intro j d hj;have hjl:j < l.length:=by
  have:=(List.getElem?_eq_some_iff.1 hj).1;simpa using this
 rw[List.getElem?_set]at hj;have hcs:j < cs.size:=by
  have:=h2 j l[j] (zG hjl);exact(Array.getElem?_eq_some_iff.1 this).1
 by_cases hij:i=j
 ·subst hij
  simp[hjl]at hj;subst hj;simp[Array.getElem?_setIfInBounds,hcs]
 rw[if_neg hij]at hj;rw[Array.getElem?_setIfInBounds_ne hij];exact h2 j d hj
theorem RowAt.bytes(w:World)(s:ByteArray):RowAt (Lib.bytesWorld w 5 s) w.heap.size s.data.toList:=by
 refine⟨_,_,Lib.bytesWorld_at_new w 5 s,?_,?_⟩
 ·intro i c hc
  have hi:i < s.data.size:=by have:=(List.getElem?_eq_some_iff.1 hc).1;simpa using this
  have hc':s.data[i]=c:=by
   have:=List.getElem?_eq_some_iff.1 hc;obtain⟨_,h⟩:=this;simpa using h
  have hi2:i < s.size:=hi;simp[Lib.bytesCells,Array.getElem?_append,hi,hi2,byteV,hc']
 intro i hi;have hs:s.data.toList.length<=(Lib.bytesCells w 5 s).size:=by simp[Lib.bytesCells]
 simp;omega
theorem below_bytes{w0 w:World}{b:Nat}(h:Below b w0 w)(hb:b<=w.heap.size)(s:ByteArray):Below b w0 (Lib.bytesWorld w 5 s) :=
 h.trans ⟨rfl,rfl,rfl,by rw[Lib.bytesWorld_size];omega,fun k hk=>Lib.bytesWorld_at_old w 5 s k (by omega)⟩
theorem run_str_cells{w:World}{g:Nat}{l:List UInt8}{c:Nat}(h:∀(i:Nat) (x:UInt8),l[i]?=some x->w.cell? ⟨g,i,none⟩=some (byteV x)):(convert 33 9 (.slice (some ⟨g,0,none⟩) l.length c)).run Tryz.prog w=.ok (.string (B l)) w:=by
 have:=run_convert_bytes_arg (P:=Tryz.prog) w 33 5 Tryz.underlying33 Tryz.underlying5 g 0 l.length c (l.map fun c=>(c.toNat:Int)) (by simp) (fun i hi=>by
   rw[Nat.zero_add,h i l[i] (zG hi)];simp[byteV,List.getElem?_map,zG hi,List.getD_eq_getElem?_getD]) 9 Tryz.underlying9
 rw[this];congr 2
 unfold strOfNums B;congr 2
 rw[List.map_map];exact(List.map_congr_left (g:=id) (fun c _=>by simp)).trans (List.map_id l)
def low(c:UInt8):UInt8:=if 65<=(c.toNat:Int)/\(c.toNat:Int)<=90 then c+32 else c
def lower(l:List UInt8):List UInt8:=l.map low
theorem low_num(c:UInt8)(h1:65<=(c.toNat:Int))(h2:(c.toNat:Int)<=90):((low c).toNat:Int)=(c.toNat:Int)+32:=by
 unfold low;rw[if_pos ⟨h1,h2⟩];simp[UInt8.toNat_add];omega
theorem lower_at(s:ByteArray)(k:Nat)(h:k < s.size):lower (s.data.toList.take (k+1))=lower (s.data.toList.take k)++[low s[k]]:=by
 have:=take_at s k h [];simp only[List.append_nil]at this;rw[this];simp[lower]
theorem lower_step(s:ByteArray)(k:Nat)(h:k < s.size):(lower (s.data.toList.take k)++s.data.toList.drop k).set k (low s[k])=lower (s.data.toList.take (k+1))++s.data.toList.drop (k+1):=by
 rw[drop_at s k h,lower_at s k h,List.set_append_right _ _ (by simp[lower];omega)];simp[lower,Nat.min_eq_left (Nat.le_of_lt h),size_L]
theorem lower_stay(s:ByteArray)(k:Nat)(h:k < s.size)(hl:low s[k]=s[k]):lower (s.data.toList.take k)++s.data.toList.drop k=lower (s.data.toList.take (k+1))++s.data.toList.drop (k+1):=by
 rw[drop_at s k h,lower_at s k h,hl];simp
theorem c24(s:ByteArray)(w:World)(hs:s.size<=140737488355328) :
  Calls Tryz.prog 24 #[.string s] w fun e w'=>e=.returned (.string (B (lower s.data.toList)))/\Below w.heap.size w w':=by
 have hcv:=fun W=>Lib.run_convert_string_bytes (P:=Tryz.prog) W 9 33 5 s Tryz.underlying9 Tryz.underlying33 Tryz.underlying5
 have hr0:=zH (RowAt.bytes w s);have hb0:=zH (below_bytes (zB w.heap.size w) (zR _) s);go_enter Tryz.func24,Tryz.ntmps24;go_wp2;generalize hcap:Lib.bytesWorld w 5 s=wb at *
 have hn:s.size<=9223372036854775807:=by omega
 go_loopg [4] s.size (fun g i w'=>∃k:Nat,∃l:List UInt8,Hid (k+g=s.size)/\i=.int .i64 k/\Hid (l=lower (s.data.toList.take k)++s.data.toList.drop k/\l.length=s.size)/\Hid (RowAt w' w.heap.size l)/\Hid (Below w.heap.size w w'))
 case atStart=>exact⟨0,s.data.toList,Nat.zero_add _,rfl,⟨by simp[lower],size_L s⟩,hr0,hb0⟩
 obtain⟨k,l,hk,rfl,hp,hr,hb⟩:=hrel;have hk':k<=s.size:=by have:=hk.out;omega
 by_cases hlt:k < s.size
 ·have hlk:l[k]?=some s[k]:=by
   rw[hp.out.1,List.getElem?_append_right (by simp[lower];omega),drop_at s k hlt];simp[lower,Nat.min_eq_left hk',size_L]
  have hc:=hr.out.cell hlk;have hf:=hr.out.free (i:=k) (by rw[hp.out.2];exact hlt);have H1:=zH hlk;clear hlk;unfold byteV at hc;have bl:=low_num s[k];by_cases h1:65<=(s[k].toNat:Int)/\(s[k].toNat:Int)<=90
  ·obtain⟨h1,h2⟩:=h1
   have bl:=zH (bl h1 h2);go_wp2;go_roundg (gk - 1)
   case measure=>have:=hk.out;omega
   case rel =>
    refine⟨k+1,l.set k (low s[k]),by have:=hk.out;unfold Hid;omega,by go_num,⟨by rw[hp.out.1];exact lower_step s k hlt,by simpa using hp.out.2⟩,?_,hb.out.setCell (zR _) _⟩;have:=hr.out.set_ k (low s[k]);unfold byteV at this;rw[bl.out]at this;exact this
  have hl:low s[k]=s[k]:=by unfold low;rw[if_neg h1]
  have hl2:=zH hl;clear hl;have h1':(s[k].toNat:Int) < 65\/90 < (s[k].toNat:Int):=by omega
  clear h1 bl;rcases h1' with h1|h1;all_goals
   go_wp2;go_roundg (gk - 1)
   case measure=>have:=hk.out;omega
   case rel=>exact⟨k+1,l,by have:=hk.out;unfold Hid;omega,by go_num,⟨by rw[hp.out.1];exact lower_stay s k hlt hl2.out,hp.out.2⟩,hr.out,hb.out⟩
 have hl:l=lower s.data.toList:=by
  rw[hp.out.1,List.take_of_length_le (by rw[size_L];omega),drop_end s k hlt,List.append_nil]
 have hcv2:=run_str_cells (c:=grownCap w s.size 0 5) (fun i x hx=>hr.out.cell hx);rw[hp.out.2]at hcv2;have hl2:=zH hl;clear hl;go_wp2;go_ret
 exact⟨ret_eq (by rw[<-hl2.out];rfl),hb.out⟩
def RdS(w:World)(v:Value)(xs:List (List UInt8)):Prop :=
 ∃A c,v=.slice A xs.length c/\xs.length<=c/\xs.length<=1152921504606846976/\(0 < xs.length->∃g off,A=some ⟨g,off,none⟩/\∀(i:Nat) (x:List UInt8),xs[i]?=some x->w.cell? ⟨g,off+i,none⟩=some (.string (B x)))
theorem RdS.keep{w w':World}{v:Value}{xs:List (List UInt8)}(h:RdS w v xs)(hk:∀(a:Addr) (u:Value),w.cell? a=some u->w'.cell? a=some u):RdS w' v xs:=by
 obtain⟨A,c,h1,h2,h3,h4⟩:=h;refine⟨A,c,h1,h2,h3,fun hp=>?_⟩;obtain⟨g,off,h5,h6⟩:=h4 hp;exact⟨g,off,h5,fun i x hx=>hk _ _ (h6 i x hx)⟩
theorem cell_lt{w:World}{a:Addr}{u:Value}(h:w.cell? a=some u):a.block < w.heap.size:=World.block_lt_of_cell? w a h
theorem RdS.below{w w':World}{v:Value}{xs:List (List UInt8)}(h:RdS w v xs)(hb:Below w.heap.size w w'):RdS w' v xs :=
 h.keep fun a u hu=>(hb.cell (cell_lt hu)).trans hu
theorem Own.rdS{w:World}{base:Nat}{v:Value}{xs:List (List UInt8)}(h:Own w base 9 v (xs.map strV))(hx:xs.length<=1152921504606846976):RdS w v xs:=by
 obtain⟨A,c,h1,h2,h3⟩:=h.slice;rw[List.length_map]at h1 h2 h3;refine⟨A,c,h1,h2,hx,fun hp=>?_⟩;obtain⟨g,h4,_,_,h5⟩:=h3 hp;exact⟨g,0,h4,fun i x hi=>by rw[Nat.zero_add];exact h5 i _ (by simp[hi,strV])⟩
theorem beq_str(a b:ByteArray):(a.toList == b.toList)=(a.data.toList == b.data.toList):=by rw[Lib.toList_data,Lib.toList_data]
def among(s:List UInt8):List (List UInt8)->Bool
 |[]=>false
 |x::l=>if x=s then true else among s l
theorem c72(s:ByteArray)(v:Value)(xs:List (List UInt8))(w:World)(hv:RdS w v xs) :
  Calls Tryz.prog 72 #[.string s,v] w fun e w'=>e=.returned (.bool (among s.data.toList xs))/\w=w':=by
 obtain⟨A,c,rfl,hc,hlen,hA⟩:=hv;obtain⟨r,hr⟩:∃r,Hid (among s.data.toList xs=r):=⟨_,rfl⟩;rw[hr.out];have HA:=zH hA;clear hA;go_enter Tryz.func72,Tryz.ntmps72;go_wp2;go_loopg [5] xs.length (fun g i w'=>∃k:Nat,Hid (k+g=xs.length)/\i=.int .i64 k/\Hid (among s.data.toList (xs.drop k)=r)/\w=w')
 case atStart=>exact⟨0,Nat.zero_add _,rfl,hr,rfl⟩
 obtain⟨k,hk,rfl,hp,rfl⟩:=hrel;have hk':k<=xs.length:=by have:=hk.out;omega
 by_cases hlt:k < xs.length
 ·obtain⟨g,off,rfl,hcell⟩:=HA.out (by omega)
  have hck:=hcell k xs[k] (zG hlt);clear hcell;rw[List.drop_eq_getElem_cons hlt]at hp;have hbq:=beq_str (B xs[k]) s;rw[L_B]at hbq;by_cases h1:xs[k]=s.data.toList
  ·have hp1:=hp.out
   simp only[among,if_pos h1]at hp1;have Hp:=zH hp1;have hb:((B xs[k]).toList == s.toList)=true:=by rw[hbq];simpa using h1
   clear hp hp1 hbq h1;go_wp2;go_ret
   exact⟨ret_eq (bool_eq Hp.out),rfl⟩
  have hp1:=hp.out;simp only[among,if_neg h1]at hp1;have Hp:=zH hp1;have hb:((B xs[k]).toList == s.toList)=false:=by rw[hbq];simpa using h1
  clear hp hp1 hbq h1;go_wp2;go_roundg (gk - 1)
  case measure=>have:=hk.out;omega
  case rel=>exact⟨k+1,by have:=hk.out;unfold Hid;omega,by go_num,Hp,rfl⟩
 rw[List.drop_eq_nil_of_le (by omega)]at hp;go_wp2;go_ret
 exact⟨ret_eq (bool_eq hp.out),rfl⟩
end Go.Proofs.YtnkihlpmmfeioaaGreatDoor
