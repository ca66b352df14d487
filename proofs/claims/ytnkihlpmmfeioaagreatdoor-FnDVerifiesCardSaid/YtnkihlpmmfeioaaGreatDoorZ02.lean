/- Part of the proof that laws.FnDVerifies answers true: A3,A4,A5,A6 -/
import Derived.Test.YtnkihlpmmfeioaaGreatDoorZ01
set_option linter.unusedVariables false
set_option linter.unusedSimpArgs false
set_option maxRecDepth 1000000
set_option maxHeartbeats 16000000
namespace Go.Proofs.YtnkihlpmmfeioaaGreatDoor
open Go.RowKit
def bare : List UInt8->List UInt8
 |[]=>[]
 |c::l=>if(c.toNat:Int)=32\/(c.toNat:Int)=13\/(c.toNat:Int)=10 then bare l else c::bare l
theorem c117(s:ByteArray)(w:World)(hs:s.size<=140737488355328) :
  Calls Tryz.prog 117 #[.string s] w fun e w'=>e=.returned (.string (B (bare s.data.toList)))/\Below w.heap.size w w':=by
 go_enter Tryz.func117,Tryz.ntmps117;go_wp2;go_loopg [3,4] s.size (fun g v i w'=>∃k:Nat,∃out:List UInt8,Hid (k+g=s.size)/\i=.int .i64 k/\Hid (out++bare (s.data.toList.drop k)=bare s.data.toList/\out.length<=k)/\Hid (Own w' w.heap.size 5 v (out.map byteV))/\Hid (Below w.heap.size w w'))
 case atStart=>exact⟨0,[],Nat.zero_add _,rfl,⟨rfl,zR _⟩,Own.nil _ _ _,zB _ _⟩
 obtain⟨k,out,hk,rfl,hp,ho,hb⟩:=hrel;have hk':k<=s.size:=by have:=hk.out;omega
 by_cases hlt:k < s.size
 ·rw[drop_at s k hlt]at hp
  obtain⟨p1,p2⟩:=hp.out;clear hp;by_cases h1:(s[k].toNat:Int)=32\/(s[k].toNat:Int)=13\/(s[k].toNat:Int)=10
  ·simp only[bare,if_pos h1]at p1
   have H1:=zH (And.intro p1 p2);clear p1 p2;rcases h1 with h1|h1|h1;all_goals
    go_wp2;go_roundg (gk - 1)
    case measure=>have:=hk.out;omega
    case rel=>exact⟨k+1,out,by have:=hk.out;unfold Hid;omega,by go_num,⟨H1.out.1,Nat.le_succ_of_le H1.out.2⟩,ho,hb⟩
  simp only[bare,if_neg h1]at p1;have H1:=zH (And.intro p1 p2);clear p1 p2;obtain⟨h1,h2,h3⟩:¬(s[k].toNat:Int)=32/\¬(s[k].toNat:Int)=13/\¬(s[k].toNat:Int)=10:=by omega
  have h1e:((s[k].toNat:Int) == 32)=false:=zF h1;have h1n:((s[k].toNat:Int) != 32)=true:=zN h1;have h2e:((s[k].toNat:Int) == 13)=false:=zF h2;have h2n:((s[k].toNat:Int) != 13)=true:=zN h2;have h3e:((s[k].toNat:Int) == 10)=false:=zF h3;have h3n:((s[k].toNat:Int) != 10)=true:=zN h3;go_wp2_with (at_builtin;refine wp_app1 Tryz.underlying33 info5 rfl rfl (.tmp 27) (.tmp 31) rfl rfl ho.out hb.out.size (byteV s[k]) rfl rfl (by simp;have:=H1.out.2;omega) (by decide) ?_;intro v1 w1 ho1 hg1 hb1 hl1);go_roundg (gk - 1)
  case measure=>have:=hk.out;omega
  case rel=>exact⟨k+1,out++[s[k]],by have:=hk.out;unfold Hid;omega,by go_num,⟨by rw[List.append_assoc];exact H1.out.1,by simp;have:=H1.out.2;omega⟩,by unfold Hid;simpa using ho1,hb1 _ hb.out⟩
 rw[drop_end s k hlt]at hp;have hcv:=run_str ho.out;go_wp2;go_ret
 exact⟨ret_eq (str_eq (by rw[<-hp.out.1];simp[bare,L_B])),hb.out⟩
def ended : Bool->List UInt8->List UInt8
 |_,[]=>[]
 |cr,c::l=>if(c.toNat:Int)=10/\cr=false then 13::c::ended false l else c::ended ((c.toNat:Int) == 13) l
def crAt(s:ByteArray)(k:Nat):Bool:=if h:0 < k/\k - 1 < s.size then((s[k - 1]'h.2).toNat:Int) == 13 else false
theorem crAt_succ(s:ByteArray)(k:Nat)(h:k < s.size):crAt s (k+1)=((s[k].toNat:Int) == 13):=by simp[crAt,h]
theorem crAt_pos(s:ByteArray)(k:Nat)(h0:0 < k)(h:k - 1 < s.size):crAt s k=(((s[k - 1]'h).toNat:Int) == 13):=by simp[crAt,h,h0]
theorem c121(s:ByteArray)(w:World)(hs:s.size<=70000000000000) :
  Calls Tryz.prog 121 #[.string s] w fun e w'=>e=.returned (.string (B (ended false s.data.toList)))/\Below w.heap.size w w':=by
 go_enter Tryz.func121,Tryz.ntmps121;go_wp2;go_loopg [3,4] s.size (fun g v i w'=>∃k:Nat,∃out:List UInt8,Hid (k+g=s.size)/\i=.int .i64 k/\Hid (out++ended (crAt s k) (s.data.toList.drop k)=ended false s.data.toList/\out.length<=2*k)/\Hid (Own w' w.heap.size 5 v (out.map byteV))/\Hid (Below w.heap.size w w'))
 case atStart=>exact⟨0,[],Nat.zero_add _,rfl,⟨rfl,zR _⟩,Own.nil _ _ _,zB _ _⟩
 obtain⟨k,out,hk,rfl,hp,ho,hb⟩:=hrel;have hk':k<=s.size:=by have:=hk.out;omega
 by_cases hlt:k < s.size
 ·rw[drop_at s k hlt]at hp
  obtain⟨p1,p2⟩:=hp.out;clear hp;have hcs:=zH (crAt_succ s k hlt);by_cases h10:(s[k].toNat:Int)=10
  ·have h13:((s[k].toNat:Int) == 13)=false:=by rw[h10];rfl
   cases hcr:crAt s k with
   |false =>
    rw[ended,if_pos ⟨h10,hcr⟩]at p1;have H1:=zH (And.intro p1 (And.intro p2 (And.intro h13 h10)));clear p1 p2 h13;rcases Nat.eq_zero_or_pos k with rfl|h0
    ·skip
     clear hcr;go_wp2_with (first
      |(at_builtin;refine wp_app1 Tryz.underlying33 info5 rfl rfl (.tmp 26) (.tmp 27) rfl rfl ho.out hb.out.size (byteV 13) rfl rfl (by simp;have:=H1.out.2.1;omega) (by decide) ?_;intro v1 w1 ho1 hg1 hb1 hl1)
      |(at_builtin;refine wp_app1 Tryz.underlying33 info5 rfl rfl (.tmp 29) (.tmp 33) rfl rfl ho1 (hb1 _ hb.out).size (byteV 10) rfl rfl (by simp;have:=H1.out.2.1;omega) (by decide) ?_;intro v2 w2 ho2 hg2 hb2 hl2))
     go_roundg (gk - 1)
     case measure=>have:=hk.out;omega
     case rel=>exact⟨1,out++[(13:UInt8),s[0]],by have:=hk.out;unfold Hid;omega,by go_num,⟨by rw[List.append_assoc,hcs.out,H1.out.2.2.1];exact H1.out.1,by have:=H1.out.2.1;simp only[zA,List.length_cons,List.length_nil];omega⟩,by unfold Hid;simpa [byteV,H1.out.2.2.2]using ho2,hb2 _ (hb1 _ hb.out)⟩
    have hz:((k:Int) == 0)=false:=by rw[beq_eq_false_iff_ne];omega
    rw[crAt_pos s k h0 (by omega)]at hcr;have hn:(((s[k - 1]'(by omega)).toNat:Int) != 13)=true:=by rw[bne,hcr];rfl
    have hsub:1<=k:=h0;go_wp2_with (first
     |(at_builtin;refine wp_app1 Tryz.underlying33 info5 rfl rfl (.tmp 26) (.tmp 27) rfl rfl ho.out hb.out.size (byteV 13) rfl rfl (by simp;have:=H1.out.2.1;omega) (by decide) ?_;intro v1 w1 ho1 hg1 hb1 hl1)
     |(at_builtin;refine wp_app1 Tryz.underlying33 info5 rfl rfl (.tmp 29) (.tmp 33) rfl rfl ho1 (hb1 _ hb.out).size (byteV 10) rfl rfl (by simp;have:=H1.out.2.1;omega) (by decide) ?_;intro v2 w2 ho2 hg2 hb2 hl2))
    go_roundg (gk - 1)
    case measure=>have:=hk.out;omega
    case rel=>exact⟨k+1,out++[(13:UInt8),s[k]],by have:=hk.out;unfold Hid;omega,by go_num,⟨by rw[List.append_assoc,hcs.out,H1.out.2.2.1];exact H1.out.1,by have:=H1.out.2.1;simp only[zA,List.length_cons,List.length_nil];omega⟩,by unfold Hid;simpa [byteV,H1.out.2.2.2]using ho2,hb2 _ (hb1 _ hb.out)⟩
   |true =>
    rw[ended,if_neg (by rw[hcr];simp)]at p1;have H1:=zH (And.intro p1 (And.intro p2 h13));clear p1 p2 h13;rcases Nat.eq_zero_or_pos k with h0|h0
    ·rw[h0]at hcr;simp[crAt]at hcr
    have hz:((k:Int) == 0)=false:=by rw[beq_eq_false_iff_ne];omega
    rw[crAt_pos s k h0 (by omega)]at hcr;have hn:(((s[k - 1]'(by omega)).toNat:Int) != 13)=false:=by rw[bne,hcr];rfl
    have hsub:1<=k:=h0;go_wp2_with (at_builtin;refine wp_app1 Tryz.underlying33 info5 rfl rfl (.tmp 29) (.tmp 33) rfl rfl ho.out hb.out.size (byteV 10) rfl rfl (by simp;have:=H1.out.2.1;omega) (by decide) ?_;intro v2 w2 ho2 hg2 hb2 hl2);go_roundg (gk - 1)
    case measure=>have:=hk.out;omega
    case rel=>exact⟨k+1,out++[s[k]],by have:=hk.out;unfold Hid;omega,by go_num,⟨by rw[List.append_assoc,hcs.out];exact H1.out.1,by have:=H1.out.2.1;simp only[zA,List.length_cons,List.length_nil];omega⟩,by unfold Hid;simpa [byteV,h10]using ho2,hb2 _ hb.out⟩
  rw[ended,if_neg (by simp[h10])]at p1;have H1:=zH (And.intro p1 p2);clear p1 p2;have h10e:((s[k].toNat:Int) == 10)=false:=zF h10;have h10n:((s[k].toNat:Int) != 10)=true:=zN h10;go_wp2_with (at_builtin;refine wp_app1 Tryz.underlying33 info5 rfl rfl (.tmp 29) (.tmp 33) rfl rfl ho.out hb.out.size (byteV s[k]) rfl rfl (by simp;have:=H1.out.2;omega) (by decide) ?_;intro v2 w2 ho2 hg2 hb2 hl2);go_roundg (gk - 1)
  case measure=>have:=hk.out;omega
  case rel=>exact⟨k+1,out++[s[k]],by have:=hk.out;unfold Hid;omega,by go_num,⟨by rw[List.append_assoc,hcs.out];exact H1.out.1,by simp;have:=H1.out.2;omega⟩,by unfold Hid;simpa using ho2,hb2 _ hb.out⟩
 rw[drop_end s k hlt]at hp;have hcv:=run_str ho.out;go_wp2;go_ret
 exact⟨ret_eq (str_eq (by rw[<-hp.out.1];simp[ended,L_B])),hb.out⟩
def joined : Bool->Bool->List UInt8->List UInt8
 |_,_,[]=>[]
 |ne,wt,c::l=>if blank c=true then joined ne ne l else if wt=true then 32::c::joined true false l else c::joined true false l
theorem c122(s:ByteArray)(w:World)(hs:s.size<=70000000000000) :
  Calls Tryz.prog 122 #[.string s] w fun e w'=>e=.returned (.string (B (joined false false s.data.toList)))/\Below w.heap.size w w':=by
 go_enter Tryz.func122,Tryz.ntmps122;go_wp2;go_loopg [3,4,5] s.size (fun g v wt i w'=>∃k:Nat,∃out:List UInt8,∃b:Bool,Hid (k+g=s.size)/\i=.int .i64 k/\wt=.bool b/\Hid (out++joined (decide (0 < out.length)) b (s.data.toList.drop k)=joined false false s.data.toList/\out.length<=2*k)/\Hid (Own w' w.heap.size 5 v (out.map byteV))/\Hid (Below w.heap.size w w'))
 case atStart=>exact⟨0,[],false,Nat.zero_add _,rfl,rfl,⟨rfl,zR _⟩,Own.nil _ _ _,zB _ _⟩
 obtain⟨k,out,b,hk,rfl,rfl,hp,ho,hb⟩:=hrel;have hk':k<=s.size:=by have:=hk.out;omega
 by_cases hlt:k < s.size
 ·rw[drop_at s k hlt]at hp
  obtain⟨p1,p2⟩:=hp.out;clear hp;cases hbl:blank s[k]with
  |true =>
   rw[joined,if_pos hbl]at p1;have H1:=zH (And.intro hbl (And.intro p1 p2));clear hbl p1 p2;obtain⟨A,c,hv,hcap,_⟩:=ho.out.slice;rw[List.length_map]at hv;subst hv;go_wp2_with (go_at_call 88;refine(c88 _ _).mono ?_;rintro e w'⟨rfl,rfl⟩;rw[H1.out.1]);go_roundg (gk - 1)
   case measure=>have:=hk.out;omega
   case rel=>exact⟨k+1,out,decide (0 < out.length),by have:=hk.out;unfold Hid;omega,by go_num,by simp,⟨H1.out.2.1,by have:=H1.out.2.2;omega⟩,ho,hb⟩
  |false =>
   rw[joined,if_neg (by rw[hbl];decide)]at p1;cases b with
   |true =>
    rw[if_pos rfl]at p1;have H1:=zH (And.intro hbl (And.intro p1 p2));clear hbl p1 p2;go_wp2_with (first
     |(go_at_call 88;refine(c88 _ _).mono ?_;rintro e w'⟨rfl,rfl⟩;rw[H1.out.1])
     |(at_builtin;refine wp_app1 Tryz.underlying33 info5 rfl rfl (.tmp 20) (.tmp 21) rfl rfl ho.out hb.out.size (byteV 32) rfl rfl (by simp;have:=H1.out.2.2;omega) (by decide) ?_;intro v1 w1 ho1 hg1 hb1 hl1)
     |(at_builtin;refine wp_app1 Tryz.underlying33 info5 rfl rfl (.tmp 23) (.tmp 27) rfl rfl ho1 (hb1 _ hb.out).size (byteV s[k]) rfl rfl (by simp;have:=H1.out.2.2;omega) (by decide) ?_;intro v2 w2 ho2 hg2 hb2 hl2))
    go_roundg (gk - 1)
    case measure=>have:=hk.out;omega
    case rel=>exact⟨k+1,out++[(32:UInt8),s[k]],false,by have:=hk.out;unfold Hid;omega,by go_num,rfl,⟨by rw[List.append_assoc,show decide (0 < (out++[(32:UInt8),s[k]]).length)=true from by simp];exact H1.out.2.1,by have:=H1.out.2.2;simp only[zA,List.length_cons,List.length_nil];omega⟩,by unfold Hid;simpa [byteV]using ho2,hb2 _ (hb1 _ hb.out)⟩
   |false =>
    rw[if_neg (by decide)]at p1;have H1:=zH (And.intro hbl (And.intro p1 p2));clear hbl p1 p2;go_wp2_with (first
     |(go_at_call 88;refine(c88 _ _).mono ?_;rintro e w'⟨rfl,rfl⟩;rw[H1.out.1])
     |(at_builtin;refine wp_app1 Tryz.underlying33 info5 rfl rfl (.tmp 23) (.tmp 27) rfl rfl ho.out hb.out.size (byteV s[k]) rfl rfl (by simp;have:=H1.out.2.2;omega) (by decide) ?_;intro v2 w2 ho2 hg2 hb2 hl2))
    go_roundg (gk - 1)
    case measure=>have:=hk.out;omega
    case rel=>exact⟨k+1,out++[s[k]],false,by have:=hk.out;unfold Hid;omega,by go_num,rfl,⟨by rw[List.append_assoc,show decide (0 < (out++[s[k]]).length)=true from by simp];exact H1.out.2.1,by have:=H1.out.2.2;simp only[zA,List.length_cons,List.length_nil];omega⟩,by unfold Hid;simpa [byteV]using ho2,hb2 _ hb.out⟩
 rw[drop_end s k hlt]at hp;have hcv:=run_str ho.out;go_wp2;go_ret
 exact⟨ret_eq (str_eq (by rw[<-hp.out.1];simp[joined,L_B])),hb.out⟩
def dropEnds : List UInt8->List UInt8
 |[]=>[]
 |c::l=>if(c.toNat:Int)=13\/(c.toNat:Int)=10 then dropEnds l else c::l
def without(l:List UInt8):List UInt8:=(dropEnds l.reverse).reverse
theorem without_snoc(l:List UInt8)(x:UInt8):without (l++[x])=if(x.toNat:Int)=13\/(x.toNat:Int)=10 then without l else l++[x]:=by
 unfold without;rw[List.reverse_append];simp only[List.reverse_cons,List.reverse_nil,List.nil_append,List.singleton_append,dropEnds];split <;> simp
theorem c81(s:ByteArray)(w:World)(hs:s.size<=9223372036854775807) :
  Calls Tryz.prog 81 #[.string s] w fun e w'=>e=.returned (.string (B (without s.data.toList)))/\∃n,w'=w.drewN n:=by
 go_enter Tryz.func81,Tryz.ntmps81;go_wp2;go_loopg [0] s.size (fun g v w'=>∃s1:ByteArray,Hid (s1.size=g)/\s1.size<=s.size/\v=.string s1/\Hid (without s1.data.toList=without s.data.toList)/\∃n,w'=w.drewN n)
 case atStart=>exact⟨s,rfl,zR _,rfl,rfl,0,rfl⟩
 obtain⟨s1,hk,hle,rfl,hp,n,rfl⟩:=hrel;by_cases hz:0 < s1.size
 ·have he:=isEmpty_pos hz
  have hl:=L_last s1 (by omega);by_cases h1:((s1[s1.size - 1]'(by omega)).toNat:Int)=13\/((s1[s1.size - 1]'(by omega)).toNat:Int)=10
  ·have ht:Hid (without (s1.data.toList.take (s1.size - 1))=without s.data.toList):=by
    have:=hp.out;rw[hl,without_snoc,if_pos h1]at this;exact this
   clear hp hl;rcases h1 with h1|h1;all_goals
    go_wp2;go_roundg (gk - 1)
    case measure=>have:=hk.out;omega
    case rel =>
     refine⟨_,?_,?_,rfl,?_,n,rfl⟩
     ·have:=hk.out;unfold Hid;simp;try omega
     ·simp;try omega
     unfold Hid;rw[L_extract];exact ht.out
  have ht:Hid (without s.data.toList=s1.data.toList):=by
   have:=hp.out;rw[hl,without_snoc,if_neg h1,<-hl]at this;exact this.symm
  clear hp hl;obtain⟨h1,h2⟩:¬((s1[s1.size - 1]'(by omega)).toNat:Int)=13/\¬((s1[s1.size - 1]'(by omega)).toNat:Int)=10:=by omega
  have h1e:(((s1[s1.size - 1]'(by omega)).toNat:Int) == 13)=false:=zF h1;have h1n:(((s1[s1.size - 1]'(by omega)).toNat:Int) != 13)=true:=zN h1;have h2e:(((s1[s1.size - 1]'(by omega)).toNat:Int) == 10)=false:=zF h2;have h2n:(((s1[s1.size - 1]'(by omega)).toNat:Int) != 10)=true:=zN h2;go_wp2;go_ret
  exact⟨ret_eq (str_eq ht.out.symm),_,rfl⟩
 have he:=toList_nil (s:=s1) (by omega);go_wp2;go_ret
 refine⟨ret_eq (str_eq ?_),_,rfl⟩;have:=hp.out;rw[nil_of_size (s:=s1) (by omega)]at this;rw[<-this,nil_of_size (s:=s1) (by omega)];rfl
theorem c26(s:ByteArray)(w:World)(hs:s.size<=9223372036854775807) :
  Calls Tryz.prog 26 #[.string s] w fun e w'=>e=.returned (.string (B (trim (cutA 58 s.data.toList))))/\∃n,w'=w.drewN n:=by
 have hlen:(B (cutA 58 s.data.toList)).size<=9223372036854775807:=by
  have:(cutA 58 s.data.toList).length<=s.data.toList.length:=by
   generalize s.data.toList=l
   induction l with
   |nil=>simp[cutA]
   |cons x l ih=>unfold cutA;split <;> simp;exact ih
  rw[size_B,size_L]at *;omega
 go_enter Tryz.func26,Tryz.ntmps26;go_wp2_with (first
  |(go_at_call 55;refine(c55 _ _ _ hs).mono ?_;rintro e w1⟨rfl,n,rfl⟩)
  |(go_at_call 56;refine(c56 _ _ hlen).mono ?_;rintro e w2⟨rfl,m,rfl⟩))
 go_ret
 exact⟨rfl,_,rfl⟩
theorem c71(s:ByteArray)(w:World)(hs:s.size<=1073741824) :
  Calls Tryz.prog 71 #[.string s] w fun e w'=>∃v,e=.returned v/\Own w' w.heap.size 9 v ((split 58 (strip s.data.toList)).map strV)/\Below w.heap.size w w':=by
 have hlen:(B (strip s.data.toList)).size<=1073741824:=by
  have:(strip s.data.toList).length<=s.data.toList.length:=by
   generalize s.data.toList=l
   induction l with
   |nil=>simp[strip]
   |cons x l ih=>unfold strip;split <;> simp <;> omega
  rw[size_B,size_L]at *;omega
 go_enter Tryz.func71,Tryz.ntmps71;go_wp2_with (first
  |(go_at_call 50;refine(c50 _ _ (by omega)).mono ?_;rintro e w1⟨rfl,hb1⟩)
  |(go_at_call 31;refine(c31 _ _ _ hlen).mono ?_;rintro e w2⟨v,rfl,ho,hb2⟩))
 go_ret
 exact⟨v,rfl,ho.mono hb1.size,below_then hb1 hb1.size hb2⟩
def simpleL : List UInt8:=[115,105,109,112,108,101]
def relaxedL : List UInt8:=[114,101,108,97,120,101,100]
def known(l:List UInt8):Bool:=l == simpleL || l == relaxedL
theorem toList_B(l:List UInt8):(B l).toList=l:=by rw[Lib.toList_data];rfl
theorem c118(s:ByteArray)(w:World):Calls Tryz.prog 118 #[.string s] w fun e w'=>e=.returned (.bool (known s.data.toList))/\w=w':=by
 go_enter Tryz.func118,Tryz.ntmps118;go_wp2
 ·go_ret
  have h:s.toList=[115,105,109,112,108,101]:=by assumption
  rw[Lib.toList_data]at h;exact⟨ret_eq (bool_eq (by rw[h];rfl)),rfl⟩
 go_ret
 exact⟨ret_eq (bool_eq (by rw[Lib.toList_data];rfl)),rfl⟩
def endsWith(s t:List UInt8):Bool:=decide (t.length<=s.length) && s.drop (s.length - t.length) == t
theorem c70(s t:ByteArray)(w:World)(hs:s.size<=9223372036854775807)(ht:t.size<=9223372036854775807) :
  Calls Tryz.prog 70 #[.string s,.string t] w fun e w'=>e=.returned (.bool (endsWith s.data.toList t.data.toList))/\w=w':=by
 obtain⟨r,hr⟩:∃r,Hid (endsWith s.data.toList t.data.toList=r):=⟨_,rfl⟩;rw[hr.out];by_cases h:t.size<=s.size
 ·go_enter Tryz.func70,Tryz.ntmps70
  go_wp2;go_ret
  refine⟨ret_eq (bool_eq ?_),rfl⟩;rw[<-hr.out,beq_str];unfold endsWith;rw[size_L,size_L,L_extract,List.take_of_length_le (by simp[size_L])];simp[h]
 go_enter Tryz.func70,Tryz.ntmps70;go_wp2;go_ret
 refine⟨ret_eq (bool_eq ?_),rfl⟩;rw[<-hr.out];unfold endsWith;rw[size_L,size_L];simp[h]
def RdP(w:World)(v:Value)(xs:List (List UInt8 × List UInt8)):Prop :=
 ∃A c,v=.slice A xs.length c/\xs.length<=c/\xs.length<=1152921504606846976/\(0 < xs.length->∃g off,A=some ⟨g,off,none⟩/\∀(i:Nat) (x:List UInt8 × List UInt8),xs[i]?=some x->w.cell? ⟨g,off+i*2,none⟩=some (.string (B x.1))/\w.cell? ⟨g,off+i*2+1,none⟩=some (.string (B x.2)))
theorem RdP.keep{w w':World}{v:Value}{xs:List (List UInt8 × List UInt8)}(h:RdP w v xs)(hk:∀(a:Addr) (u:Value),w.cell? a=some u->w'.cell? a=some u):RdP w' v xs:=by
 obtain⟨A,c,h1,h2,h3,h4⟩:=h;refine⟨A,c,h1,h2,h3,fun hp=>?_⟩;obtain⟨g,off,h5,h6⟩:=h4 hp;exact⟨g,off,h5,fun i x hx=>⟨hk _ _ (h6 i x hx).1,hk _ _ (h6 i x hx).2⟩⟩
theorem RdP.below{w w':World}{v:Value}{xs:List (List UInt8 × List UInt8)}(h:RdP w v xs)(hb:Below w.heap.size w w'):RdP w' v xs :=
 h.keep fun a u hu=>(hb.cell (cell_lt hu)).trans hu
def valOf(t:List UInt8):List (List UInt8 × List UInt8)->List UInt8
 |[]=>[]
 |x::l=>if x.1=t then x.2 else valOf t l
def hasTag(t:List UInt8):List (List UInt8 × List UInt8)->Bool
 |[]=>false
 |x::l=>if x.1=t then true else hasTag t l
theorem c33(v:Value)(xs:List (List UInt8 × List UInt8))(s:ByteArray)(w:World)(hv:RdP w v xs) :
  Calls Tryz.prog 33 #[v,.string s] w fun e w'=>e=.returned (.tuple #[.string (B (valOf s.data.toList xs)),.bool (hasTag s.data.toList xs)])/\w=w':=by
 obtain⟨A,c,rfl,hc,hlen,hA⟩:=hv;obtain⟨r,r2,hr⟩:∃r r2,Hid (valOf s.data.toList xs=r/\hasTag s.data.toList xs=r2):=⟨_,_,rfl,rfl⟩;rw[hr.out.1,hr.out.2];have HA:=zH hA;clear hA;go_enter Tryz.func33,Tryz.ntmps33;go_wp2;go_loopg [6] xs.length (fun g i w'=>∃k:Nat,Hid (k+g=xs.length)/\i=.int .i64 k/\Hid (valOf s.data.toList (xs.drop k)=r/\hasTag s.data.toList (xs.drop k)=r2)/\w=w')
 case atStart=>exact⟨0,Nat.zero_add _,rfl,hr,rfl⟩
 obtain⟨k,hk,rfl,hp,rfl⟩:=hrel;have hk':k<=xs.length:=by have:=hk.out;omega
 by_cases hlt:k < xs.length
 ·obtain⟨g,off,rfl,hcell⟩:=HA.out (by omega)
  obtain⟨hc1,hc2⟩:=hcell k xs[k] (zG hlt);clear hcell;rw[List.drop_eq_getElem_cons hlt]at hp;have hbq:=beq_str (B xs[k].1) s;rw[L_B]at hbq;by_cases h1:xs[k].1=s.data.toList
  ·obtain⟨q1,q2⟩:=hp.out
   simp only[valOf,hasTag,if_pos h1]at q1 q2;have Hp:=zH (And.intro q1 q2);have hb:((B xs[k].1).toList == s.toList)=true:=by rw[hbq];simpa using h1
   clear hp q1 q2 hbq h1;go_wp2;go_ret2
   exact⟨tup2 (str_eq Hp.out.1) (bool_eq Hp.out.2),rfl⟩
  obtain⟨q1,q2⟩:=hp.out;simp only[valOf,hasTag,if_neg h1]at q1 q2;have Hp:=zH (And.intro q1 q2);have hb:((B xs[k].1).toList == s.toList)=false:=by rw[hbq];simpa using h1
  clear hp q1 q2 hbq h1;go_wp2;go_roundg (gk - 1)
  case measure=>have:=hk.out;omega
  case rel=>exact⟨k+1,by have:=hk.out;unfold Hid;omega,by go_num,Hp,rfl⟩
 rw[List.drop_eq_nil_of_le (by omega)]at hp;go_wp2;go_ret2
 exact⟨tup2 (str_eq hp.out.1) (bool_eq hp.out.2),rfl⟩
def strOr(a:List UInt8):List UInt8:=if a=[]then simpleL else a
def formA(l:List UInt8):List UInt8:=strOr (cutA 47 (strip l))
def formB(l:List UInt8):List UInt8:=if cutF 47 (strip l)=true then cutZ 47 (strip l)else simpleL
theorem strip_le(l:List UInt8):(strip l).length<=l.length:=by
 induction l with
 |nil=>simp[strip]
 |cons x l ih=>unfold strip;split <;> simp <;> omega
theorem c75(s:ByteArray)(w:World)(hs:s.size<=140737488355328) :
  Calls Tryz.prog 75 #[.string s] w fun e w'=>e=.returned (.tuple #[.string (B (formA s.data.toList)),.string (B (formB s.data.toList)),.bool (known (formA s.data.toList) && known (formB s.data.toList))])/\Below w.heap.size w w':=by
 have hl:=strip_le s.data.toList;rw[size_L]at hl;obtain⟨ra,rb,hr⟩:∃ra rb,Hid (formA s.data.toList=ra/\formB s.data.toList=rb):=⟨_,_,rfl,rfl⟩;rw[hr.out.1,hr.out.2];cases hf:cutF 47 (strip s.data.toList)with
 |true =>
  by_cases ha:cutA 47 (strip s.data.toList)=[]
  ·have hrb:cutZ 47 (strip s.data.toList)=rb:=by rw[<-hr.out.2,formB,if_pos hf]
   have hra:simpleL=ra:=by rw[<-hr.out.1,formA,strOr,if_pos ha]
   have he:(B (cutA 47 (strip s.data.toList))).toList=[]:=by rw[toList_B,ha]
   have hk:known (⟨#[115,105,109,112,108,101]⟩:ByteArray).data.toList=true:=by decide
   have H1:=zH (And.intro hra (And.intro hrb hf));clear ha hra hrb hf;go_enter Tryz.func75,Tryz.ntmps75;go_wp2_with (first
    |(go_at_call 50;refine(c50 _ _ hs).mono ?_;rintro e w1⟨rfl,hb1⟩)
    |(go_at_call 55;refine(c55 _ _ _ (by rw[size_B];omega)).mono ?_;rintro e w2⟨rfl,hn⟩;have hb2:=below_of_drewN hn;clear hn;simp only[L_B];rw[H1.out.2.2])
    |(go_at_call 118;refine(c118 _ _).mono ?_;rintro e w'⟨rfl,rfl⟩))
   go_ret3
   exact⟨tup3 (str_eq H1.out.1) (str_eq H1.out.2.1) (bool_eq (by rw[<-H1.out.1,<-H1.out.2.1];rfl)),below_then hb1 hb1.size hb2⟩
  have hrb:cutZ 47 (strip s.data.toList)=rb:=by rw[<-hr.out.2,formB,if_pos hf]
  have hra:cutA 47 (strip s.data.toList)=ra:=by rw[<-hr.out.1,formA,strOr,if_neg ha]
  have he:(B (cutA 47 (strip s.data.toList))).toList.isEmpty=false:=by rw[toList_B,List.isEmpty_eq_false_iff];exact ha
  have H1:=zH (And.intro hra (And.intro hrb hf));clear ha hra hrb hf;go_enter Tryz.func75,Tryz.ntmps75;go_wp2_with (first
   |(go_at_call 50;refine(c50 _ _ hs).mono ?_;rintro e w1⟨rfl,hb1⟩)
   |(go_at_call 55;refine(c55 _ _ _ (by rw[size_B];omega)).mono ?_;rintro e w2⟨rfl,hn⟩;have hb2:=below_of_drewN hn;clear hn;simp only[L_B];rw[H1.out.2.2])
   |(go_at_call 118;refine(c118 _ _).mono ?_;rintro e w'⟨rfl,rfl⟩))
  all_goals
   go_ret3
   refine⟨tup3 (str_eq H1.out.1) (str_eq H1.out.2.1) (bool_eq ?_),below_then hb1 hb1.size hb2⟩;rw[<-H1.out.1,<-H1.out.2.1]
   first
    |(have hh:known (B (cutA 47 (strip s.data.toList))).data.toList=true:=by assumption
      rw[L_B]at hh;rw[hh];rfl)
    |(have hh:¬known (B (cutA 47 (strip s.data.toList))).data.toList=true:=by assumption
      rw[L_B]at hh;rw[Bool.eq_false_iff.2 hh];rfl)
 |false =>
  by_cases ha:cutA 47 (strip s.data.toList)=[]
  ·have hrb:simpleL=rb:=by rw[<-hr.out.2,formB,if_neg (by rw[hf];decide)]
   have hra:simpleL=ra:=by rw[<-hr.out.1,formA,strOr,if_pos ha]
   have he:(B (cutA 47 (strip s.data.toList))).toList=[]:=by rw[toList_B,ha]
   have hk:known (⟨#[115,105,109,112,108,101]⟩:ByteArray).data.toList=true:=by decide
   have H1:=zH (And.intro hra (And.intro hrb hf));clear ha hra hrb hf;go_enter Tryz.func75,Tryz.ntmps75;go_wp2_with (first
    |(go_at_call 50;refine(c50 _ _ hs).mono ?_;rintro e w1⟨rfl,hb1⟩)
    |(go_at_call 55;refine(c55 _ _ _ (by rw[size_B];omega)).mono ?_;rintro e w2⟨rfl,hn⟩;have hb2:=below_of_drewN hn;clear hn;simp only[L_B];rw[H1.out.2.2])
    |(go_at_call 118;refine(c118 _ _).mono ?_;rintro e w'⟨rfl,rfl⟩))
   go_ret3
   exact⟨tup3 (str_eq H1.out.1) (str_eq H1.out.2.1) (bool_eq (by rw[<-H1.out.1,<-H1.out.2.1];rfl)),below_then hb1 hb1.size hb2⟩
  have hrb:simpleL=rb:=by rw[<-hr.out.2,formB,if_neg (by rw[hf];decide)]
  have hra:cutA 47 (strip s.data.toList)=ra:=by rw[<-hr.out.1,formA,strOr,if_neg ha]
  have he:(B (cutA 47 (strip s.data.toList))).toList.isEmpty=false:=by rw[toList_B,List.isEmpty_eq_false_iff];exact ha
  have H1:=zH (And.intro hra (And.intro hrb hf));clear ha hra hrb hf;go_enter Tryz.func75,Tryz.ntmps75;go_wp2_with (first
   |(go_at_call 50;refine(c50 _ _ hs).mono ?_;rintro e w1⟨rfl,hb1⟩)
   |(go_at_call 55;refine(c55 _ _ _ (by rw[size_B];omega)).mono ?_;rintro e w2⟨rfl,hn⟩;have hb2:=below_of_drewN hn;clear hn;simp only[L_B];rw[H1.out.2.2])
   |(go_at_call 118;refine(c118 _ _).mono ?_;rintro e w'⟨rfl,rfl⟩))
  all_goals
   go_ret3
   refine⟨tup3 (str_eq H1.out.1) (str_eq H1.out.2.1) (bool_eq ?_),below_then hb1 hb1.size hb2⟩;rw[<-H1.out.1,<-H1.out.2.1]
   first
    |(have hh:known (B (cutA 47 (strip s.data.toList))).data.toList=true:=by assumption
      rw[L_B]at hh;rw[hh];rfl)
    |(have hh:¬known (B (cutA 47 (strip s.data.toList))).data.toList=true:=by assumption
      rw[L_B]at hh;rw[Bool.eq_false_iff.2 hh];rfl)
theorem trimL_le(l:List UInt8):(trimL l).length<=l.length:=by
 induction l with
 |nil=>simp[trimL]
 |cons x l ih=>unfold trimL;split <;> simp <;> omega
theorem trim_le(l:List UInt8):(trim l).length<=l.length:=by
 unfold trim trimR;have h1:=trimL_le l;have h2:=trimL_le (trimL l).reverse;simp at *;omega
theorem lower_len(l:List UInt8):(lower l).length=l.length:=by simp[lower]
theorem joined_le(ne wt:Bool)(l:List UInt8):(joined ne wt l).length<=2*l.length:=by
 induction l generalizing ne wt with
 |nil=>simp[joined]
 |cons x l ih =>
  unfold joined;split
  ·have:=ih ne ne;simp;omega
  split
  ·have:=ih true false;simp;omega
  have:=ih true false;simp;omega
theorem cutA_le(c:Int)(l:List UInt8):(cutA c l).length<=l.length:=by
 induction l with
 |nil=>simp[cutA]
 |cons x l ih=>unfold cutA;split <;> simp <;> omega
theorem cutZ_le(c:Int)(l:List UInt8):(cutZ c l).length<=l.length:=by
 induction l with
 |nil=>simp[cutZ]
 |cons x l ih=>unfold cutZ;split <;> simp <;> omega
def fieldOf(form l:List UInt8):List UInt8 :=
 if form=simpleL then l else if cutF 58 l=true then trim (lower (cutA 58 l))++[58]++joined false false (cutZ 58 l)++[13,10]else trim (lower l)++[58,13,10]
theorem c80(f s:ByteArray)(w:World)(hs:s.size<=1073741824) :
  Calls Tryz.prog 80 #[.string f,.string s] w fun e w'=>e=.returned (.string (B (fieldOf f.data.toList s.data.toList)))/\Below w.heap.size w w':=by
 obtain⟨r,hr⟩:∃r,Hid (fieldOf f.data.toList s.data.toList=r):=⟨_,rfl⟩;rw[hr.out];by_cases hf:f.data.toList=simpleL
 ·have hr1:=hr.out
  rw[fieldOf,if_pos hf]at hr1;have H1:=zH hr1;have hfe:f.toList=[115,105,109,112,108,101]:=by rw[Lib.toList_data];exact hf
  clear hf hr1;go_enter Tryz.func80,Tryz.ntmps80;go_wp2;go_ret
  exact⟨ret_eq (str_eq H1.out),zB _ _⟩
 have hfe:(f.toList == [115,105,109,112,108,101])=false:=by rw[Lib.toList_data];exact zF hf
 have h0:(B (trim (lower s.data.toList))).size<=1073741824:=by have:=trim_le (lower s.data.toList);rw[lower_len,size_L]at this;rw[size_B];omega
 have h1:(B (cutA 58 s.data.toList)).size<=1073741824:=by have:=cutA_le 58 s.data.toList;rw[size_L]at this;rw[size_B];omega
 have h2:(B (cutZ 58 s.data.toList)).size<=1073741824:=by have:=cutZ_le 58 s.data.toList;rw[size_L]at this;rw[size_B];omega
 have h3:(B (trim (lower (cutA 58 s.data.toList)))).size<=1073741824:=by have:=trim_le (lower (cutA 58 s.data.toList));have h1':=h1;rw[lower_len]at this;rw[size_B]at *;omega
 have h4:(B (joined false false (cutZ 58 s.data.toList))).size<=2147483648:=by have:=joined_le false false (cutZ 58 s.data.toList);have h2':=h2;rw[size_B]at *;omega
 cases hc:cutF 58 s.data.toList with
 |true =>
  have hr1:=hr.out;rw[fieldOf,if_neg hf,if_pos hc]at hr1;have H1:=zH (And.intro hr1 hc);clear hf hr1 hc;go_enter Tryz.func80,Tryz.ntmps80;go_wp2_with (first
   |(go_at_call 55;refine(c55 _ _ _ (by omega)).mono ?_;rintro e w1⟨rfl,hn⟩;have hb1:=below_of_drewN hn;clear hn;rw[H1.out.2])
   |(go_at_call 24;refine(c24 _ _ (by omega)).mono ?_;rintro e w2⟨rfl,hb2⟩)
   |(go_at_call 56;refine(c56 _ _ (by rw[size_B,lower_len,L_B];rw[size_B]at h1;omega)).mono ?_;rintro e w3⟨rfl,hn⟩;have hb3:=below_of_drewN hn;clear hn;simp only[L_B])
   |(go_at_call 122;refine(c122 _ _ (by omega)).mono ?_;rintro e w4⟨rfl,hb4⟩;simp only[L_B]))
  go_ret
  exact⟨ret_eq (str_eq (by rw[<-H1.out.1,L_append,L_append,L_append];rfl)),bthen hb1 (bthen hb2 (bthen hb3 hb4))⟩
 |false =>
  have hr1:=hr.out;rw[fieldOf,if_neg hf,if_neg (by rw[hc];decide)]at hr1;have H1:=zH (And.intro hr1 hc);clear hf hr1 hc;go_enter Tryz.func80,Tryz.ntmps80;go_wp2_with (first
   |(go_at_call 55;refine(c55 _ _ _ (by omega)).mono ?_;rintro e w1⟨rfl,hn⟩;have hb1:=below_of_drewN hn;clear hn;rw[H1.out.2])
   |(go_at_call 24;refine(c24 _ _ (by omega)).mono ?_;rintro e w2⟨rfl,hb2⟩)
   |(go_at_call 56;refine(c56 _ _ (by rw[size_B,lower_len,size_L];omega)).mono ?_;rintro e w3⟨rfl,hn⟩;have hb3:=below_of_drewN hn;clear hn;simp only[L_B]))
  go_ret
  exact⟨ret_eq (str_eq (by rw[<-H1.out.1,L_append];rfl)),bthen hb1 (bthen hb2 hb3)⟩
end Go.Proofs.YtnkihlpmmfeioaaGreatDoor
