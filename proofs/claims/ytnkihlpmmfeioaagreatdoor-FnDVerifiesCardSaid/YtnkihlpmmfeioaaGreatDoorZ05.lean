/- Part of the proof that laws.FnDVerifies answers true: A30,A31,A32,A33,A34 -/
import Derived.IntWalk
import Derived.Lib.OthersKept
import Derived.Laws.Runes
import Derived.Laws.IdiomStrings
import Derived.Deep.CutBlock
import Derived.Test.YtnkihlpmmfeioaaGreatDoorZ04
set_option linter.unusedVariables false
set_option linter.unusedSimpArgs false
set_option maxRecDepth 1000000
set_option maxHeartbeats 16000000
namespace Go.Proofs.YtnkihlpmmfeioaaGreatDoor
open Go.RowKit
theorem extract_one(s:ByteArray)(k:Nat)(h:k < s.size):(s.extract k (k+1)).data.toList=[s[k]]:=by
 rw[L_extract,drop_at s k h,Nat.add_sub_cancel_left];rfl
theorem cutA_drop(c:Int)(s:ByteArray)(k:Nat)(h:k < s.size)(hc:¬(s[k].toNat:Int)=c):cutA c (s.data.toList.drop k)=s[k]::cutA c (s.data.toList.drop (k+1)):=by
 rw[drop_at s k h,cutA,if_neg hc]
theorem cutF_drop(c:Int)(s:ByteArray)(k:Nat)(h:k < s.size)(hc:¬(s[k].toNat:Int)=c):cutF c (s.data.toList.drop k)=cutF c (s.data.toList.drop (k+1)):=by
 rw[drop_at s k h,cutF,if_neg hc]
def idx(c:Int)(l:List UInt8):Int:=if cutF c l=true then((cutA c l).length:Int)else -1
theorem idx_yes{c:Int}{l:List UInt8}(h:cutF c l=true):idx c l=((cutA c l).length:Int):=if_pos h
theorem idx_no{c:Int}{l:List UInt8}(h:cutF c l=false):idx c l=-1:=if_neg (by rw[h];decide)
theorem c132(s:ByteArray)(c:UInt8)(w:World)(hs:s.size<=140737488355328) :
  Calls Tryz.prog 132 #[.string s,.string (B [c])] w fun e w'=>e=.returned (.int .i64 (idx c.toNat s.data.toList))/\w=w':=by
 have hsz:(B [c]).size=1:=rfl;obtain⟨r,hr⟩:∃r,Hid (idx c.toNat s.data.toList=r):=⟨_,rfl⟩;rw[hr.out];go_enter Tryz.func132,Tryz.ntmps132;go_wp2;go_loopg [5] s.size (fun g i w'=>∃k:Nat,Hid (k+g=s.size)/\k<=s.size/\i=.int .i64 (k:Int)/\Hid ((if cutF c.toNat (s.data.toList.drop k)=true then(k:Int)+((cutA c.toNat (s.data.toList.drop k)).length:Int)else -1)=r)/\w=w')
 case atStart=>exact⟨0,Nat.zero_add _,Nat.zero_le _,rfl,by unfold Hid;rw[<-hr.out,idx];simp,rfl⟩
 obtain⟨k,hk,hks,rfl,hp,rfl⟩:=hrel;by_cases hlt:k < s.size
 ·have hx:=extract_one s k hlt
  have hp2:=hp.out;by_cases hc:s[k]=c
  ·have hq:((s.extract k (k+1)).toList == (B [c]).toList)=true:=by rw[beq_str,hx,hc];simp[B]
   have hr2:r=(k:Int):=by
    rw[<-hp2,drop_at s k hlt];simp[cutF,cutA,hc]
   have HR:=zH hr2;clear hp hp2 hr hr2 hc hx;go_wp2;go_ret
   exact⟨ret_eq (int_eq HR.out.symm),rfl⟩
  have hq:((s.extract k (k+1)).toList == (B [c]).toList)=false:=by rw[beq_str,hx];simp[B,hc]
  have hcI:¬(s[k].toNat:Int)=(c.toNat:Int):=fun h=>hc (UInt8.toNat_inj.1 (by omega))
  rw[cutF_drop _ s k hlt hcI,cutA_drop _ s k hlt hcI]at hp2;have HP:=zH hp2;clear hp hp2 hc hx hcI;go_wp2;go_roundg (gk - 1)
  case measure=>have:=hk.out;omega
  case rel=>exact⟨k+1,by have:=hk.out;unfold Hid;omega,by omega,by go_num,by unfold Hid;rw[<-HP.out];split <;> simp <;> omega,rfl⟩
 have hd:=drop_end s k hlt;have hp2:=hp.out;rw[hd,cutF,if_neg (by decide)]at hp2;have HP:=zH hp2;clear hp hp2 hd;go_wp2;go_ret
 exact⟨ret_eq (int_eq HP.out),rfl⟩
theorem cutA_extract(c:Int)(s:ByteArray)(h:cutF c s.data.toList=true):(s.extract 0 (cutA c s.data.toList).length).data.toList=cutA c s.data.toList/\(s.extract ((cutA c s.data.toList).length+1) s.size).data.toList=cutZ c s.data.toList/\(cutA c s.data.toList).length < s.size:=by
 have key:∀l:List UInt8,cutF c l=true->l.take (cutA c l).length=cutA c l/\l.drop ((cutA c l).length+1)=cutZ c l/\(cutA c l).length < l.length:=by
  intro l;induction l with
  |nil=>intro h;simp[cutF]at h
  |cons x l ih =>
   intro h;by_cases hx:(x.toNat:Int)=c
   ·simp[cutA,cutZ,hx]
   simp only[cutF,if_neg hx]at h;simp only[cutA,cutZ,if_neg hx,List.length_cons,List.take_succ_cons,List.drop_succ_cons];obtain⟨h1,h2,h3⟩:=ih h;exact⟨by rw[h1],h2,by omega⟩
 obtain⟨h1,h2,h3⟩:=key _ h;rw[size_L]at h3;refine⟨?_,?_,h3⟩
 ·rw[L_extract];simpa using h1
 rw[L_extract,h2,List.take_of_length_le];rw[<-h2];simp[size_L]
theorem cutZ_none(c:Int)(l:List UInt8)(h:cutF c l=false):cutA c l=l/\cutZ c l=[]:=by
 induction l with
 |nil=>exact⟨rfl,rfl⟩
 |cons x l ih =>
  by_cases hx:(x.toNat:Int)=c
  ·simp[cutF,hx]at h
  simp only[cutF,if_neg hx]at h;obtain⟨h1,h2⟩:=ih h;simp only[cutA,cutZ,if_neg hx,h1,h2];exact⟨trivial,trivial⟩
theorem c94(s:ByteArray)(c:UInt8)(w:World)(hs:s.size<=140737488355328) :
  Calls Tryz.prog 94 #[.string s,.string (B [c])] w fun e w'=>e=.returned (.tuple #[.string (B (cutA c.toNat s.data.toList)),.string (B (cutZ c.toNat s.data.toList)),.bool (cutF c.toNat s.data.toList)])/\∃n,w'=w.drewN n:=by
 have hsz:(B [c]).size=1:=rfl;cases hf:cutF c.toNat s.data.toList with
 |true =>
  obtain⟨e1,e2,e3⟩:=cutA_extract _ s hf;obtain⟨k,hk⟩:∃k,Hid ((cutA c.toNat s.data.toList).length=k):=⟨_,rfl⟩;have hi:=idx_yes hf;rw[hk.out]at e1 e2 e3 hi;have HE:=zH (And.intro e1 (And.intro e2 hi));have hk0:(0:Int)<=(k:Int):=by omega
  have hk1:(0:Int)<=(k:Int)+1:=by omega
  have hk2:(k:Int)+1<=(s.size:Int):=by omega
  clear hf e1 e2 hi;go_enter Tryz.func94,Tryz.ntmps94;go_wp2_with (go_at_call 132;refine(c132 _ _ _ hs).mono ?_;rintro e w'⟨rfl,rfl⟩;rw[HE.out.2.2]);have hk3:IntKind.i64.wrap ((k:Int)+1)=(k:Int)+1:=IntWalk.i64_in _ (by omega);have hk4:((k:Int)+1).toNat=k+1:=by omega
  have hk5:(k:Int)<=(s.size:Int):=by omega
  have hk6:(0:Int)<=(k:Int)+1:=by omega
  have hk7:(k:Int)+1<=(s.size:Int):=by omega
  go_quiet (fail)
  clear hk3 hk4;go_wp2
  go_ret3
  exact⟨tup3 (str_eq HE.out.1) (str_eq HE.out.2.1) rfl,_,rfl⟩
 |false =>
  obtain⟨e1,e2⟩:=cutZ_none _ _ hf;have HE:=zH (And.intro e1 (And.intro e2 (idx_no hf)));clear hf e1 e2;go_enter Tryz.func94,Tryz.ntmps94;go_wp2_with (go_at_call 132;refine(c132 _ _ _ hs).mono ?_;rintro e w'⟨rfl,rfl⟩;rw[HE.out.2.2])
  go_ret3
  exact⟨tup3 (str_eq HE.out.1.symm) (str_eq HE.out.2.1.symm) rfl,0,rfl⟩
theorem c129(s:ByteArray)(c:UInt8)(w:World)(hs:s.size<=1073741824) :
  Calls Tryz.prog 129 #[.string s,.string (B [c])] w fun e w'=>∃v,e=.returned v/\Own w' w.heap.size 9 v ((split c.toNat s.data.toList).map strV)/\Below w.heap.size w w':=by
 have hsz:(B [c]).size=1:=rfl;go_enter Tryz.func129,Tryz.ntmps129;go_wp2;go_loopg [0,5] s.size (fun g v0 v w'=>∃s1:ByteArray,∃out:List (List UInt8),Hid (s1.size=g)/\s1.size<=s.size/\v0=.string s1/\Hid (out++split c.toNat s1.data.toList=split c.toNat s.data.toList/\out.length+s1.size<=s.size)/\Hid (Own w' w.heap.size 9 v (out.map strV))/\Hid (Below w.heap.size w w'))
 case atStart=>exact⟨s,[],rfl,zR _,rfl,⟨rfl,by simp⟩,Own.nil _ _ _,zB _ _⟩
 obtain⟨s1,out,hk,hle,rfl,hp,ho,hb⟩:=hrel;obtain⟨p1,p2⟩:=hp.out;clear hp;cases hf:cutF c.toNat s1.data.toList with
 |true =>
  rw[split_found _ _ hf]at p1;have hz:=cutZ_lt _ _ hf;rw[size_L]at hz;obtain⟨e1,e2,e3⟩:=cutA_extract _ s1 hf;obtain⟨k,hkk⟩:∃k,Hid ((cutA c.toNat s1.data.toList).length=k):=⟨_,rfl⟩;have hi:=idx_yes hf;rw[hkk.out]at e1 e2 e3 hi;have HE:=zH (And.intro e1 (And.intro e2 hi));have H1:=zH (And.intro hf (And.intro p1 (And.intro p2 hz)));have hk0:(0:Int)<=(k:Int):=by omega
  have hk2:(k:Int)+1<=(s1.size:Int):=by omega
  have hstr:Hid (Value.string (s1.extract 0 k)=strV (cutA c.toNat s1.data.toList)):=by unfold Hid strV;exact str_eq HE.out.1
  clear hf p1 p2 hz e1 e2 hi;go_wp2_with (first
   |(go_at_call 132;refine(c132 _ _ _ (by omega)).mono ?_;rintro e w1⟨rfl,rfl⟩;rw[HE.out.2.2])
   |(at_builtin;rw[hstr.out];refine wp_app1 Tryz.underlying34 info9 rfl rfl (.tmp 46) (.tmp 50) rfl rfl ho.out hb.out.size (strV (cutA c.toNat s1.data.toList)) rfl rfl (by simp;have:=H1.out.2.2;omega) (by decide) ?_;intro v2 w2 ho2 hg2 hb3 hl2))
  go_roundg (s1.extract (k+1) s1.size).size
  case measure=>have:=hk.out;simp;omega
  case rel =>
   have h2:=HE.out.2.1;exact⟨s1.extract (k+1) s1.size,out++[cutA c.toNat s1.data.toList],rfl,by simp;omega,rfl,⟨by rw[List.append_assoc,h2];exact H1.out.2.1,by have:=H1.out.2.2;simp;omega⟩,by unfold Hid;simpa using ho2,hb3 _ hb.out⟩
 |false =>
  rw[split_none _ _ hf]at p1;obtain⟨e1,e2⟩:=cutZ_none _ _ hf;have hi:=idx_no hf;have H1:=zH (And.intro hi (And.intro p1 (And.intro p2 e1)));have hstr:Hid (Value.string s1=strV (cutA c.toNat s1.data.toList)):=by unfold Hid strV;exact str_eq e1.symm
  clear hf p1 p2 e1 e2 hi;go_wp2_with (first
   |(go_at_call 132;refine(c132 _ _ _ (by omega)).mono ?_;rintro e w1⟨rfl,rfl⟩;rw[H1.out.1])
   |(at_builtin;rw[hstr.out];refine wp_app1 Tryz.underlying34 info9 rfl rfl (.tmp 42) (.tmp 44) rfl rfl ho.out hb.out.size (strV (cutA c.toNat s1.data.toList)) rfl rfl (by simp;have:=H1.out.2.2;omega) (by decide) ?_;intro v2 w2 ho2 hg2 hb3 hl2))
  go_ret
  exact⟨_,rfl,by rw[<-H1.out.2.1];simpa using ho2,hb3 _ hb.out⟩
def plainB(c:UInt8):Prop:=(c.toNat:Int) < 128/\(c.toNat:Int)≠11/\(c.toNat:Int)≠12
def plainL(l:List UInt8):Prop:=∀c∈l,plainB c
theorem blank_space(c:UInt8)(h:plainB c):blank c=(decide (9<=(c.toNat:Int)/\(c.toNat:Int)<=13) || decide ((c.toNat:Int)=32)):=by
 obtain⟨h1,h2,h3⟩:=h;rw[Bool.eq_iff_iff,blank_iff];simp only[Bool.or_eq_true,decide_eq_true_iff];omega
theorem c133(c:UInt8)(w:World)(h:plainB c):Calls Tryz.prog 133 #[.int .i32 (c.toNat:Int)] w fun e w'=>e=.returned (.bool (blank c))/\w=w':=by
 have hb:=blank_space c h;obtain⟨h1,h2,h3⟩:=h;by_cases a1:9<=(c.toNat:Int)/\(c.toNat:Int)<=13
 ·rw[decide_eq_true a1,Bool.true_or]at hb
  obtain⟨a1,a2⟩:=a1;rw[hb];clear hb h2 h3;go_enter Tryz.func133,Tryz.ntmps133;go_wp2;go_ret
  exact⟨rfl,rfl⟩
 rw[decide_eq_false a1,Bool.false_or]at hb;by_cases a2:(c.toNat:Int)=32
 ·rw[decide_eq_true a2]at hb
  rw[hb];have e1:((c.toNat:Int) == 32)=true:=zE a2;have l1:13 < (c.toNat:Int):=by omega
  clear hb h2 h3 a1 a2;go_enter Tryz.func133,Tryz.ntmps133;go_wp2;go_ret
  exact⟨rfl,rfl⟩
 rw[decide_eq_false a2]at hb;rw[hb];have n1:((c.toNat:Int) == 32)=false:=zF a2;have n2:((c.toNat:Int) == 133)=false:=zF (by omega);have n3:((c.toNat:Int) == 160)=false:=zF (by omega);have n4:((c.toNat:Int) == 5760)=false:=zF (by omega);have n5:((c.toNat:Int) == 8232)=false:=zF (by omega);have n6:((c.toNat:Int) == 8233)=false:=zF (by omega);have n7:((c.toNat:Int) == 8239)=false:=zF (by omega);have n8:((c.toNat:Int) == 8287)=false:=zF (by omega);have n9:((c.toNat:Int) == 12288)=false:=zF (by omega);have l2:(c.toNat:Int) < 8192:=by omega
 have l1:(c.toNat:Int) < 9\/13 < (c.toNat:Int):=by omega
 clear hb h2 h3 a1 a2;rcases l1 with l1|l1;all_goals
  go_enter Tryz.func133,Tryz.ntmps133;go_wp2;go_ret
  exact⟨rfl,rfl⟩
theorem enc_plain(c:UInt8)(h:plainB c):Utf8.encode (c.toNat:Int)=B [c]:=by
 have h1:c.toNat < 128:=by have:=h.1;omega
 have hv:Utf8.valid (c.toNat:Int)=true:=by unfold Utf8.valid;simp;omega
 unfold Utf8.encode;simp only[hv,if_true,Int.toNat_natCast];rw[if_pos h1];simp[B]
theorem grown_iterAt(w:World)(k:Nat)(s:ByteArray)(pos:Nat):w.grownBy (w.iterAt k s pos) (some k) :=
 ⟨rfl,rfl,rfl,by rw[Lib.iterAt_size];exact zR _,fun j _ hj=>Lib.iterAt_other w k j s pos (fun e=>hj (by rw[e]))⟩
theorem plain_at{s:ByteArray}(h:plainL s.data.toList)(k:Nat)(hk:k < s.size):plainB s[k]:=by
 apply h;have:s.data.toList[k]'(by rw[size_L];exact hk)=s[k]:=rfl;rw[<-this];exact List.getElem_mem _
theorem strip_cons(x:UInt8)(l:List UInt8):strip (x::l)=if blank x=true then strip l else x::strip l:=rfl
theorem c98(s:ByteArray)(w:World)(hs:s.size<=1073741824)(hp:plainL s.data.toList) :
  Calls Tryz.prog 98 #[.string s] w fun e w'=>e=.returned (.string (B (strip s.data.toList)))/\Below w.heap.size w w':=by
 have HP:=zH hp;clear hp;go_enter Tryz.func98,Tryz.ntmps98;go_wp2;have hit0:Hid ((w.iter s 0).heap[w.heap.size]?=some (.stringIter s 0)):=World.iter_heap w s 0;have hb0:Hid (Below w.heap.size w (w.iter s 0)):=(zB _ _).alloc (zR _) _;have hsz0:Hid ((w.iter s 0).heap.size=w.heap.size+1):=by unfold Hid World.iter;simp
 go_loopg [3] s.size (fun g v w'=>∃k:Nat,∃out:List UInt8,Hid (k+g=s.size)/\k<=s.size/\Hid (out++strip (s.data.toList.drop k)=strip s.data.toList)/\Hid (out.length<=k)/\Hid (OwnB w' (w.heap.size+1) v out)/\Hid (w'.heap[w.heap.size]?=some (.stringIter s k))/\Hid (Below w.heap.size w w'))
 case atStart=>exact⟨0,[],Nat.zero_add _,Nat.zero_le _,by unfold Hid;simp,zR _,OwnB.nil _ _,hit0,hb0⟩
 clear hit0 hb0 hsz0;obtain⟨k,out,hk,hks,hq,hol,ho,hit,hb⟩:=hrel;by_cases hlt:k < s.size
 ·have hpl:=plain_at HP.out k hlt
  have hnx:=fun ty=>Lib.run_next_ascii_at (P:=Tryz.prog) wr w.heap.size s k ty hit.out hlt (by have:=hpl.1;omega)
  have hitlt:w.heap.size < wr.heap.size:=(Array.getElem?_eq_some_iff.1 hit.out).1;have hq2:=hq.out;rw[drop_at s k hlt,strip_cons]at hq2;have henc:=enc_plain s[k] hpl;obtain⟨c,hc⟩:∃c,Hid (s[k]=c):=⟨s[k],zH rfl⟩;rw[hc.out]at hq2 henc hpl hnx;have ho1:=zH (ho.out.grown (grown_iterAt wr w.heap.size s (k+1)) (ho.out.off (Nat.lt_succ_self _)));have hb1:=zH (Lib.below_iterAt hb.out (zR _) s (k+1));have hit1:=zH (Lib.iterAt_heap wr w.heap.size s k (k+1) hit.out);have hsz1:Hid (w.heap.size < (wr.iterAt w.heap.size s (k+1)).heap.size):=by unfold Hid;rw[Lib.iterAt_size];exact hitlt
  have HPL:=zH hpl;clear hpl hit hb ho hq;generalize wr.iterAt w.heap.size s (k+1)=W1 at *
  cases hbl:blank c with
  |true =>
   rw[if_pos hbl]at hq2;have HQ:=zH hq2;have HB:=zH hbl;clear hq2 hbl;go_wp2_with (go_at_call 133;refine(c133 _ _ HPL.out).mono ?_;rintro e w'⟨rfl,rfl⟩;rw[HB.out]);go_roundg (gk - 1)
   case measure=>have:=hk.out;omega
   case rel=>exact⟨k+1,out,by have:=hk.out;unfold Hid;omega,by omega,HQ,by have:=hol.out;unfold Hid;omega,ho1,hit1,hb1⟩
  |false =>
   rw[if_neg (by rw[hbl];decide)]at hq2;have HQ:=zH hq2;have HB:=zH hbl;clear hq2 hbl;go_wp2_with (first
    |(go_at_call 133;refine(c133 _ _ HPL.out).mono ?_;rintro e w'⟨rfl,rfl⟩;rw[HB.out])
    |(at_builtin;refine wp_appB rfl (.tmp 14) (.tmp 16) rfl rfl rfl ho1.out (Src.text _ (B [c])) (by have:=hol.out;simp[B];omega) (by have:=hsz1.out;omega) ?_;intro v2 w2 hO2 hg2 hb2 hl2))
   have hg3:W1.grownBy w2 u3.ownBlock:=hg2;have hOo:=ho1.out.off (Nat.lt_succ_self w.heap.size);have hit2:Hid (w2.heap[w.heap.size]?=some (.stringIter s (k+1))):=(hg3.block _ hsz1.out (by rcases hOo with h|h;rw[h];simp;exact fun e=>h e.symm)).trans hit1.out;have hb3:Hid (Below w.heap.size w w2):=hb1.out.grown hg3 (by have:=hsz1.out;omega) (fun j hj=>by have:=ho1.out.lt j hj;omega);go_roundg (gk - 1)
   case measure=>have:=hk.out;omega
   case rel=>exact⟨k+1,out++[c],by have:=hk.out;unfold Hid;omega,by omega,by unfold Hid;rw[List.append_assoc];exact HQ.out,by have:=hol.out;unfold Hid;simp;omega,hO2,hit2,hb3⟩
 have hd:=drop_end s k hlt;have hq2:=hq.out;rw[hd,strip,List.append_nil]at hq2;have hnx:=fun ty=>Lib.run_next_end_at (P:=Tryz.prog) wr w.heap.size s k ty hit.out hlt
 have hcv:=ho.out.str;have HQ:=zH hq2;clear hd hq hq2;go_wp2;go_ret
 exact⟨ret_eq (by rw[<-HQ.out];rfl),hb.out⟩
theorem rune1(s:ByteArray)(c:UInt8)(h:s.data.toList=[c])(hp:plainB c)(W:World) :
  ∃n r,(convert 9 153 (.string s)).run Tryz.prog W=.ok (.slice (some ⟨W.heap.size,0,none⟩) 1 n) (W.drew.alloc (.cells (#[.int .i32 (c.toNat:Int)]++r) 21)):=by
 obtain rfl:s=B [c]:=by rw[<-B_L s,h]
 have hd:Utf8.decode (B [c]) 0=(c.toNat,1):=decode_ascii (B [c]) 0 (by simp[B,ByteArray.size]) (by have:=hp.1;show c.toNat < 128;omega);have hr:Conv.runesFrom (B [c]) (B [c]).size 0 #[]=#[.int .i32 (c.toNat:Int)]:=by
  show Conv.runesFrom (B [c]) 1 0 #[]=_;unfold Conv.runesFrom;rw[if_pos (by simp[B,ByteArray.size]),hd];rfl
 have:=run_runes_of_string (P:=Tryz.prog) W 9 153 21 (B [c]) Tryz.underlying9 Tryz.underlying153 Tryz.underlying21 (by rw[hr];show 1<=_;decide);rw[hr]at this;exact⟨_,_,this⟩
def lead : List UInt8->Nat
 |[]=>0
 |c::l=>if blank c=true then lead l+1 else 0
theorem lead_le(l:List UInt8):lead l<=l.length:=by
 induction l with
 |nil=>simp[lead]
 |cons c l ih=>unfold lead;split <;> simp <;> omega
theorem lead_drop(l:List UInt8):l.drop (lead l)=trimL l:=by
 induction l with
 |nil=>rfl
 |cons c l ih =>
  unfold lead trimL;split
  ·rw[List.drop_succ_cons,ih]
  rfl
theorem lead_at(l:List UInt8)(h:lead l < l.length):blank (l[lead l])=false:=by
 induction l with
 |nil=>simp at h
 |cons c l ih =>
  by_cases hc:blank c=true
  ·simp only[lead,if_pos hc,List.length_cons]at h ⊢
   simpa using ih (by omega)
  simp only[lead,if_neg hc]at h ⊢
  simpa using hc
theorem c95(s:ByteArray)(w:World)(hs:s.size<=1073741824)(hp:plainL s.data.toList) :
  Calls Tryz.prog 95 #[.string s] w fun e w'=>e=.returned (.string (B (trim s.data.toList)))/\Below w.heap.size w w':=by
 have HP:=zH hp;obtain⟨R,hR⟩:∃R,Hid (trim s.data.toList=R):=⟨_,rfl⟩;rw[hR.out];obtain⟨F,hF⟩:∃F,Hid (lead s.data.toList=F):=⟨_,rfl⟩;have hFle:F<=s.size:=by have:=lead_le s.data.toList;rw[hF.out,size_L]at this;exact this
 clear hp;go_enter Tryz.func95,Tryz.ntmps95;have hit0:Hid ((w.iter s 0).heap[w.heap.size]?=some (.stringIter s 0)):=World.iter_heap w s 0;have hb0:Hid (Below w.heap.size w (w.iter s 0)):=(zB _ _).alloc (zR _) _
 go_upto_block 0 with fail
 go_cut [3] (fun v w'=>v=.int .i64 (F:Int)/\Hid (Below w.heap.size w w'))
 case first =>
  go_wp2;go_loopg [3] s.size (fun g v w'=>∃k:Nat,Hid (k+g=s.size)/\k<=s.size/\v=.int .i64 (s.size:Int)/\Hid (k+lead (s.data.toList.drop k)=F)/\Hid (w'.heap[w.heap.size]?=some (.stringIter s k))/\Hid (Below w.heap.size w w'))
  case atStart=>exact⟨0,Nat.zero_add _,Nat.zero_le _,rfl,by unfold Hid;rw[<-hF.out];simp,hit0,hb0⟩
  clear hit0 hb0;obtain⟨k,hk,hks,rfl,hq,hit,hb⟩:=hrel;by_cases hlt:k < s.size
  ·have hpl:=plain_at HP.out k hlt
   have hnx:=fun ty=>Lib.run_next_ascii_at (P:=Tryz.prog) wr w.heap.size s k ty hit.out hlt (by have:=hpl.1;omega)
   have hq2:=hq.out;rw[drop_at s k hlt,lead]at hq2;obtain⟨c,hc⟩:∃c,Hid (s[k]=c):=⟨s[k],zH rfl⟩;rw[hc.out]at hq2 hpl hnx;have hb1:=zH (Lib.below_iterAt hb.out (zR _) s (k+1));have hit1:=zH (Lib.iterAt_heap wr w.heap.size s k (k+1) hit.out);have HPL:=zH hpl;clear hpl hit hb hq;generalize wr.iterAt w.heap.size s (k+1)=W1 at *
   cases hbl:blank c with
   |true =>
    rw[if_pos hbl]at hq2;have HQ:=zH hq2;have HB:=zH hbl;clear hq2 hbl;go_wp2_with (go_at_call 133;refine(c133 _ _ HPL.out).mono ?_;rintro e w'⟨rfl,rfl⟩;rw[HB.out]);go_roundg (gk - 1)
    case measure=>have:=hk.out;omega
    case rel=>exact⟨k+1,by have:=hk.out;unfold Hid;omega,by omega,rfl,by have:=HQ.out;unfold Hid;omega,hit1,hb1⟩
   |false =>
    rw[if_neg (by rw[hbl];decide),Nat.add_zero]at hq2;have HQ:=zH hq2;have HB:=zH hbl;clear hq2 hbl;go_wp2_with (go_at_call 133;refine(c133 _ _ HPL.out).mono ?_;rintro e w'⟨rfl,rfl⟩;rw[HB.out])
    go_meet
    exact⟨by rw[HQ.out],hb1⟩
  have hq2:=hq.out;rw[drop_end s k hlt,lead,Nat.add_zero]at hq2;have hkk:k=s.size:=by omega
  rw[hkk]at hq2;have HQ:=zH hq2;have hnx:=fun ty=>Lib.run_next_end_at (P:=Tryz.prog) wr w.heap.size s k ty hit.out hlt
  clear hq hq2 hkk;go_wp2
  go_meet
  exact⟨by rw[HQ.out],hb⟩
 case rest =>
  clear hit0 hb0;obtain⟨rfl,hb⟩:=hcut;obtain⟨m,hm⟩:∃m,Hid (s.data.toList.drop F=m):=⟨_,rfl⟩;have hmt:Hid (trimR m=R):=by unfold Hid;rw[<-hR.out,trim,<-lead_drop,hF.out,hm.out]
  have hml:Hid (m.length=s.size - F):=by unfold Hid;rw[<-hm.out,List.length_drop,size_L]
  have hm0:Hid (∀k,F+k < s.size->k=0->∃h:k < m.length,blank m[k]=false):=by
   intro k h1 h2;subst h2;have h3:lead s.data.toList < s.data.toList.length:=by rw[hF.out,size_L];omega
   refine⟨by rw[hml.out];omega,?_⟩;have:=lead_at _ h3;simp only[hF.out]at this;rw[<-this];congr 1
   simp[<-hm.out]
  go_wp2;go_loopg [4,7] (s.size - F) (fun g t v w'=>∃k tt:Nat,Hid (k+g=s.size)/\F<=k/\k<=s.size/\tt<=s.size/\t=.int .i64 (tt:Int)/\v=.int .i64 (k:Int)/\Hid (F < k->F<=tt/\trimR (m.take (k - F))=m.take (tt - F))/\Hid (Below w.heap.size w w'))
  case atStart=>exact⟨F,s.size,by unfold Hid;omega,zR _,hFle,zR _,rfl,rfl,fun h=>absurd h (Nat.lt_irrefl _),hb⟩
  clear hb;obtain⟨k,tt,hk,hFk,hks,hto,rfl,rfl,hq,hb⟩:=hrel;by_cases hlt:k < s.size
  ·have hpl:=plain_at HP.out k hlt
   have hx:=extract_one s k hlt;obtain⟨c,hc⟩:∃c,Hid (s[k]=c):=⟨s[k],zH rfl⟩;have hmk:m[k - F]?=some c:=by
    rw[<-hm.out,List.getElem?_drop,<-hc.out,show F+(k - F)=k by omega,zG (by rw[size_L];exact hlt)];rfl
   rw[hc.out]at hx hpl;have hru:=fun W=>rune1 (s.extract k (k+1)) c hx hpl W
   obtain⟨n1,r1,e1⟩:=hru wr;obtain⟨n2,r2,e2⟩:=hru (wr.alloc (.cells (#[.int .i32 (c.toNat:Int)]++r1) 21)).drew;have hcl:((wr.alloc (.cells (#[.int .i32 (c.toNat:Int)]++r1) 21)).alloc (.cells (#[.int .i32 (c.toNat:Int)]++r2) 21)).cell? ⟨wr.heap.size+1,0,none⟩=some (.int .i32 (c.toNat:Int)):=by
    have:=cells_row (wr.alloc (.cells (#[.int .i32 (c.toNat:Int)]++r1) 21)) (#[.int .i32 (c.toNat:Int)]++r2) 21 0;rw[show(wr.alloc (.cells (#[.int .i32 (c.toNat:Int)]++r1) 21)).heap.size=wr.heap.size+1 by simp]at this;rw[this,Array.getElem?_append_left (show 0 < 1 by decide)];rfl
   have HPL:=zH hpl;have hcI:(s[k].toNat:Int) < 192:=by rw[hc.out];have:=hpl.1;omega
   have HX:=zH hx;have HM:=zH hmk;clear hru hpl hx hmk;obtain⟨wo,hwo⟩:∃wo:World,wo=wr:=⟨_,rfl⟩;rw[<-hwo]at hb e1 e2 hcl ⊢;clear hwo;cases hbl:blank c with
   |true =>
    have HB:=zH hbl;have HN:Hid (F < k+1->F<=tt/\trimR (m.take (k+1 - F))=m.take (tt - F)):=fun _=>by
     have hFk':F < k:=by
      refine Nat.lt_of_le_of_ne hFk fun he=>?_
      obtain⟨h1,h2⟩:=hm0.out (k - F) (by omega) (by omega);have h3:=HM.out;rw[zG h1]at h3;injection h3 with h3
      rw[h3,hbl]at h2;cases h2
     obtain⟨h4,h5⟩:=hq.out hFk';refine⟨h4,?_⟩;rw[show k+1 - F=(k - F)+1 by omega,List.take_add_one,HM.out];show trimR (_++[c])=_;rw[trimR_snoc,if_pos hbl];exact h5
    clear hbl;go_wp2;go_loopg [8] 0 (fun g v w'=>v=.int .i64 1/\w'=wo)
    case atStart=>exact⟨rfl,rfl⟩
    obtain⟨rfl,rfl⟩:=hrel;by_cases hk1:k+1 < s.size
    all_goals
     go_wp2_with (go_at_call 133;refine(c133 _ _ HPL.out).mono ?_;rintro e w'⟨rfl,rfl⟩;rw[HB.out]);go_roundg (s.size - k - 1)
     case measure=>have:=hk.out;omega
     case rel=>exact⟨k+1,tt,by have:=hk.out;unfold Hid;omega,by omega,by omega,by omega,rfl,by go_num,HN,((hb.out.alloc hb.out.size _).alloc (by have:=hb.out.size;simp;omega) _).drew.drew⟩
   |false =>
    have HB:=zH hbl;have HN:Hid (F < k+1->F<=k+1/\trimR (m.take (k+1 - F))=m.take (k+1 - F)):=fun _=>⟨by omega,by
     rw[show k+1 - F=(k - F)+1 by omega,List.take_add_one,HM.out];show trimR (_++[c])=_++[c];rw[trimR_snoc,if_neg (by rw[hbl];decide)]⟩
    clear hbl;go_wp2;go_loopg [8] 0 (fun g v w'=>v=.int .i64 1/\w'=wo)
    case atStart=>exact⟨rfl,rfl⟩
    obtain⟨rfl,rfl⟩:=hrel;by_cases hk1:k+1 < s.size
    all_goals
     go_wp2_with (go_at_call 133;refine(c133 _ _ HPL.out).mono ?_;rintro e w'⟨rfl,rfl⟩;rw[HB.out]);go_roundg (s.size - k - 1)
     case measure=>have:=hk.out;omega
     case rel=>exact⟨k+1,k+1,by have:=hk.out;unfold Hid;omega,by omega,by omega,by omega,by go_num,by go_num,HN,((hb.out.alloc hb.out.size _).alloc (by have:=hb.out.size;simp;omega) _).drew.drew⟩
  obtain rfl:k=s.size:=by omega
  have hq2:=hq.out;clear hq;by_cases hF2:F=s.size
  ·have hRn:Hid (R=[]):=by
    have h1:=hmt.out;have h2:m=[]:=List.eq_nil_of_length_eq_zero (by rw[hml.out];omega);rw[h2]at h1;exact h1.symm
   have hFI:((F:Int) == (s.size:Int))=true:=zE (by omega);clear hq2 hF2;go_wp2;go_ret
   exact⟨ret_eq (by rw[hRn.out];rfl),hb.out⟩
  obtain⟨q1,q2⟩:=hq2 (by omega);rw[List.take_of_length_le (by rw[hml.out];omega),hmt.out]at q2;have HQ:Hid ((s.extract F tt).data.toList=R):=by unfold Hid;rw[L_extract,hm.out];exact q2.symm
  have hFI:((F:Int) == (s.size:Int))=false:=zF (by omega);have q1I:(F:Int)<=(tt:Int):=by omega
  have q2I:(tt:Int)<=(s.size:Int):=by omega
  clear hq2 hF2 q2;go_wp2;go_ret
  exact⟨ret_eq (str_eq HQ.out),hb.out⟩
theorem lower_cons(x:UInt8)(l:List UInt8):lower (x::l)=low x::lower l:=rfl
theorem low_up(c:UInt8)(h1:65<=(c.toNat:Int))(h2:(c.toNat:Int)<=90):(c.toNat:Int)+97 - 65=((low c).toNat:Int):=by rw[low_num c h1 h2];omega
theorem low_same(c:UInt8)(h:(c.toNat:Int) < 65\/90 < (c.toNat:Int)):low c=c:=by unfold low;rw[if_neg (by omega)]
theorem c141(s:ByteArray)(w:World)(hs:s.size<=1073741824)(hp:plainL s.data.toList) :
  Calls Tryz.prog 141 #[.string s] w fun e w'=>e=.returned (.string (B (lower s.data.toList)))/\Below w.heap.size w w':=by
 have HP:=zH hp;clear hp;go_enter Tryz.func141,Tryz.ntmps141;go_wp2;go_loopg [3,4] s.size (fun g v j w'=>∃k:Nat,∃out:List UInt8,Hid (k+g=s.size)/\k<=s.size/\j=.int .i64 (k:Int)/\Hid (out++lower (s.data.toList.drop k)=lower s.data.toList)/\Hid (out.length<=k)/\Hid (OwnB w' w.heap.size v out)/\Hid (Below w.heap.size w w'))
 case atStart=>exact⟨0,[],Nat.zero_add _,Nat.zero_le _,rfl,by unfold Hid;simp,zR _,OwnB.nil _ _,zB _ _⟩
 obtain⟨k,out,hk,hks,rfl,hq,hol,ho,hb⟩:=hrel;by_cases hlt:k < s.size
 ·have hpl:=plain_at HP.out k hlt
  have hq2:=hq.out;rw[drop_at s k hlt,lower_cons]at hq2;have HQ:=zH hq2;have h128:=hpl.1;by_cases hu:65<=(s[k].toNat:Int)/\(s[k].toNat:Int)<=90
  ·obtain⟨u1,u2⟩:=hu
   have hlo:=zH (low_up s[k] u1 u2);clear hq hq2 hpl h128;go_wp2_with (at_builtin;rw[hlo.out];refine wp_appb rfl (.tmp 26) (.tmp 30) rfl (low s[k]) rfl rfl ho.out (by have:=hol.out;omega) hb.out.size ?_;intro v2 w2 hO2 hg2 hb2 hl2;have hb3:=hb2 w hb.out);go_roundg (gk - 1)
   case measure=>have:=hk.out;omega
   case rel=>exact⟨k+1,out++[low s[k]],by have:=hk.out;unfold Hid;omega,by omega,by go_num,by unfold Hid;rw[List.append_assoc];exact HQ.out,by have:=hol.out;unfold Hid;simp;omega,hO2,hb3⟩
  have hu':(s[k].toNat:Int) < 65\/90 < (s[k].toNat:Int):=by omega
  have hlo:=zH (low_same s[k] hu');have hkel:Hid (k+3<=s.size->((s.extract k (k+3)).toList == [226,132,170])=false):=fun h=>by
   rw[Lib.toList_data,L_extract,drop_at s k hlt,show k+3 - k=2+1 by omega,List.take_succ_cons];refine zF fun he=>?_
   injection he with he1 _
   rw[he1]at h128;exact absurd h128 (by decide)
  clear hq hq2 hpl h128 hu;rcases hu' with u1|u1;all_goals
   by_cases h3:k+3<=s.size
   ·have hkl:=hkel.out h3
    go_wp2_with (at_builtin;refine wp_appb rfl (.tmp 15) (.tmp 17) rfl s[k] rfl rfl ho.out (by have:=hol.out;omega) hb.out.size ?_;intro v2 w2 hO2 hg2 hb2 hl2;have hb3:=hb2 w hb.out);go_roundg (gk - 1)
    case measure=>have:=hk.out;omega
    case rel=>exact⟨k+1,out++[s[k]],by have:=hk.out;unfold Hid;omega,by omega,by go_num,by unfold Hid;rw[List.append_assoc];have:=HQ.out;rw[hlo.out]at this;exact this,by have:=hol.out;unfold Hid;simp;omega,hO2,hb3⟩
   go_wp2_with (at_builtin;refine wp_appb rfl (.tmp 15) (.tmp 17) rfl s[k] rfl rfl ho.out (by have:=hol.out;omega) hb.out.size ?_;intro v2 w2 hO2 hg2 hb2 hl2;have hb3:=hb2 w hb.out);go_roundg (gk - 1)
   case measure=>have:=hk.out;omega
   case rel=>exact⟨k+1,out++[s[k]],by have:=hk.out;unfold Hid;omega,by omega,by go_num,by unfold Hid;rw[List.append_assoc];have:=HQ.out;rw[hlo.out]at this;exact this,by have:=hol.out;unfold Hid;simp;omega,hO2,hb3⟩
 have hq2:=hq.out;rw[drop_end s k hlt,show lower []=[]from rfl,List.append_nil]at hq2;have HQ:=zH hq2;have hcv:=ho.out.str;clear hq hq2;go_wp2;go_ret
 exact⟨ret_eq (by rw[<-HQ.out];rfl),hb.out⟩
end Go.Proofs.YtnkihlpmmfeioaaGreatDoor
