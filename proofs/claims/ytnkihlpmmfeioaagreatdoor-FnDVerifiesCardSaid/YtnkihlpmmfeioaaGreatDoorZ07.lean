/- Part of the proof that laws.FnDVerifies answers true: A35,A13,A14 -/
import Derived.Test.YtnkihlpmmfeioaaGreatDoorZ05
import Derived.Test.YtnkihlpmmfeioaaGreatDoorZ06
set_option linter.unusedVariables false
set_option linter.unusedSimpArgs false
set_option maxRecDepth 1000000
set_option maxHeartbeats 16000000
namespace Go.Proofs.YtnkihlpmmfeioaaGreatDoor
open Go.RowKit
theorem info21 : (Tryz.prog.info? 21).map (fun i=>(i.zero,i.size,i.bytes))=some (some (.int .i32 0),1,4):=by kernel_rfl
def runeV(c:UInt8):Value:=.int .i32 (c.toNat:Int)
def runeVs(l:List UInt8):List Value:=l.map runeV
theorem runeVs_len(l:List UInt8):(runeVs l).length=l.length:=by simp[runeVs]
theorem runeVs_at{l:List UInt8}{i:Nat}{c:UInt8}(h:l[i]?=some c):(runeVs l)[i]?=some (runeV c):=by simp[runeVs,h]
theorem c96(s:ByteArray)(w:World)(hs:s.size<=1073741824)(hp:plainL s.data.toList) :
  Calls Tryz.prog 96 #[.string s] w fun e w'=>∃v,e=.returned v/\Own w' w.heap.size 21 v (runeVs (lower s.data.toList))/\Below w.heap.size w w':=by
 have HP:=zH hp;clear hp;go_enter Tryz.func96,Tryz.ntmps96;go_wp2;have hit0:Hid ((w.iter s 0).heap[w.heap.size]?=some (.stringIter s 0)):=World.iter_heap w s 0;have hb0:Hid (Below w.heap.size w (w.iter s 0)):=(zB _ _).alloc (zR _) _;go_loopg [3] s.size (fun g v w'=>∃k:Nat,∃out:List UInt8,Hid (k+g=s.size)/\k<=s.size/\Hid (out++lower (s.data.toList.drop k)=lower s.data.toList)/\Hid (out.length<=k)/\Hid (Own w' (w.heap.size+1) 21 v (runeVs out))/\Hid (w'.heap[w.heap.size]?=some (.stringIter s k))/\Hid (Below w.heap.size w w'))
 case atStart=>exact⟨0,[],Nat.zero_add _,Nat.zero_le _,by unfold Hid;simp,zR _,Own.nil _ _ _,hit0,hb0⟩
 clear hit0 hb0;obtain⟨k,out,hk,hks,hq,hol,ho,hit,hb⟩:=hrel;by_cases hlt:k < s.size
 ·have hpl:=plain_at HP.out k hlt
  have hnx:=fun ty=>Lib.run_next_ascii_at (P:=Tryz.prog) wr w.heap.size s k ty hit.out hlt (by have:=hpl.1;omega)
  have hitlt:w.heap.size < wr.heap.size:=(Array.getElem?_eq_some_iff.1 hit.out).1;have hq2:=hq.out;rw[drop_at s k hlt,lower_cons]at hq2;obtain⟨c,hc⟩:∃c,Hid (s[k]=c):=⟨s[k],zH rfl⟩;rw[hc.out]at hq2 hpl hnx;have ho1:=zH (ho.out.grown (grown_iterAt wr w.heap.size s (k+1)) (ho.out.off (Nat.lt_succ_self _)));have hb1:=zH (Lib.below_iterAt hb.out (zR _) s (k+1));have hit1:=zH (Lib.iterAt_heap wr w.heap.size s k (k+1) hit.out);have hsz1:Hid (w.heap.size < (wr.iterAt w.heap.size s (k+1)).heap.size):=by unfold Hid;rw[Lib.iterAt_size];exact hitlt
  have h128:=hpl.1;have HQ:=zH hq2;clear hpl hit hb ho hq hq2;generalize wr.iterAt w.heap.size s (k+1)=W1 at *
  by_cases hu:65<=(c.toNat:Int)/\(c.toNat:Int)<=90
  ·obtain⟨u1,u2⟩:=hu
   have hlo:=zH (low_num c u1 u2).symm;clear h128;go_wp2_with (at_builtin;rw[hlo.out];refine wp_app1 Tryz.underlying153 info21 rfl rfl (.tmp 26) (.tmp 28) rfl rfl ho1.out (by have:=hsz1.out;omega) (runeV (low c)) rfl rfl (by rw[runeVs_len];have:=hol.out;omega) (by decide) ?_;intro v2 w2 hO2 hg2 hb2 hl2);have hg3:W1.grownBy w2 u3.ownBlock:=hg2;have hOo:=ho1.out.off (Nat.lt_succ_self w.heap.size);have hit2:Hid (w2.heap[w.heap.size]?=some (.stringIter s (k+1))):=(hg3.block _ hsz1.out (by rcases hOo with h|h;rw[h];simp;exact fun e=>h e.symm)).trans hit1.out;have hb3:Hid (Below w.heap.size w w2):=hb1.out.grown hg3 (by have:=hsz1.out;omega) (fun j hj=>by have:=World.ownsRow.lt ho1.out j hj;omega);go_roundg (gk - 1)
   case measure=>have:=hk.out;omega
   case rel=>exact⟨k+1,out++[low c],by have:=hk.out;unfold Hid;omega,by omega,by unfold Hid;rw[List.append_assoc];exact HQ.out,by have:=hol.out;unfold Hid;simp;omega,by unfold Hid;simpa [runeVs]using hO2,hit2,hb3⟩
  have hu':(c.toNat:Int) < 65\/90 < (c.toNat:Int):=by omega
  have hlo:=zH (low_same c hu');have n1:((c.toNat:Int) == 383)=false:=zF (by omega);have n2:((c.toNat:Int) == 8490)=false:=zF (by omega);clear hu h128;rw[hlo.out]at HQ;rcases hu' with u1|u1;all_goals
   go_wp2_with (at_builtin;refine wp_app1 Tryz.underlying153 info21 rfl rfl (.tmp 26) (.tmp 28) rfl rfl ho1.out (by have:=hsz1.out;omega) (runeV c) rfl rfl (by rw[runeVs_len];have:=hol.out;omega) (by decide) ?_;intro v2 w2 hO2 hg2 hb2 hl2);have hg3:W1.grownBy w2 u3.ownBlock:=hg2;have hOo:=ho1.out.off (Nat.lt_succ_self w.heap.size);have hit2:Hid (w2.heap[w.heap.size]?=some (.stringIter s (k+1))):=(hg3.block _ hsz1.out (by rcases hOo with h|h;rw[h];simp;exact fun e=>h e.symm)).trans hit1.out;have hb3:Hid (Below w.heap.size w w2):=hb1.out.grown hg3 (by have:=hsz1.out;omega) (fun j hj=>by have:=World.ownsRow.lt ho1.out j hj;omega);go_roundg (gk - 1)
   case measure=>have:=hk.out;omega
   case rel=>exact⟨k+1,out++[c],by have:=hk.out;unfold Hid;omega,by omega,by unfold Hid;rw[List.append_assoc];exact HQ.out,by have:=hol.out;unfold Hid;simp;omega,by unfold Hid;simpa [runeVs]using hO2,hit2,hb3⟩
 have hq2:=hq.out;rw[drop_end s k hlt,show lower []=[]from rfl,List.append_nil]at hq2;have hnx:=fun ty=>Lib.run_next_end_at (P:=Tryz.prog) wr w.heap.size s k ty hit.out hlt
 have HQ:=zH hq2;clear hq hq2;go_wp2;go_ret
 exact⟨_,rfl,by rw[<-HQ.out];exact ho.out.mono (Nat.le_succ _),hb.out⟩
theorem Own.ptr{w:World}{base:Nat}{e:TypeId}{A:Option Addr}{n c:Nat}{xs:List Value}(h:Own w base e (.slice A n c) xs)(hp:0 < xs.length):∃g,A=some ⟨g,0,none⟩:=by
 obtain⟨A',c',he,_,hA⟩:=h.slice;obtain⟨g,hg,_⟩:=hA hp;injection he with h1 _ _
 exact⟨g,h1.trans hg⟩
theorem runeV_ne{x y:UInt8}:((x.toNat:Int) != (y.toNat:Int))=!decide (x=y):=by
 by_cases h:x=y
 ·subst h;simp
 rw[decide_eq_false h];exact zN fun he=>h (UInt8.toNat_inj.1 (by omega))
theorem c63(s t:ByteArray)(w:World)(hs:s.size<=1073741824)(ht:t.size<=1073741824)(hp:plainL s.data.toList)(hq:plainL t.data.toList) :
  Calls Tryz.prog 63 #[.string s,.string t] w fun e w'=>e=.returned (.bool (decide (lower s.data.toList=lower t.data.toList)))/\Below w.heap.size w w':=by
 have HP:=zH hp;have HQ:=zH hq;obtain⟨r,hr⟩:∃r,Hid (decide (lower s.data.toList=lower t.data.toList)=r):=⟨_,rfl⟩;rw[hr.out];obtain⟨a,ha⟩:∃a,Hid (lower s.data.toList=a):=⟨_,rfl⟩;obtain⟨b,hb⟩:∃b,Hid (lower t.data.toList=b):=⟨_,rfl⟩;have hr2:Hid (decide (a=b)=r):=by unfold Hid;rw[<-ha.out,<-hb.out];exact hr.out
 have hal:a.length<=1073741824:=by rw[<-ha.out];simpa [lower,size_L]using hs
 have hbl:b.length<=1073741824:=by rw[<-hb.out];simpa [lower,size_L]using ht
 clear hp hq hr;go_enter Tryz.func63,Tryz.ntmps63;go_upto_region 3 with(first
  |(go_at_call_of 96 (Value.string s);refine(c96 s _ hs HP.out).mono ?_;rintro e w1⟨v1,rfl,hO1,hb1⟩;rw[ha.out]at hO1)
  |(go_at_call_of 96 (Value.string t);refine(c96 t _ ht HQ.out).mono ?_;rintro e w2⟨v2,rfl,hO2,hb2⟩;rw[hb.out]at hO2))
 have hO1':=zH (hO1.below hb2);have hO2':=zH hO2;have hBB:=zH (bthen hb1 hb2);obtain⟨A1,k1,rfl,hk1,_⟩:=hO1.slice;obtain⟨A2,k2,rfl,hk2,_⟩:=hO2.slice;rw[runeVs_len]at hk1 hk2 hO1' hO2' ⊢;rw[runeVs_len];clear hO1 hO2 hb1 hb2;by_cases hll:a.length=b.length
 ·have n1:((a.length:Int) != (b.length:Int))=false:=zQ (by omega)
  have HLL:=zH hll;clear hll;go_wp2;go_loopg [22] a.length (fun g j w'=>∃k:Nat,Hid (k+g=a.length)/\k<=a.length/\j=.int .i64 (k:Int)/\Hid (decide (a.drop k=b.drop k)=r)/\Hid (Own w' w.heap.size 21 (.slice A1 a.length k1) (runeVs a))/\Hid (Own w' w1.heap.size 21 (.slice A2 b.length k2) (runeVs b))/\Hid (Below w.heap.size w w'))
  case atStart=>exact⟨0,Nat.zero_add _,Nat.zero_le _,rfl,hr2,hO1',hO2',hBB⟩
  clear hO1' hO2' hBB hr2;obtain⟨k,hk,hks,rfl,hr2,hO1',hO2',hBB⟩:=hrel;by_cases hlt:k < a.length
  ·have hltb:k < b.length:=by have:=HLL.out;omega
   obtain⟨x,hx⟩:∃x,Hid (a[k]=x):=⟨a[k],zH rfl⟩;obtain⟨y,hy⟩:∃y,Hid (b[k]=y):=⟨b[k],zH rfl⟩;have hxa:=zG hlt;have hyb:=zG hltb;rw[hx.out]at hxa;rw[hy.out]at hyb;obtain⟨g1,rfl⟩:=hO1'.out.ptr (by rw[runeVs_len];omega);obtain⟨g2,rfl⟩:=hO2'.out.ptr (by rw[runeVs_len];omega);have q1:=hO1'.out.cellAt rfl (runeVs_at hxa);have q2:=hO2'.out.cellAt rfl (runeVs_at hyb);unfold runeV at q1 q2;have hd:=hr2.out;rw[List.drop_eq_getElem_cons hlt,List.drop_eq_getElem_cons hltb,hx.out,hy.out]at hd;clear hxa hyb hr2;by_cases hxy:x=y
   ·have nn:((x.toNat:Int) != (y.toNat:Int))=false:=by rw[runeV_ne,decide_eq_true hxy];rfl
    have HR:Hid (decide (a.drop (k+1)=b.drop (k+1))=r):=by
     unfold Hid;rw[<-hd];simp[hxy]
    clear hd hxy;go_upto_region 8 with fail
    have z0:(0:Int)<=(k:Int):=by omega
    have hltI:(k:Int) < (a.length:Int):=by omega
    have hltbI:(k:Int) < (b.length:Int):=by omega
    go_quiet (fail)
    go_wp2;go_roundg (gk - 1)
    case measure=>have:=hk.out;omega
    case rel=>exact⟨k+1,by have:=hk.out;unfold Hid;omega,by omega,by go_num,HR,hO1',hO2',below_drewN hBB.out _⟩
   have nn:((x.toNat:Int) != (y.toNat:Int))=true:=by rw[runeV_ne,decide_eq_false hxy];rfl
   have HR:Hid (false=r):=by
    unfold Hid;rw[<-hd];simp[hxy]
   clear hd hxy;go_upto_region 8 with fail
   have z0:(0:Int)<=(k:Int):=by omega
   have hltI:(k:Int) < (a.length:Int):=by omega
   have hltbI:(k:Int) < (b.length:Int):=by omega
   go_quiet (fail)
   go_wp2;go_ret
   exact⟨ret_eq (bool_eq HR.out),below_drewN hBB.out _⟩
  have hd:=hr2.out;rw[List.drop_eq_nil_of_le (by omega),List.drop_eq_nil_of_le (by have:=HLL.out;omega)]at hd;have HR:Hid (true=r):=by unfold Hid;rw[<-hd];rfl
  clear hd hr2;go_wp2;go_ret
  exact⟨ret_eq (bool_eq HR.out),hBB.out⟩
 have n1:((a.length:Int) != (b.length:Int))=true:=zN (by omega);have HR:Hid (false=r):=by
  unfold Hid;rw[<-hr2.out];exact(decide_eq_false fun h=>hll (by rw[h])).symm
 clear hll hr2;go_wp2;go_ret
 exact⟨ret_eq (bool_eq HR.out),hBB.out⟩
theorem c79(v0 v1:Value)(fields names:List (List UInt8))(w:World)(hv0:RdS w v0 fields)(hv1:RdS w v1 names)(hfl:fields.length<=1073741824)(hnl:names.length<=1073741824)
  (hf:allLe 1073741824 fields)(hn:allLe 1073741824 names) :
  Calls Tryz.prog 79 #[v0,v1] w fun e w'=>∃v,e=.returned v/\Own w' w.heap.size 9 v ((pickedN fields [] names).map strV)/\Below w.heap.size w w':=by
 obtain⟨A0,c0,rfl,hc0,_,hA0⟩:=hv0;obtain⟨A1,c1,rfl,hc1,_,hA1⟩:=hv1;have HA0:=zH hA0;have HA1:=zH hA1;clear hA0 hA1;have hmk:=make_bools fields.length (by omega);obtain⟨R,hR⟩:∃R,Hid (pickedN fields [] names=R):=⟨_,rfl⟩;rw[hR.out];have hus0:=zH (own_bools fields.length (by omega) w w.heap.size (zR _));have hu0:Hid (usedOk fields [] (List.replicate fields.length false)):=⟨by simp,fun k f hf=>by
  have hk:=(List.getElem?_eq_some_iff.1 hf).1;rw[List.getElem?_replicate,if_pos hk];simp[cntK]⟩
 go_enter Tryz.func79,Tryz.ntmps79;go_wp2;go_loopg [6,7] names.length (fun g v j w'=>∃i:Nat,∃out:List (List UInt8),∃us:List Bool,j=.int .i64 i/\i<=names.length/\Hid (i+g=names.length)/\Hid (out++pickedN fields (names.take i) (names.drop i)=R)/\Hid (out.length<=i)/\Hid (usedOk fields (names.take i) us)/\Hid (Own w' w.heap.size 4 (.slice (some ⟨w.heap.size,0,none⟩) fields.length fields.length) (us.map Value.bool))/\Hid (Own w' w.heap.size 9 v (out.map strV))/\Hid (Below w.heap.size w w'))
 case atStart=>exact⟨0,[],_,rfl,Nat.zero_le _,Nat.zero_add _,hR.out,zR _,hu0.out,hus0.out,Own.nil _ _ _,(zB _ _).alloc (zR _) _⟩
 obtain⟨i,out,us,rfl,hi,hk,hp,hol,hus,huo,ho,hb⟩:=hrel;by_cases hlt:i < names.length
 ·obtain⟨g1,off1,rfl,hcn⟩:=HA1.out (by omega)
  have hcn0:=hcn i names[i] (zG hlt);have hcni:=zH ((hb.out.cell (p:=⟨g1,off1+i,none⟩) (cell_lt hcn0)).trans hcn0);clear hcn hcn0;have hnm:=hn names[i] (List.getElem_mem hlt);obtain⟨nm,hnmE⟩:∃nm:List UInt8,Hid (names[i]=nm):=⟨names[i],zH rfl⟩;have hp1:=hp.out;rw[List.drop_eq_getElem_cons hlt,pickedN,hnmE.out]at hp1;have htk:Hid (names.take (i+1)=names.take i++[nm]):=by unfold Hid;rw[<-hnmE.out,List.take_succ_eq_append_getElem hlt]
  rw[hnmE.out]at hcni hnm;obtain⟨T,hT⟩:∃T,Hid (nthM (lower nm) (cntK (lower nm) (names.take i)) fields.reverse=T):=⟨_,rfl⟩;rw[hT.out]at hp1;have H1:=zH hp1;clear hp hp1;obtain⟨c,hc⟩:∃c,Hid (cntK (lower nm) (names.take i)=c):=⟨_,rfl⟩;rw[hc.out]at hT;have hnmB:(B nm).size<=1073741824:=hnm;clear hnm;go_wp2;go_loopg [8,9] fields.length (fun g one j w'=>∃k:Nat,Hid (k=g)/\one=.string ⟨#[]⟩/\j=.int .i64 ((k:Int) - 1)/\k<=fields.length/\Hid (cntF (lower nm) (fields.drop k)<=c/\nthM (lower nm) (c - cntF (lower nm) (fields.drop k)) (fields.take k).reverse=T)/\Hid (Own w' w.heap.size 4 (.slice (some ⟨w.heap.size,0,none⟩) fields.length fields.length) (us.map Value.bool))/\Hid (Own w' w.heap.size 9 u6 (out.map strV))/\Hid (Below w.heap.size w w')/\Hid (w'.cell? ⟨g1,off1+i,none⟩=some (.string (B nm))))
  case atStart=>exact⟨fields.length,rfl,rfl,rfl,zR _,⟨by simp[cntF],by rw[List.take_length,List.drop_length];exact hT.out⟩,huo,ho,hb,hcni⟩
  clear hcni huo ho hb;obtain⟨k,hkg,rfl,rfl,hkf,hq,huo,ho,hb,hcni⟩:=hrel;by_cases hk0:0 < k
  ·obtain⟨k1,rfl⟩:∃k1,k=k1+1:=⟨k - 1,by omega⟩
   have hk1:k1 < fields.length:=by omega
   obtain⟨g0,off0,rfl,hcf⟩:=HA0.out (by omega);have hcf0:=hcf k1 fields[k1] (zG hk1);have hcfi:=(hb.out.cell (p:=⟨g0,off0+k1,none⟩) (cell_lt hcf0)).trans hcf0;clear hcf hcf0;have hfm:=hf fields[k1] (List.getElem_mem hk1);have hfd:=zG hk1;obtain⟨fd,hfdE⟩:∃fd:List UInt8,Hid (fields[k1]=fd):=⟨fields[k1],zH rfl⟩;rw[hfdE.out]at hfd hcfi hfm;have husk:=hus.out.2 k1 fd hfd;have hcu:=huo.out.cellAt rfl (j:=k1) (u:=.bool (decide (cntF (keyOf fd) (fields.drop (k1+1)) < cntK (keyOf fd) (names.take i)))) (by rw[List.getElem?_map,husk];rfl);have htr:(fields.take (k1+1)).reverse=fd::(fields.take k1).reverse:=by
    rw[List.take_succ_eq_append_getElem hk1,List.reverse_append,hfdE.out];rfl
   have hcd:=cntF_drop (lower nm) fields k1 fd hfd;obtain⟨q1,q2⟩:=hq.out;rw[htr,nthM.eq_2]at q2;have hfB:(B fd).size<=1073741824:=hfm;have hct:(B (trim (cutA 58 fd))).size<=1073741824:=by
    have h1:=trim_le (cutA 58 fd);have h2:=cutA_le 58 fd;rw[size_B]at hfB ⊢;omega
   have e1:((k1:Int)+1 - 1)=(k1:Int):=by omega
   have hcniC:=hcni.out;clear hq hfm htr;by_cases hkey:keyOf fd=lower nm
   ·rw[if_pos hkey]at q2 hcd
    rw[hkey]at hcu husk;rw[hc.out]at hcu husk;by_cases hus1:cntF (lower nm) (fields.drop (k1+1)) < c
    ·rw[decide_eq_true hus1]at hcu
     rw[if_neg (by omega)]at q2;have HQ:=zH q2;clear q2;go_wp2;go_quiet (fail)
     go_wp2;go_roundg k1
     case measure=>have:=hkg.out;omega
     case rel=>exact⟨k1,zH rfl,rfl,rfl,by omega,⟨by omega,by rw[hcd,Nat.sub_add_eq];exact HQ.out⟩,huo.out,ho.out,below_drewN hb.out _,hcniC⟩
    rw[decide_eq_false hus1]at hcu;rw[if_pos (by omega)]at q2;have HQ:=zH q2;clear q2;go_wp2;have hcmp:=beq_str (B (lower (trim (cutA 58 fd)))) (B (lower nm));rw[L_B,L_B,(zE hkey:(lower (trim (cutA 58 fd)) == lower nm)=true)]at hcmp;have kc1:=cell_regrown hcu;have kc2:=cell_regrown hcfi;have kc3:=cell_regrown hcniC;refine wp_region_quiet_below (by kernel_rfl) (by kernel_rfl) ?_;repeat(quiet_step (first
     |(go_at_call 26;exact Calls.regrown_of (c26p _ _ (by omega)))
     |(go_at_call 24;exact Calls.regrown_of (c24p _ _ (by first|omega|exact zT hct (by decide))))))
    refine wpQuiet_nil ?_;intro _ hw';obtain⟨⟨dq,osq⟩,hw''⟩:=hw';subst hw'';have hB1:=below_regrown wr dq osq;have kc1':=kc1 dq osq;have kc2':=kc2 dq osq;obtain⟨W1,hW1⟩:∃W,W=Go.Sort.grow (redrawn wr dq) osq:=⟨_,rfl⟩;rw[<-hW1]at hB1 kc1' kc2' ⊢;clear hW1 kc1 kc2 kc3;have huo1:=huo.out.below hB1;have ho1:=ho.out.below hB1;have hb1:=bthen hb.out hB1;obtain⟨hfr1,huW,hst⟩:=huo1.storeAt k1 (.bool true);rw[<-List.map_set]at huW;have hoW:=Own.grown ho1 hst (Own.ne_ ho1 huo1 (by decide));have hbW:=hb1.grown hst hb1.size (fun k hk=>by injection hk with hk;omega);obtain rfl:=HQ.out;go_wp2_with (at_builtin;go_loud (refine wp_app1q Tryz.underlying34 info9 rfl rfl rfl rfl hoW hbW.size rfl ?_ ?_ (by decide) ?_;(first|rfl|(rw[World.size_setCell];rfl)|(show Value.slice (some ⟨_,0,none⟩) 1 1=_;congr 3;simp[Go.Sort.grow,redrawn]));(simp;have:=hol.out;omega));intro v2 w2 ho2 hg2 hb3 hl2);go_roundg (names.length - i - 1)
    case measure=>have:=hk.out;omega
    case rel =>
     have hk0':=hk.out;have hol0:=hol.out;exact⟨i+1,out++[fd],_,by simp,by omega,(by unfold Hid;omega),(by unfold Hid;rw[htk.out,<-H1.out,List.append_assoc];rfl),(by unfold Hid;simp;omega),(by unfold Hid;rw[htk.out];exact usedOk_found hus.out hfd hkey (by rw[hc.out];omega)),huW.grown hg2 (Own.ne_ huW hoW (by decide)),(by rw[List.map_append];exact ho2),hb3 _ hbW⟩
   rw[if_neg hkey]at q2 hcd;cases hud:decide (cntF (keyOf fd) (fields.drop (k1+1)) < cntK (keyOf fd) (names.take i))with
   |true =>
    rw[hud]at hcu;have HQ:=zH q2;clear q2;go_wp2;go_quiet (fail)
    go_wp2;go_roundg k1
    case measure=>have:=hkg.out;omega
    case rel=>exact⟨k1,zH rfl,rfl,rfl,by omega,⟨by omega,by rw[hcd,Nat.add_zero];exact HQ.out⟩,huo.out,ho.out,below_drewN hb.out _,hcniC⟩
   |false =>
    rw[hud]at hcu;have HQ:=zH q2;clear q2;go_wp2;have hcmp:=beq_str (B (lower (trim (cutA 58 fd)))) (B (lower nm));rw[L_B,L_B,(zF hkey:(lower (trim (cutA 58 fd)) == lower nm)=false)]at hcmp;have kc1:=cell_regrown hcu;have kc2:=cell_regrown hcfi;have kc3:=cell_regrown hcniC;refine wp_region_quiet_below (by kernel_rfl) (by kernel_rfl) ?_;repeat(quiet_step (first
     |(go_at_call 26;exact Calls.regrown_of (c26p _ _ (by omega)))
     |(go_at_call 24;exact Calls.regrown_of (c24p _ _ (by first|omega|exact zT hct (by decide))))))
    refine wpQuiet_nil ?_;intro _ hw';obtain⟨⟨dq,osq⟩,hw''⟩:=hw';subst hw'';go_wp2;have hB1:=below_regrown wr dq osq;have huo1:=huo.out.below hB1;have ho1:=ho.out.below hB1;have hb1:=bthen hb.out hB1;go_roundg k1
    case measure=>have:=hkg.out;omega
    case rel=>exact⟨k1,zH rfl,rfl,rfl,by omega,⟨by omega,by rw[hcd,Nat.add_zero];exact HQ.out⟩,huo1,ho1,hb1,kc3 _ _⟩
  obtain rfl:k=0:=by omega
  have q:=hq.out.2;rw[List.take_zero,List.reverse_nil,nthM]at q;obtain rfl:=q;have hoW:=ho.out;have huW:=huo.out;have hbW:=hb.out;have hq1:=hq.out.1;rw[List.drop_zero]at hq1;go_wp2_with (at_builtin;go_loud (refine wp_app1q Tryz.underlying34 info9 rfl rfl rfl rfl hoW hbW.size rfl ?_ ?_ (by decide) ?_;(first|rfl|(rw[World.size_setCell];rfl)|(show Value.slice (some ⟨_,0,none⟩) 1 1=_;congr 3;simp[Go.Sort.grow,redrawn]));(simp;have:=hol.out;omega));intro v2 w2 ho2 hg2 hb3 hl2);go_roundg (names.length - i - 1)
  case measure=>have:=hk.out;omega
  case rel =>
   have hk0':=hk.out;have hol0:=hol.out;exact⟨i+1,out++[[]],_,by simp,by omega,(by unfold Hid;omega),(by unfold Hid;rw[htk.out,<-H1.out,List.append_assoc];rfl),(by unfold Hid;simp;omega),(by unfold Hid;rw[htk.out];exact usedOk_none hus.out (by rw[hc.out];exact hq1)),huW.grown hg2 (Own.ne_ huW hoW (by decide)),(by rw[List.map_append];exact ho2),hb3 _ hbW⟩
 obtain rfl:i=names.length:=by omega
 have hpR:=hp.out;rw[List.drop_length,pickedN,List.append_nil]at hpR;subst hpR;go_wp2;go_ret
 exact⟨_,rfl,ho.out,hb.out⟩
structure Rec where
 nm:List UInt8
 tx:List (List UInt8)
 fl:Bool
 tp:Bool
def RdR(w:World)(v:Value)(xs:List Rec):Prop :=
 ∃A c,v=.slice A xs.length c/\xs.length<=c/\xs.length<=1152921504606846976/\(0 < xs.length->∃g off,A=some ⟨g,off,none⟩/\∀(i:Nat) (x:Rec),xs[i]?=some x->w.cell? ⟨g,off+i*4,none⟩=some (.string (B x.nm))/\(∃tv,w.cell? ⟨g,off+i*4+1,none⟩=some tv/\RdS w tv x.tx)/\w.cell? ⟨g,off+i*4+2,none⟩=some (.bool x.fl)/\w.cell? ⟨g,off+i*4+3,none⟩=some (.bool x.tp))
theorem RdR.below{w w':World}{v:Value}{xs:List Rec}(h:RdR w v xs)(hb:Below w.heap.size w w'):RdR w' v xs:=by
 obtain⟨A,c,h1,h2,h3,h4⟩:=h;have hk:∀(a:Addr) (u:Value),w.cell? a=some u->w'.cell? a=some u:=fun a u hu=>(hb.cell (cell_lt hu)).trans hu
 refine⟨A,c,h1,h2,h3,fun hp=>?_⟩;obtain⟨g,off,h5,h6⟩:=h4 hp;refine⟨g,off,h5,fun i x hx=>?_⟩;obtain⟨q1,⟨tv,q2,q3⟩,q4,q5⟩:=h6 i x hx;exact⟨hk _ _ q1,⟨tv,hk _ _ q2,q3.below hb⟩,hk _ _ q4,hk _ _ q5⟩
def askT(n:List UInt8):List Rec->List UInt8
 |[]=>[]
 |r::l=>if r.nm=n then(if r.tp=true then[]else if r.fl=true\/r.tx.length≠1 then[]else r.tx.headD [])else askT n l
def askC(n:List UInt8):List Rec->Int
 |[]=>2
 |r::l=>if r.nm=n then(if r.tp=true then 3 else if r.fl=true\/r.tx.length≠1 then 2 else 0)else askC n l
theorem c73(v:Value)(xs:List Rec)(s:ByteArray)(w:World)(hv:RdR w v xs) :
  Calls Tryz.prog 73 #[v,.string s] w fun e w'=>e=.returned (.tuple #[.string (B (askT s.data.toList xs)),.int .i64 (askC s.data.toList xs)])/\Below w.heap.size w w':=by
 obtain⟨A,c,rfl,hc,hlen,hA⟩:=hv;obtain⟨r,r2,hr⟩:∃r r2,Hid (askT s.data.toList xs=r/\askC s.data.toList xs=r2):=⟨_,_,rfl,rfl⟩;rw[hr.out.1,hr.out.2];have HA:=zH hA;clear hA;go_enter Tryz.func73,Tryz.ntmps73;go_wp2;go_loopg [6] xs.length (fun g i w'=>∃k:Nat,Hid (k+g=xs.length)/\i=.int .i64 k/\Hid (askT s.data.toList (xs.drop k)=r/\askC s.data.toList (xs.drop k)=r2)/\Hid (Below w.heap.size w w'))
 case atStart=>exact⟨0,Nat.zero_add _,rfl,hr,zB _ _⟩
 obtain⟨k,hk,rfl,hp,hb⟩:=hrel;have hk':k<=xs.length:=by have:=hk.out;omega
 by_cases hlt:k < xs.length
 ·obtain⟨g,off,rfl,hcell⟩:=HA.out (by omega)
  obtain⟨hc1,⟨tv,hc2,htv⟩,hc3,hc4⟩:=hcell k xs[k] (zG hlt);clear hcell;obtain⟨rec,hrec⟩:∃rec:Rec,Hid (xs[k]=rec):=⟨xs[k],zH rfl⟩;have hpD:=hp.out;rw[List.drop_eq_getElem_cons hlt,hrec.out]at hpD;rw[hrec.out]at hc1 hc3 hc4 htv;have hbb:=hb.out;have hgl:=cell_lt hc1;have e1:=(hbb.cell (p:=⟨g,off+k*4,none⟩) (cell_lt hc1)).trans hc1;have e2:=(hbb.cell (p:=⟨g,off+k*4+1,none⟩) (cell_lt hc2)).trans hc2;have e3:=(hbb.cell (p:=⟨g,off+k*4+2,none⟩) (cell_lt hc3)).trans hc3;have e4:=(hbb.cell (p:=⟨g,off+k*4+3,none⟩) (cell_lt hc4)).trans hc4;obtain⟨A2,c2,rfl,hcc,hll,htx⟩:=htv;have HT:=zH htx;clear htx hc1 hc2 hc3 hc4 hp;have hbq:=beq_str (B rec.nm) s;rw[L_B]at hbq;have hbn:((B rec.nm).toList != s.toList)=!((B rec.nm).toList == s.toList):=rfl;have hbS:=hbb.size;clear hbb;by_cases h1:rec.nm=s.data.toList
  ·have hq:((B rec.nm).toList == s.toList)=true:=by rw[hbq];simpa using h1
   rw[hq]at hbn;cases htp:rec.tp with
   |true =>
    rw[htp]at e4;obtain⟨q1,q2⟩:=hpD;simp only[askT,askC,if_pos h1,if_pos htp]at q1 q2;have Hp:=zH (And.intro q1 q2);clear q1 q2 hbq h1;go_wp2;go_ret2
    exact⟨tup2 (str_eq Hp.out.1) (int_eq Hp.out.2),(hb.out.alloc hbS _)⟩
   |false =>
    rw[htp]at e4;obtain⟨q1,q2⟩:=hpD;have htp':¬rec.tp=true:=by rw[htp];decide
    cases hfl:rec.fl with
    |true =>
     rw[hfl]at e3;simp only[askT,askC,if_pos h1,if_neg htp',if_pos (Or.inl hfl:rec.fl=true\/rec.tx.length≠1)]at q1 q2;have Hp:=zH (And.intro q1 q2);clear q1 q2 hbq h1;go_wp2;go_ret2
     exact⟨tup2 (str_eq Hp.out.1) (int_eq Hp.out.2),(hb.out.alloc hbS _)⟩
    |false =>
     rw[hfl]at e3;by_cases htx:rec.tx.length=1
     ·obtain⟨t0,ht0⟩:∃t0,rec.tx=[t0]:=List.length_eq_one_iff.1 htx
      rw[ht0]at HT;obtain⟨g2,o2,rfl,hct⟩:=HT.out (by simp);have hc0:=hct 0 t0 rfl;rw[Nat.add_zero]at hc0;have e5:=(hb.out.cell (cell_lt hc0)).trans hc0;have hg2l:g2 < wr.heap.size:=cell_lt e5;have e6:∀o,(wr.alloc o).cell? ⟨g2,o2,none⟩=some (.string (B t0)):=fun o=>(((zB wr.heap.size wr).alloc (zR _) o).cell hg2l).trans e5
      clear hct hc0;simp only[askT,askC,if_pos h1,if_neg htp',if_neg (show ¬(rec.fl=true\/rec.tx.length≠1)by rw[hfl,htx];decide)]at q1 q2;simp only[ht0,List.headD_cons]at q1;have Hp:=zH (And.intro q1 q2);rw[htx]at e2;clear q1 q2 hbq h1;go_wp2;go_ret2
      exact⟨tup2 (str_eq Hp.out.1) (int_eq Hp.out.2),(hb.out.alloc hbS _)⟩
     simp only[askT,askC,if_pos h1,if_neg htp',if_pos (Or.inr htx:rec.fl=true\/rec.tx.length≠1)]at q1 q2;have Hp:=zH (And.intro q1 q2);have hne:((rec.tx.length:Int) != 1)=true:=zN (by omega);clear q1 q2 hbq h1;go_wp2;go_ret2
     exact⟨tup2 (str_eq Hp.out.1) (int_eq Hp.out.2),(hb.out.alloc hbS _)⟩
  have hq:((B rec.nm).toList == s.toList)=false:=by rw[hbq];simpa using h1
  rw[hq]at hbn;obtain⟨q1,q2⟩:=hpD;simp only[askT,askC,if_neg h1]at q1 q2;have Hp:=zH (And.intro q1 q2);clear q1 q2 hbq h1;go_wp2;go_roundg (gk - 1)
  case measure=>have:=hk.out;omega
  case rel=>exact⟨k+1,by have:=hk.out;unfold Hid;omega,by go_num,Hp,(hb.out.alloc hbS _)⟩
 rw[List.drop_eq_nil_of_le (by omega)]at hp;go_wp2;go_ret2
 exact⟨tup2 (str_eq hp.out.1) (int_eq hp.out.2),hb.out⟩
end Go.Proofs.YtnkihlpmmfeioaaGreatDoor
