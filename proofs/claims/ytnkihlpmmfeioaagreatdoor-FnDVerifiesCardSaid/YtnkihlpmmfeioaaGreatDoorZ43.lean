/- Part of the proof that laws.FnDVerifies answers true: A107,A108,P10,A109 -/
import Derived.Test.YtnkihlpmmfeioaaGreatDoorZ23
set_option linter.unusedVariables false
set_option linter.unusedSimpArgs false
set_option maxRecDepth 1000000
set_option maxHeartbeats 16000000
namespace Go.Proofs.YtnkihlpmmfeioaaGreatDoor
open Go.RowKit
noncomputable def okP(m:Int)(l:List UInt8):Bool:=@decide (plainL l/\(l.length:Int)<=m) (Classical.propDecidable _)
theorem okP_no{m:Int}{l:List UInt8}{k:Nat}{x:UInt8}(hx:l[k]?=some x)(hb:¬plainB x):false=okP m l:=by
 unfold okP;exact(@decide_eq_false _ (Classical.propDecidable _) (fun h=>hb (h.1 x (List.mem_of_getElem? hx)))).symm
theorem okP_yes{m:Int}{l:List UInt8}(h:plainL l):decide ((l.length:Int)<=m)=okP m l:=by
 unfold okP;by_cases h2:(l.length:Int)<=m
 ·rw[decide_eq_true h2];exact(@decide_eq_true _ (Classical.propDecidable _) ⟨h,h2⟩).symm
 rw[decide_eq_false h2];exact(@decide_eq_false _ (Classical.propDecidable _) (fun q=>h2 q.2)).symm
theorem okP_of{m:Int}{l:List UInt8}(h:okP m l=true):plainL l/\(l.length:Int)<=m:=@of_decide_eq_true _ (Classical.propDecidable _) h
noncomputable def shortP(m:Int)(xs:List (List UInt8)):Bool:=xs.all (okP m) && decide ((xs.length:Int)<=200)
theorem shortP_no{m:Int}{xs:List (List UInt8)}{k:Nat}{x:List UInt8}(hx:xs[k]?=some x)(hb:okP m x=false):false=shortP m xs:=by
 have:xs.all (okP m)=false:=by
  cases h:xs.all (okP m)with
  |false=>rfl
  |true=>rw[List.all_eq_true.1 h x (List.mem_of_getElem? hx)]at hb;cases hb
 unfold shortP;rw[this];rfl
theorem shortP_yes{m:Int}{xs:List (List UInt8)}(h:∀x∈xs,okP m x=true):decide ((xs.length:Int)<=200)=shortP m xs:=by
 unfold shortP;rw[List.all_eq_true.2 h];rfl
theorem shortP_of{m:Int}{xs:List (List UInt8)}(h:shortP m xs=true):xs.length<=200/\∀x∈xs,plainL x/\(x.length:Int)<=m:=by
 unfold shortP at h;rw[Bool.and_eq_true,List.all_eq_true,decide_eq_true_eq]at h;exact⟨by omega,fun x hx=>okP_of (h.1 x hx)⟩
theorem c30(s:ByteArray)(m:Int)(w:World)(hs:s.size<=9223372036854775807) :
  Calls Tryz.prog 30 #[.string s,.int .i64 m] w fun e w'=>e=.returned (.bool (okP m s.data.toList))/\w=w':=by
 go_enter Tryz.func30,Tryz.ntmps30;go_wp2;go_loopg [5] s.size (fun g i w'=>∃k:Nat,Hid (k+g=s.size)/\i=.int .i64 k/\Hid (∀c∈s.data.toList.take k,plainB c)/\w=w')
 case atStart=>exact⟨0,Nat.zero_add _,rfl,(fun c hc=>by simp at hc),rfl⟩
 obtain⟨k,hk,rfl,hp,rfl⟩:=hrel;have hk':k<=s.size:=by have:=hk.out;omega
 by_cases hlt:k < s.size
 ·obtain⟨x,hx⟩:∃x:UInt8,Hid (s[k]=x):=⟨s[k],zH rfl⟩
  have hx2:s.data.toList[k]?=some x:=by rw[zG (by rw[size_L];exact hlt)];exact congrArg some hx.out
  have HX:=zH hx2;clear hx2;by_cases h1:(128:Int)<=(s[k].toNat:Int)
  ·have hno:Hid (¬plainB x):=by have hxx:=hx.out;rw[hxx]at h1;exact fun h=>by have:=h.1;omega
   go_wp2;go_ret
   exact⟨ret_eq (bool_eq (okP_no HX.out hno.out)),rfl⟩
  by_cases h2:(s[k].toNat:Int)=11
  ·have h2e:((s[k].toNat:Int) == 11)=true:=zE h2
   have hno:Hid (¬plainB x):=by have hxx:=hx.out;rw[hxx]at h2;exact fun h=>h.2.1 h2
   go_wp2;go_ret
   exact⟨ret_eq (bool_eq (okP_no HX.out hno.out)),rfl⟩
  have h2e:((s[k].toNat:Int) == 11)=false:=zF h2;by_cases h3:(s[k].toNat:Int)=12
  ·have h3e:((s[k].toNat:Int) == 12)=true:=zE h3
   have hno:Hid (¬plainB x):=by have hxx:=hx.out;rw[hxx]at h3;exact fun h=>h.2.2 h3
   go_wp2;go_ret
   exact⟨ret_eq (bool_eq (okP_no HX.out hno.out)),rfl⟩
  have h3e:((s[k].toNat:Int) == 12)=false:=zF h3;have hpx:Hid (plainB x):=by have hxx:=hx.out;rw[hxx]at h1 h2 h3;exact⟨by omega,h2,h3⟩
  have hp2:Hid (∀c∈s.data.toList.take (k+1),plainB c):=by
   have HX':=HX.out;intro c hc;rw[List.take_add_one,HX']at hc;rcases List.mem_append.1 hc with h|h
   ·exact hp.out c h
   simp at h;subst h;exact hpx.out
  clear h2 h3 hpx;go_wp2;go_roundg (gk - 1)
  case measure=>have:=hk.out;omega
  case rel=>exact⟨k+1,by have:=hk.out;unfold Hid;omega,by go_num,hp2,rfl⟩
 obtain rfl:k=s.size:=by omega
 have hp2:Hid (plainL s.data.toList):=fun c hc=>hp.out c (by rw[List.take_of_length_le (by rw[size_L];exact zR _)];exact hc)
 go_wp2;go_ret
 exact⟨ret_eq (bool_eq (okP_yes hp2.out)),rfl⟩
theorem c30p(l:List UInt8)(m:Int)(w:World)(hs:(B l).size<=9223372036854775807) :
  Calls Tryz.prog 30 #[.string (B l),.int .i64 m] w fun e w'=>e=.returned (.bool (okP m l))/\w=w':=c30 (B l) m w hs
theorem c11(m:Int)(v:Value)(xs:List (List UInt8))(w:World)(hv:RdS w v xs)(hs:allLe 9223372036854775807 xs) :
  Calls Tryz.prog 11 #[.int .i64 m,v] w fun e w'=>e=.returned (.bool (shortP m xs))/\w=w':=by
 obtain⟨A,c,rfl,hc,hlen,hA⟩:=hv;have HA:=zH hA;have HS:=zH hs;clear hA hs;go_enter Tryz.func11,Tryz.ntmps11;go_wp2;go_loopg [5] xs.length (fun g i w'=>∃k:Nat,Hid (k+g=xs.length)/\i=.int .i64 k/\Hid (∀x∈xs.take k,okP m x=true)/\w=w')
 case atStart=>exact⟨0,Nat.zero_add _,rfl,(fun c hc=>by simp at hc),rfl⟩
 obtain⟨k,hk,rfl,hp,rfl⟩:=hrel;have hk':k<=xs.length:=by have:=hk.out;omega
 by_cases hlt:k < xs.length
 ·obtain⟨g,off,rfl,hcell⟩:=HA.out (by omega)
  obtain⟨x,hx⟩:∃x:List UInt8,Hid (xs[k]?=some x):=⟨xs[k],zG hlt⟩;have hck:=hcell k x hx.out;clear hcell;have hxl:=HS.out x (List.mem_of_getElem? hx.out);obtain⟨b,hb⟩:∃b,Hid (okP m x=b):=⟨_,rfl⟩;cases b with
  |false =>
   go_wp2_with (go_at_call 30;refine(c30p x m _ (by rw[size_B];exact hxl)).mono ?_;rintro e w1⟨rfl,rfl⟩;rw[hb.out]);go_ret
   exact⟨ret_eq (bool_eq (shortP_no hx.out hb.out)),rfl⟩
  |true =>
   have hp2:Hid (∀y∈xs.take (k+1),okP m y=true):=by
    intro y hy;rw[List.take_add_one,hx.out]at hy;rcases List.mem_append.1 hy with h|h
    ·exact hp.out y h
    simp at h;subst h;exact hb.out
   go_wp2_with (go_at_call 30;refine(c30p x m _ (by rw[size_B];exact hxl)).mono ?_;rintro e w1⟨rfl,rfl⟩;rw[hb.out]);go_roundg (gk - 1)
   case measure=>have:=hk.out;omega
   case rel=>exact⟨k+1,by have:=hk.out;unfold Hid;omega,by go_num,hp2,rfl⟩
 obtain rfl:k=xs.length:=by omega
 rw[List.take_length]at hp;go_wp2;go_ret
 exact⟨ret_eq (bool_eq (shortP_yes hp.out)),rfl⟩
theorem c47(v:Value)(xs:List (List UInt8))(w:World)(hv:RdS w v xs) :
  Calls Tryz.prog 47 #[v] w fun e w'=>∃b,e=.returned (.bool b)/\w=w':=by
 obtain⟨A,c,rfl,hc,hlen,hA⟩:=hv;have HA:=zH hA;clear hA;go_enter Tryz.func47,Tryz.ntmps47;by_cases h0:(2147483647:Int) < (xs.length:Int)
 ·go_wp2
  go_ret
  exact⟨_,rfl,rfl⟩
 go_wp2;go_loopg [10] xs.length (fun g i w'=>∃k:Nat,Hid (k+g=xs.length)/\i=.int .i64 k/\w=w')
 case atStart=>exact⟨0,Nat.zero_add _,rfl,rfl⟩
 obtain⟨k,hk,rfl,rfl⟩:=hrel;have hk':k<=xs.length:=by have:=hk.out;omega
 by_cases hlt:k < xs.length
 ·obtain⟨g,off,rfl,hcell⟩:=HA.out (by omega)
  have hck:=hcell k xs[k] (zG hlt);clear hcell;by_cases h1:(2147483647:Int) < ((B xs[k]).size:Int)
  ·go_wp2
   go_ret
   exact⟨_,rfl,rfl⟩
  go_wp2;go_roundg (gk - 1)
  case measure=>have:=hk.out;omega
  case rel=>exact⟨k+1,by have:=hk.out;unfold Hid;omega,by go_num,rfl⟩
 obtain rfl:k=xs.length:=by omega
 go_wp2;go_ret
 exact⟨_,rfl,rfl⟩
theorem c46(v u:Value)(xs:List (List UInt8))(w:World)(hv:RdS w v xs)(hu:RdS w u xs) :
  Calls Tryz.prog 46 #[v,u] w fun e w'=>e=.returned (.bool true)/\∃n,w'=w.drewN n:=by
 obtain⟨A,c,rfl,hc,hlen,hA⟩:=hv;obtain⟨A2,c2,rfl,hc2,_,hA2⟩:=hu;have HA:=zH hA;have HA2:=zH hA2;clear hA hA2;go_enter Tryz.func46,Tryz.ntmps46;have hne:((xs.length:Int) != (xs.length:Int))=false:=bne_self_eq_false _;go_wp2;go_loopg [5] xs.length (fun g i w'=>∃k:Nat,Hid (k+g=xs.length)/\i=.int .i64 k/\∃n,w'=w.drewN n)
 case atStart=>exact⟨0,Nat.zero_add _,rfl,0,rfl⟩
 obtain⟨k,hk,rfl,n,rfl⟩:=hrel;have hk':k<=xs.length:=by have:=hk.out;omega
 by_cases hlt:k < xs.length
 ·obtain⟨g,off,rfl,hcell⟩:=HA.out (by omega)
  obtain⟨g2,off2,rfl,hcell2⟩:=HA2.out (by omega);have hck:=hcell k xs[k] (zG hlt);have hck2:=hcell2 k xs[k] (zG hlt);clear hcell hcell2;have hb:((B xs[k]).toList == (B xs[k]).toList)=true:=beq_self_eq_true _;have hbn:((B xs[k]).toList != (B xs[k]).toList)=false:=bne_self_eq_false _;go_upto_region 6 with fail
  go_quiet (fail)
  go_wp2;go_roundg (gk - 1)
  case measure=>have:=hk.out;omega
  case rel=>exact⟨k+1,by have:=hk.out;unfold Hid;omega,by go_num,_,rfl⟩
 obtain rfl:k=xs.length:=by omega
 go_wp2;go_ret
 exact⟨rfl,n,rfl⟩
theorem cell_new4(w:World)(a b c d:Value):(w.alloc (.cells #[a,b,c,d] 42)).cell? ⟨w.heap.size,0,none⟩=some a/\(w.alloc (.cells #[a,b,c,d] 42)).cell? ⟨w.heap.size,1,none⟩=some b :=
 ⟨cell_of_row _ _ 0 _ _ _ (heap_alloc_new w _),cell_of_row _ _ 1 _ _ _ (heap_alloc_new w _)⟩
theorem c29(nm:List UInt8)(tv b1 b2:Value)(tx:List (List UInt8))(w:World)(hv:RdS w tv tx) :
  Calls Tryz.prog 29 #[.agg #[.string (B nm),tv,b1,b2]] w fun e w'=>∃b,e=.returned (.bool b)/\Below w.heap.size w w':=by
 obtain⟨WX,hWX⟩:∃W,Hid (w.alloc (.cells #[.string (B nm),tv,b1,b2] 42)=W):=⟨_,rfl⟩;have hb:=zH ((zB w.heap.size w).alloc (zR _) (.cells #[.string (B nm),tv,b1,b2] 42));obtain⟨h0,h1⟩:=cell_new4 w (.string (B nm)) tv b1 b2;rw[hWX.out]at h0 h1 hb;have hv2:=zH (hv.below hb.out);obtain⟨A,c,rfl,_⟩:=hv;go_enter Tryz.func29,Tryz.ntmps29;go_upto_region 1 with fail
 rw[hWX.out];clear hWX;by_cases h:(2147483647:Int) < ((B nm).size:Int)
 ·go_wp2
  go_ret
  exact⟨_,rfl,hb.out⟩
 go_wp2_with (go_at_call 47;refine(c47 _ tx _ hv2.out).mono ?_;rintro e w1⟨b,rfl,rfl⟩);all_goals
  go_ret
  exact⟨_,rfl,hb.out⟩
theorem c10(v:Value)(xs:List Rec)(w:World)(hv:RdR w v xs) :
  Calls Tryz.prog 10 #[v] w fun e w'=>∃b,e=.returned (.bool b)/\Below w.heap.size w w':=by
 obtain⟨A,c,rfl,hc,hlen,hA⟩:=hv;have HA:=zH hA;clear hA;go_enter Tryz.func10,Tryz.ntmps10;by_cases h0:(2147483647:Int) < (xs.length:Int)
 ·go_wp2
  go_ret
  exact⟨_,rfl,zB _ _⟩
 go_wp2;go_loopg [10] xs.length (fun g i w'=>∃k:Nat,Hid (k+g=xs.length)/\i=.int .i64 k/\Hid (Below w.heap.size w w'))
 case atStart=>exact⟨0,Nat.zero_add _,rfl,zB _ _⟩
 obtain⟨k,hk,rfl,hb⟩:=hrel;have hk':k<=xs.length:=by have:=hk.out;omega
 by_cases hlt:k < xs.length
 ·obtain⟨g,off,rfl,hcell⟩:=HA.out (by omega)
  obtain⟨rec,hrec⟩:∃rec:Rec,Hid (xs[k]?=some rec):=⟨xs[k],zG hlt⟩;obtain⟨hc1,⟨tv,hc2,htv⟩,hc3,hc4⟩:=hcell k rec hrec.out;clear hcell;have hbb:=hb.out;have e1:=(hbb.cell (p:=⟨g,off+k*4,none⟩) (cell_lt hc1)).trans hc1;have e2:=(hbb.cell (p:=⟨g,off+k*4+1,none⟩) (cell_lt hc2)).trans hc2;have e3:=(hbb.cell (p:=⟨g,off+k*4+2,none⟩) (cell_lt hc3)).trans hc3;have e4:=(hbb.cell (p:=⟨g,off+k*4+3,none⟩) (cell_lt hc4)).trans hc4;have HT:=zH (htv.keep fun a u hu=>(hbb.cell (cell_lt hu)).trans hu);have HB:=zH hbb;obtain⟨A2,c2,rfl,_⟩:=htv;clear hc1 hc2 hc3 hc4 hbb hb;obtain⟨WX,hWX⟩:∃W,Hid (wr.alloc (.cells #[.string (B rec.nm),.slice A2 rec.tx.length c2,.bool rec.fl,.bool rec.tp] 42)=W):=⟨_,rfl⟩;have hbX:=(zB wr.heap.size wr).alloc (zR _) (.cells #[.string (B rec.nm),.slice A2 rec.tx.length c2,.bool rec.fl,.bool rec.tp] 42);rw[hWX.out]at hbX;have HX:=zH (bthen HB.out hbX);go_wp2_with (go_at_call 29;refine(c29 rec.nm _ _ _ rec.tx _ (HT.out.below ((zB _ _).alloc (zR _) _))).mono ?_;rintro e w1⟨b,rfl,hb1⟩;rw[hWX.out]at hb1;have HB1:=zH (bthen HX.out hb1))
  ·go_ret
   exact⟨_,rfl,HB1.out⟩
  go_roundg (gk - 1)
  case measure=>have:=hk.out;omega
  case rel=>exact⟨k+1,by have:=hk.out;unfold Hid;omega,by go_num,HB1⟩
 obtain rfl:k=xs.length:=by omega
 go_wp2;go_ret
 exact⟨_,rfl,hb.out⟩
theorem c12(v:Value)(xs:List Rec)(now:Int)(w:World)(hv:RdR w v xs)(hs:∀r∈xs,r.nm.length<=9223372036854775807/\allLe 9223372036854775807 r.tx) :
  Calls Tryz.prog 12 #[v,.int .i64 now] w fun e w'=>∃b,e=.returned (.bool b)/\(b=true->(xs.length<=20/\0<=now/\now < 8589934592)/\∀r∈xs,okP 3000 r.nm=true/\shortP 3000 r.tx=true)/\Below w.heap.size w w':=by
 obtain⟨A,c,rfl,hc,hlen,hA⟩:=hv;have HA:=zH hA;have HS:=zH hs;clear hA hs;go_enter Tryz.func12,Tryz.ntmps12;go_wp2;go_loopg [5] xs.length (fun g i w'=>∃k:Nat,Hid (k+g=xs.length)/\i=.int .i64 k/\Hid (∀r∈xs.take k,okP 3000 r.nm=true/\shortP 3000 r.tx=true)/\Hid (Below w.heap.size w w'))
 case atStart=>exact⟨0,Nat.zero_add _,rfl,(fun c hc=>by simp at hc),zB _ _⟩
 obtain⟨k,hk,rfl,hp,hb⟩:=hrel;have hk':k<=xs.length:=by have:=hk.out;omega
 by_cases hlt:k < xs.length
 ·obtain⟨g,off,rfl,hcell⟩:=HA.out (by omega)
  obtain⟨rec,hrec⟩:∃rec:Rec,Hid (xs[k]?=some rec):=⟨xs[k],zG hlt⟩;obtain⟨hc1,⟨tv,hc2,htv⟩,hc3,hc4⟩:=hcell k rec hrec.out;have HC:=zH hcell;clear hcell;have hbb:=hb.out;obtain⟨hs1,hs2⟩:=HS.out rec (List.mem_of_getElem? hrec.out);have HS2:=zH hs2;obtain⟨WX,hWX⟩:∃W,Hid (wr.alloc (.cells #[.string (B rec.nm)] 9)=W):=⟨_,rfl⟩;have hbX:=(zB wr.heap.size wr).alloc (zR _) (.cells #[.string (B rec.nm)] 9);rw[hWX.out]at hbX;have HX:=zH (bthen hbb hbX);have e1:=(hbb.cell (p:=⟨g,off+k*4,none⟩) (cell_lt hc1)).trans hc1;have e2:=(HX.out.cell (p:=⟨g,off+k*4+1,none⟩) (cell_lt hc2)).trans hc2;have HT:=zH (htv.keep fun a u hu=>(HX.out.cell (cell_lt hu)).trans hu);have hn1:RdS WX (.slice (some ⟨wr.heap.size,0,none⟩) 1 1) [rec.nm]:=by
   refine⟨_,1,rfl,zR _,by simp,fun _=>⟨_,0,rfl,fun i y hy=>?_⟩⟩;cases i with
   |zero=>simp at hy;subst hy;rw[<-hWX.out];exact cell_of_row _ _ 0 _ _ _ (heap_alloc_new wr _)
   |succ i=>simp at hy
  have HN:=zH hn1;obtain⟨A2,c2,rfl,_⟩:=htv;have HB:=zH hbb;have hbS:=hbX.size;clear hc1 hc2 hc3 hc4 hbb hb hn1 hs2 hbX;have hl1:Hid (allLe 9223372036854775807 [rec.nm]):=fun x hx=>by simp at hx;subst hx;exact hs1
  obtain⟨b1,hb1⟩:∃b,Hid (shortP 3000 [rec.nm]=b):=⟨_,rfl⟩;obtain⟨b2,hb2⟩:∃b,Hid (shortP 3000 rec.tx=b):=⟨_,rfl⟩;have CALL:True:=trivial;cases b1 with
  |false =>
   go_wp2_with (go_at_call 11;rw[hWX.out];refine(c11 3000 _ [rec.nm] _ HN.out hl1.out).mono ?_;rintro e w1⟨rfl,rfl⟩;rw[hb1.out]);go_ret
   exact⟨false,rfl,fun h=>(by cases h),HX.out⟩
  |true =>
   cases b2 with
   |false =>
    go_wp2_with (first
     |(go_at_call_of 11 (Value.slice (some ⟨wr.heap.size,0,none⟩) 1 1);rw[hWX.out];refine(c11 3000 _ [rec.nm] _ HN.out hl1.out).mono ?_;rintro e w1⟨rfl,rfl⟩;rw[hb1.out])
     |(go_at_call 11;refine(c11 3000 _ rec.tx _ HT.out HS2.out).mono ?_;rintro e w1⟨rfl,rfl⟩;rw[hb2.out]))
    go_ret
    exact⟨false,rfl,fun h=>(by cases h),HX.out⟩
   |true =>
    have hp2:Hid (∀r∈xs.take (k+1),okP 3000 r.nm=true/\shortP 3000 r.tx=true):=by
     intro y hy;rw[List.take_add_one,hrec.out]at hy;rcases List.mem_append.1 hy with h|h
     ·exact hp.out y h
     simp at h;subst h;refine⟨?_,hb2.out⟩;have:=hb1.out;unfold shortP at this
     simpa using this
    go_wp2_with (first
     |(go_at_call_of 11 (Value.slice (some ⟨wr.heap.size,0,none⟩) 1 1);rw[hWX.out];refine(c11 3000 _ [rec.nm] _ HN.out hl1.out).mono ?_;rintro e w1⟨rfl,rfl⟩;rw[hb1.out])
     |(go_at_call 11;refine(c11 3000 _ rec.tx _ HT.out HS2.out).mono ?_;rintro e w1⟨rfl,rfl⟩;rw[hb2.out]))
    have e0:=(HX.out.cell (p:=⟨g,off+k*4,none⟩) (cell_lt (HC.out k rec hrec.out).1)).trans (HC.out k rec hrec.out).1;have hwo:∃wo:World,Hid (wo=WX):=⟨_,rfl⟩;go_loopg [6] k (fun g2 j w'=>∃i:Nat,Hid (i+g2=k)/\j=.int .i64 i/\Hid (Below WX.heap.size WX w'))
    case atStart=>exact⟨0,Nat.zero_add _,rfl,zB _ _⟩
    obtain⟨i,hi,rfl,hbi⟩:=hrel;have hi':i<=k:=by have:=hi.out;omega
    have e3:=(hbi.out.cell (cell_lt e0)).trans e0;by_cases hli:i < k
    ·obtain⟨rec2,hrec2⟩:∃rec:Rec,Hid (xs[i]?=some rec):=⟨xs[i],zG (by omega)⟩
     have hcc:=(HC.out i rec2 hrec2.out).1;have e4:=((bthen HX.out hbi.out).cell (p:=⟨g,off+i*4,none⟩) (cell_lt hcc)).trans hcc;have hWl:=hbi.out.size;clear hcc;by_cases heq:((B rec2.nm).toList == (B rec.nm).toList)=true
     ·go_wp2
      go_quiet (fail)
      go_wp2;go_ret
      exact⟨false,rfl,fun h=>(by cases h),below_drewN (bthen HX.out hbi.out) _⟩
     have heq:=Bool.not_eq_true _ |>.mp heq
     go_wp2;go_quiet (fail)
     go_wp2;go_roundg (k - i - 1)
     case measure=>have:=hi.out;omega
     case rel=>exact⟨i+1,by have:=hi.out;unfold Hid;omega,by go_num,below_drewN hbi.out _⟩
    obtain rfl:i=k:=by omega
    go_wp2;go_roundg (xs.length - i - 1)
    case measure=>have:=hk.out;omega
    case rel=>exact⟨i+1,by have:=hk.out;unfold Hid;omega,by go_num,hp2,bthen HX.out hbi.out⟩
 obtain rfl:k=xs.length:=by omega
 rw[List.take_length]at hp;by_cases q1:(xs.length:Int)<=20
 ·by_cases q2:(0:Int)<=now
  ·go_wp2
   go_ret
   exact⟨_,rfl,fun h=>⟨⟨by omega,q2,by simpa using h⟩,hp.out⟩,hb.out⟩
  go_wp2;go_ret
  exact .inl ⟨rfl,hb.out⟩
 go_wp2;go_ret
 exact .inl ⟨rfl,hb.out⟩
theorem plain_sub{a b:List UInt8}(h:plainL b)(hs:∀c∈a,c∈b):plainL a:=fun c hc=>h c (hs c hc)
theorem plain_chomp{l:List UInt8}(h:plainL l):plainL (chomp l):=by
 unfold chomp;split
 ·split
  ·exact plain_sub h fun c hc=>List.dropLast_subset _ hc
  exact h
 exact h
theorem plain_app{a b:List UInt8}(ha:plainL a)(hb:plainL b):plainL (a++b):=fun c hc=>(List.mem_append.1 hc).elim (ha c) (hb c)
theorem plain_crlf : plainL [13,10]:=by
 intro c hc;rcases List.mem_cons.1 hc with rfl|hc
 ·exact⟨by decide,by decide,by decide⟩
 simp at hc;subst hc;exact⟨by decide,by decide,by decide⟩
theorem plain_addLine{out:List (List UInt8)}{line:List UInt8}(ho:∀x∈out,plainL x)(hl:plainL line):∀x∈addLine out line,plainL x:=by
 intro x hx;unfold addLine at hx;split at hx
 ·rename_i hc
  rcases List.mem_or_eq_of_mem_set hx with h1|h1
  ·exact ho x h1
  rw[h1];refine plain_app (plain_app ?_ hl) plain_crlf;rw[List.getD_eq_getElem?_getD,zG (by omega)];exact ho _ (List.getElem_mem _)
 rcases List.mem_append.1 hx with h1|h1
 ·exact ho x h1
 simp at h1;rw[h1];exact plain_app hl plain_crlf
theorem headN_facts : ∀(f n:Nat) (out:List (List UInt8)) (m:List UInt8) (p:List (List UInt8) × List UInt8),headN f out m=some p->allLe n out ->
  p.1.length<=out.length+m.length/\allLe (n+2*m.length) p.1/\p.2.length<=m.length/\((∀x∈out,plainL x)->plainL m->(∀x∈p.1,plainL x)/\plainL p.2):=by
 intro f;induction f with
 |zero=>intro n out m p h;cases h
 |succ f ih =>
  intro n out m p h hn;rw[headN]at h;split at h
  ·rename_i hc
   have hl:=cut_len 10 m hc;split at h
   ·injection h with h
    subst h;exact⟨Nat.le_add_right _ _,fun x hx=>by have:=hn x hx;omega,by show(cutZ 10 m).length<=_;omega,fun h1 h2=>⟨h1,plain_cutZ h2⟩⟩
   have h1:=chomp_le (cutA 10 m);obtain⟨q1,q2,q3,q4⟩:=ih (n+(chomp (cutA 10 m)).length+2) _ _ _ h (addLine_le hn (zR _));have h2:=addLine_len out (chomp (cutA 10 m));exact⟨by omega,fun x hx=>by have:=q2 x hx;omega,by omega,fun h3 h4=>q4 (plain_addLine h3 (plain_chomp (plain_cutA h4))) (plain_cutZ h4)⟩
  cases h
theorem headOf_facts{m:List UInt8}{p:List (List UInt8) × List UInt8}(h:headOf m=some p):p.1.length<=m.length/\allLe (2*m.length) p.1/\p.2.length<=m.length/\(plainL m->(∀x∈p.1,plainL x)/\plainL p.2):=by
 obtain⟨q1,q2,q3,q4⟩:=headN_facts _ 0 [] m p h (fun x hx=>by cases hx);exact⟨by simpa using q1,by simpa using q2,q3,fun hp=>q4 (fun x hx=>by cases hx) hp⟩
def IsB(e:Ending):Prop:=∃b,e=.returned (.bool b)
theorem IsB.of(b:Bool):IsB (.returned (.bool b)):=⟨b,rfl⟩
theorem c58(s:ByteArray)(w:World)(hs:s.size<=268435456)(hp:plainL s.data.toList) :
  Calls Tryz.prog 58 #[.string s] w fun e w'=>∃v,e=.returned v/\Own w' w.heap.size 9 v ((split 58 (strip s.data.toList)).map strV)/\Below w.heap.size w w':=by
 go_enter Tryz.func58,Tryz.ntmps58;go_wp2_with (go_at_call 89;refine(c89 s _ hs hp).mono ?_;rintro e w1⟨v,rfl,ho,hb⟩);go_ret
 exact⟨_,rfl,ho,hb⟩
theorem c35(s:ByteArray)(w:World)(hs:s.size<=268435456)(hp:plainL s.data.toList) :
  Calls Tryz.prog 35 #[.string s] w fun e w'=>∃v,e=.returned v/\Own w' w.heap.size 9 v ((split 58 (strip s.data.toList)).map strV)/\Below w.heap.size w w':=by
 go_enter Tryz.func35,Tryz.ntmps35;go_wp2_with (go_at_call 58;refine(c58 s _ hs hp).mono ?_;rintro e w1⟨v,rfl,ho,hb⟩);go_ret
 exact⟨_,rfl,ho,hb⟩
theorem c59r(l:List UInt8)(s:ByteArray)(w:World)(hl:l=relaxedL)(hs:s.size<=268435456)(hp:plainL s.data.toList) :
  Calls Tryz.prog 59 #[.string (B l),.string s] w fun e w'=>e=.returned (.tuple #[.string (B (fieldOf relaxedL s.data.toList)),.bool true])/\Below w.heap.size w w':=by
 have hmc:=mCanR;have hP:=zH hp;obtain⟨r,hr⟩:∃r,Hid (fieldOf relaxedL s.data.toList=r):=⟨_,rfl⟩;have h267:∀(p:Value) (W:World),Calls Tryz.prog 267 #[p,.string s] W fun e w'=>e=.returned (.string (B r))/\Below W.heap.size W w':=fun p W=>by rw[<-hr.out];exact c267 p s W hs hP.out
 have H267:=zH h267;have h90:=zH (c90r l w hl);rw[hr.out];clear hp h267 hl;go_enter Tryz.func59,Tryz.ntmps59;go_wp2_with (first
  |(go_at_call 90;refine h90.out.mono ?_;rintro e w1⟨rfl,hw1⟩;have hb1:=(zB w.heap.size w).alloc (zR _) (.cells #[] 228);rw[<-hw1]at hb1;clear hw1)
  |(go_at_call 267;refine(H267.out _ _).mono ?_;rintro e w2⟨rfl,hb2⟩))
 go_ret2
 exact⟨rfl,bthen hb1 hb2⟩
theorem c36r(l:List UInt8)(s:ByteArray)(w:World)(hl:l=relaxedL)(hs:s.size<=268435456)(hp:plainL s.data.toList) :
  Calls Tryz.prog 36 #[.string (B l),.string s] w fun e w'=>e=.returned (.string (B (fieldOf relaxedL s.data.toList)))/\Below w.heap.size w w':=by
 have h59:=zH (c59r l s w hl hs hp);clear hp hl;go_enter Tryz.func36,Tryz.ntmps36;go_wp2_with (go_at_call 59;refine h59.out.mono ?_;rintro e w1⟨rfl,hb1⟩);go_ret
 exact⟨rfl,hb1⟩
theorem awake1 : split 58 (strip [97,58,98])=[[97],[98]]:=by decide
theorem awake2 : fieldOf relaxedL [65,58,32,66,13,10]=[97,58,66,13,10]:=by decide
instance (c:UInt8):Decidable (plainB c):=by unfold plainB;infer_instance
instance (l:List UInt8):Decidable (plainL l):=by unfold plainL;infer_instance
theorem c14(w:World):Calls Tryz.prog 14 #[] w fun e w'=>e=.returned (.bool true)/\Below w.heap.size w w':=by
 have h1:=awake1;have hb:((B [97,58,66,13,10]).toList == [97,58,66,13,10])=true:=by rw[toList_B];rfl
 have h36:Hid (∀W:World,Calls Tryz.prog 36 #[.string ⟨#[114,101,108,97,120,101,100]⟩,.string ⟨#[65,58,32,66,13,10]⟩] W fun e w'=>e=.returned (.string (B [97,58,66,13,10]))/\Below W.heap.size W w'):=fun W=>by
  have:=c36r relaxedL ⟨#[65,58,32,66,13,10]⟩ W rfl (by decide) (by decide);rw[show(⟨#[65,58,32,66,13,10]⟩:ByteArray).data.toList=[65,58,32,66,13,10]from rfl,awake2]at this;exact this
 go_enter Tryz.func14,Tryz.ntmps14;go_wp2_with (first
  |(go_at_call 35;refine(c35 ⟨#[97,58,98]⟩ _ (by decide) (by decide)).mono ?_;rintro e w1⟨v,rfl,ho,hb1⟩;rw[show(⟨#[97,58,98]⟩:ByteArray).data.toList=[97,58,98]from rfl,h1]at ho;obtain⟨A,c,rfl,_,_⟩:=ho.slice)
  |(go_at_call 36;refine(h36.out _).mono ?_;rintro e w2⟨rfl,hb2⟩))
 go_ret
 exact⟨rfl,bthen hb1 hb2⟩
theorem c13(l:List UInt8)(w:World)(hs:l.length<=100000000) :
  Calls Tryz.prog 13 #[.string (B l)] w fun e w'=>IsB e/\Below w.heap.size w w':=by
 obtain⟨H,hH⟩:∃H,Hid (headOf l=H):=⟨_,rfl⟩;obtain⟨fs,hfs⟩:∃fs,Hid (headF H=fs):=⟨_,rfl⟩;have hfl:Hid (allLe 200000000 fs):=by
  unfold Hid;rw[<-hfs.out,<-hH.out];cases h:headOf l with
  |none=>intro x hx;cases hx
  |some p=>exact fun x hx=>zT ((headOf_facts h).2.1 x hx) (by omega)
 have hfn:fs.length<=100000000:=by
  rw[<-hfs.out,<-hH.out];cases h:headOf l with
  |none=>exact Nat.zero_le _
  |some p=>exact zT (headOf_facts h).1 hs
 go_enter Tryz.func13,Tryz.ntmps13;go_wp2_with (go_at_call 25;refine(c25 (B l) _ (by rw[size_B];omega)).mono ?_;rintro e w1⟨v,rfl,ho,hb⟩;rw[L_B,hH.out,hfs.out]at ho;rw[L_B,hH.out];obtain⟨A,c,rfl,hc,hA⟩:=ho.slice;rw[List.length_map]at hc hA;rw[List.length_map]);have HA:=zH hA;have HB1:=zH hb;clear hA ho hb;go_loopg [6] fs.length (fun g i w'=>∃k:Nat,Hid (k+g=fs.length)/\i=.int .i64 k/\Hid (Below w1.heap.size w1 w'))
 case atStart=>exact⟨0,Nat.zero_add _,rfl,zB _ _⟩
 obtain⟨k,hk,rfl,hbk⟩:=hrel;have hk':k<=fs.length:=by have:=hk.out;omega
 by_cases hlt:k < fs.length
 ·obtain⟨G,hgk⟩:∃G,Hid (k+1+G=fs.length/\G < gk):=⟨gk - 1,by have:=hk.out;unfold Hid;omega⟩
  obtain⟨g,rfl,_,hgl,hcell⟩:=HA.out (by omega);obtain⟨f,hf⟩:∃f:List UInt8,Hid (fs[k]?=some f):=⟨fs[k],zG hlt⟩;have hc0:=hcell k (strV f) (by rw[List.getElem?_map,hf.out];rfl);have hck:=(hbk.out.cell (p:=⟨g,k,none⟩) (cell_lt hc0)).trans hc0;have hf1:=hfl.out f (List.mem_of_getElem? hf.out);unfold strV at hck;clear hcell hc0;cases hcf:cutF 58 f with
  |false =>
   have hsp:Hid (split 58 f=[cutA 58 f]):=split_none 58 f hcf;clear hcf;go_wp2_with (go_at_call 31;refine(c31 (B f) 58 _ (by rw[size_B];omega)).mono ?_;rintro e w2⟨v2,rfl,ho2,hb2⟩;rw[L_B,hsp.out]at ho2;obtain⟨A2,c2,rfl,hc2,hA2⟩:=ho2.slice);go_roundg G
   case measure=>exact hgk.out.2
   case rel=>exact⟨k+1,hgk.out.1,by go_num,bthen hbk.out hb2⟩
  |true =>
   have hcl:=cut_len 58 f hcf;obtain⟨a,ha⟩:∃a,Hid (cutA 58 f=a):=⟨_,rfl⟩;have hsp:Hid (split 58 f=a::split 58 (cutZ 58 f)):=by unfold Hid;rw[<-ha.out];exact split_found 58 f hcf
   rw[ha.out]at hcl;obtain⟨t,ht⟩:∃t,Hid (split 58 (cutZ 58 f)=t):=⟨_,rfl⟩;rw[ht.out]at hsp;have htn:0 < t.length:=by rw[<-ht.out];exact List.length_pos_iff.2 (split_ne _ _)
   clear hcf;have hal:a.length+1<=f.length:=by omega
   go_upto_region 7 with(go_at_call 31;refine(c31 (B f) 58 _ (by rw[size_B];omega)).mono ?_;rintro e w2⟨v2,rfl,ho2,hb2⟩;rw[L_B,hsp.out]at ho2;obtain⟨A2,c2,rfl,hc2,hA2⟩:=ho2.slice;rw[List.length_map,List.length_cons]at hc2 hA2;rw[List.length_map,List.length_cons])
   obtain⟨g2,rfl,_,_,hcell2⟩:=hA2 (by omega);have hp0:=hcell2 0 (strV a) (by simp);unfold strV at hp0;have hck2:=(hb2.cell (p:=⟨g,k,none⟩) (cell_lt hck)).trans hck;have hBB:=zH (bthen hbk.out hb2);have i1:(0:Int)<=(k:Int):=Int.natCast_nonneg _;have i2:(k:Int) < (fs.length:Int):=by omega
   have i3:(0:Int) < ((t.length+1:Nat):Int):=by omega
   have i4:IntKind.i64.wrap (((B a).size:Int)+1)=((B a).size:Int)+1:=IntWalk.i64_in _ (by have:=size_B a;omega);have i5:(0:Int)<=((B a).size:Int)+1:=by omega
   have i6:((B a).size:Int)+1<=((B f).size:Int):=by rw[size_B,size_B];omega
   have i7:(((B a).size:Int)+1).toNat=(B a).size+1:=by omega
   clear hcell2 hA2 ho2 hb2;refine wp_quiet_call 10 15 (by kernel_rfl) (by kernel_rfl) rfl ?_;simp only[List.take_succ_cons,List.take_zero,List.drop_succ_cons,List.drop_zero];repeat(quiet_step (fail))
   refine wpQuiet_nil ?_;intro _ hw';obtain⟨nq,hw''⟩:=hw';subst hw'';go_wp2_with (go_at_call 32;refine(c32 ((B f).extract ((B a).size+1) (B f).size) _ (by rw[ByteArray.size_extract];have:=size_B f;omega)).mono ?_;rintro e w3⟨tv,rfl,hrp,hb3⟩);refine callQ_normal ?_;repeat(quiet_step (fail))
   refine wpQuiet_nil ?_;intro _ hw';obtain⟨nq2,hw''⟩:=hw';subst hw'';obtain⟨T,hT⟩:∃T,Hid ((tagsM (split 59 ((B f).extract ((B a).size+1) (B f).size).data.toList) []).getD []=T):=⟨_,rfl⟩;have hTl:Hid (∀t,(valOf t T).length<=1073741824):=by
    unfold Hid;intro t;rw[<-hT.out];cases h:tagsM (split 59 ((B f).extract ((B a).size+1) (B f).size).data.toList) []with
    |none=>exact Nat.zero_le _
    |some T' =>
     refine valOf_le (tagsM_le (n:=1073741824) _ _ _ (fun p hp=>?_) (fun x hx=>by cases hx) h) t;have h1:=split_allLe 59 _ p hp;rw[size_L,ByteArray.size_extract]at h1;have:=size_B f;omega
   rw[hT.out]at hrp;obtain⟨W3,hW3⟩:∃W,Hid ((w3.drewN nq2).alloc (.cells #[.string ⟨#[116]⟩,.string ⟨#[120]⟩] 9)=W):=⟨_,rfl⟩;have hb3':Below w3.heap.size w3 W3:=by rw[<-hW3.out];exact(below_drewN (zB _ _) nq2).alloc (by simp) _
   have hrp3:Hid (RdP W3 tv T):=hrp.keep fun a u hu=>(hb3'.cell (cell_lt hu)).trans hu
   have HB3:Hid (Below w1.heap.size w1 W3):=bthen (bthen (below_drewN hBB.out nq) hb3) hb3';have k0:W3.cell? ⟨w3.heap.size,0,none⟩=some (.string ⟨#[116]⟩):=by rw[<-hW3.out];exact cell_of_row _ _ 0 _ _ _ (heap_alloc_new (w3.drewN nq2) _)
   have k1:W3.cell? ⟨w3.heap.size,1,none⟩=some (.string ⟨#[120]⟩):=by rw[<-hW3.out];exact cell_of_row _ _ 1 _ _ _ (heap_alloc_new (w3.drewN nq2) _)
   clear hb3' hb3 hrp i4 i5 i6 i7 hp0 hck2;go_wp2;rw[hW3.out];clear hW3;go_loopg [52] 2 (fun g2 j w'=>∃i:Nat,Hid (i+g2=2)/\j=.int .i64 i/\Hid (Below W3.heap.size W3 w'))
   case atStart=>exact⟨0,rfl,rfl,zB _ _⟩
   obtain⟨i,hi,rfl,hbi⟩:=hrel;have hi':i<=2:=by have:=hi.out;omega
   have k0':=(hbi.out.cell (cell_lt k0)).trans k0;have k1':=(hbi.out.cell (cell_lt k1)).trans k1;rcases(by omega:i=0\/i=1\/i=2)with rfl|rfl|rfl
   ·obtain rfl:gk=2:=by have:=hi.out;omega
    obtain⟨O,hO⟩:∃O,Hid (whole (strip (valOf [116] T))=O):=⟨_,rfl⟩;cases O with
    |none =>
     go_wp2_with (first
      |(go_at_call 33;refine(c33 tv T ⟨#[116]⟩ _ (hrp3.out.keep fun a u hu=>(hbi.out.cell (cell_lt hu)).trans hu)).mono ?_;rintro e w4⟨rfl,rfl⟩;rw[show(⟨#[116]⟩:ByteArray).data.toList=[116]from rfl])
      |(go_at_call 34;refine(c34 (B (valOf [116] T)) _ (by rw[size_B];exact hTl.out _)).mono ?_;rintro e w5⟨rfl,hb5⟩;rw[L_B,hO.out]))
     go_roundg (1)
     case measure=>decide
     case rel=>exact⟨1,rfl,by go_num,bthen hbi.out hb5⟩
    |some n =>
     by_cases q1:n < -8589934592
     ·go_wp2_with (first
       |(go_at_call 33;refine(c33 tv T ⟨#[116]⟩ _ (hrp3.out.keep fun a u hu=>(hbi.out.cell (cell_lt hu)).trans hu)).mono ?_;rintro e w4⟨rfl,rfl⟩;rw[show(⟨#[116]⟩:ByteArray).data.toList=[116]from rfl])
       |(go_at_call 34;refine(c34 (B (valOf [116] T)) _ (by rw[size_B];exact hTl.out _)).mono ?_;rintro e w5⟨rfl,hb5⟩;rw[L_B,hO.out]))
      go_ret
      exact⟨IsB.of _,bthen HB1.out (bthen HB3.out (bthen hbi.out hb5))⟩
     by_cases q2:8589934592 < n
     ·go_wp2_with (first
       |(go_at_call 33;refine(c33 tv T ⟨#[116]⟩ _ (hrp3.out.keep fun a u hu=>(hbi.out.cell (cell_lt hu)).trans hu)).mono ?_;rintro e w4⟨rfl,rfl⟩;rw[show(⟨#[116]⟩:ByteArray).data.toList=[116]from rfl])
       |(go_at_call 34;refine(c34 (B (valOf [116] T)) _ (by rw[size_B];exact hTl.out _)).mono ?_;rintro e w5⟨rfl,hb5⟩;rw[L_B,hO.out]))
      go_ret
      exact⟨IsB.of _,bthen HB1.out (bthen HB3.out (bthen hbi.out hb5))⟩
     go_wp2_with (first
      |(go_at_call 33;refine(c33 tv T ⟨#[116]⟩ _ (hrp3.out.keep fun a u hu=>(hbi.out.cell (cell_lt hu)).trans hu)).mono ?_;rintro e w4⟨rfl,rfl⟩;rw[show(⟨#[116]⟩:ByteArray).data.toList=[116]from rfl])
      |(go_at_call 34;refine(c34 (B (valOf [116] T)) _ (by rw[size_B];exact hTl.out _)).mono ?_;rintro e w5⟨rfl,hb5⟩;rw[L_B,hO.out]))
     go_roundg (1)
     case measure=>decide
     case rel=>exact⟨1,rfl,by go_num,bthen hbi.out hb5⟩
   ·obtain rfl:gk=1:=by have:=hi.out;omega
    obtain⟨O,hO⟩:∃O,Hid (whole (strip (valOf [120] T))=O):=⟨_,rfl⟩;cases O with
    |none =>
     go_wp2_with (first
      |(go_at_call 33;refine(c33 tv T ⟨#[120]⟩ _ (hrp3.out.keep fun a u hu=>(hbi.out.cell (cell_lt hu)).trans hu)).mono ?_;rintro e w4⟨rfl,rfl⟩;rw[show(⟨#[120]⟩:ByteArray).data.toList=[120]from rfl])
      |(go_at_call 34;refine(c34 (B (valOf [120] T)) _ (by rw[size_B];exact hTl.out _)).mono ?_;rintro e w5⟨rfl,hb5⟩;rw[L_B,hO.out]))
     go_roundg (0)
     case measure=>decide
     case rel=>exact⟨2,rfl,by go_num,bthen hbi.out hb5⟩
    |some n =>
     by_cases q1:n < -8589934592
     ·go_wp2_with (first
       |(go_at_call 33;refine(c33 tv T ⟨#[120]⟩ _ (hrp3.out.keep fun a u hu=>(hbi.out.cell (cell_lt hu)).trans hu)).mono ?_;rintro e w4⟨rfl,rfl⟩;rw[show(⟨#[120]⟩:ByteArray).data.toList=[120]from rfl])
       |(go_at_call 34;refine(c34 (B (valOf [120] T)) _ (by rw[size_B];exact hTl.out _)).mono ?_;rintro e w5⟨rfl,hb5⟩;rw[L_B,hO.out]))
      go_ret
      exact⟨IsB.of _,bthen HB1.out (bthen HB3.out (bthen hbi.out hb5))⟩
     by_cases q2:8589934592 < n
     ·go_wp2_with (first
       |(go_at_call 33;refine(c33 tv T ⟨#[120]⟩ _ (hrp3.out.keep fun a u hu=>(hbi.out.cell (cell_lt hu)).trans hu)).mono ?_;rintro e w4⟨rfl,rfl⟩;rw[show(⟨#[120]⟩:ByteArray).data.toList=[120]from rfl])
       |(go_at_call 34;refine(c34 (B (valOf [120] T)) _ (by rw[size_B];exact hTl.out _)).mono ?_;rintro e w5⟨rfl,hb5⟩;rw[L_B,hO.out]))
      go_ret
      exact⟨IsB.of _,bthen HB1.out (bthen HB3.out (bthen hbi.out hb5))⟩
     go_wp2_with (first
      |(go_at_call 33;refine(c33 tv T ⟨#[120]⟩ _ (hrp3.out.keep fun a u hu=>(hbi.out.cell (cell_lt hu)).trans hu)).mono ?_;rintro e w4⟨rfl,rfl⟩;rw[show(⟨#[120]⟩:ByteArray).data.toList=[120]from rfl])
      |(go_at_call 34;refine(c34 (B (valOf [120] T)) _ (by rw[size_B];exact hTl.out _)).mono ?_;rintro e w5⟨rfl,hb5⟩;rw[L_B,hO.out]))
     go_roundg (0)
     case measure=>decide
     case rel=>exact⟨2,rfl,by go_num,bthen hbi.out hb5⟩
   go_wp2;go_roundg G
   case measure=>exact hgk.out.2
   case rel=>exact⟨k+1,hgk.out.1,by go_num,bthen HB3.out hbi.out⟩
 obtain rfl:k=fs.length:=by omega
 go_wp2;go_ret
 exact⟨IsB.of _,bthen HB1.out hbk.out⟩
end Go.Proofs.YtnkihlpmmfeioaaGreatDoor
