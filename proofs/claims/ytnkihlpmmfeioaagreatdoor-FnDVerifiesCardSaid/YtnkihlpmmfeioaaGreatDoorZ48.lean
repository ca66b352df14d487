/- Part of the proof that laws.FnDVerifies answers true: A115,A116,R1,R2,R3,R4 -/
import Derived.Test.YtnkihlpmmfeioaaGreatDoorRows
import Derived.Stop.LaidTwo
import Derived.Stop.Texts
import Derived.LaidMore
import Derived.Lib.LaidTab
import Derived.MakeChecks
import Derived.LaidHandle
import Derived.ChangeArms
import Derived.SliceStrings
import Derived.SizedLaws
import Derived.Lib.SmallJoins
import Derived.Test.YtnkihlpmmfeioaaGreatDoorZ47
set_option linter.unusedVariables false
set_option linter.unusedSimpArgs false
set_option maxRecDepth 1000000
set_option maxHeartbeats 16000000
namespace Go.Proofs.YtnkihlpmmfeioaaGreatDoor
open Go.RowKit
theorem VOf.same{fs:List (List UInt8)}{body:List UInt8}{recs:List Rec}{now:Int}{f:List UInt8}{x y:VV}{ks ls:List (List UInt8)}(hx:VOf fs body recs now f x ks)(hy:VOf fs body recs now f y ls) :
  x.c=y.c/\(x.c=0->x.d=y.d/\x.i=y.i/\ks=ls/\x.t=y.t/\x.x=y.x):=by
 refine⟨hx.1.trans hy.1.symm,fun h0=>?_⟩;obtain⟨P,h1,h2,h3,h4,h5,h6⟩:=hx.2 h0;obtain⟨P',g1,g2,g3,g4,g5,g6⟩:=hy.2 (by rw[hy.1,<-hx.1];exact h0);rw[h1]at g1;injection g1 with g1
 subst g1;exact⟨h2.trans g2.symm,h3.trans g3.symm,h4.trans g4.symm,h5.trans g5.symm,h6.trans g6.symm⟩
theorem c17(va vb:Value)(fs sigs:List (List UInt8))(body:List UInt8)(recs:List Rec)(now:Int)(w:World)(ha:RdVs w va fs body recs now sigs)(hb:RdVs w vb fs body recs now sigs)(hsn:sigs.length<=20000) :
  Calls Tryz.prog 17 #[va,vb] w fun e w'=>e=.returned (.bool true)/\Below w.heap.size w w':=by
 obtain⟨A,c,rfl,hc,hA⟩:=ha;obtain⟨A2,c2,rfl,hc2,hA2⟩:=hb;have HA:=zH hA;have HA2:=zH hA2;clear hA hA2;have hne:((sigs.length:Int) != (sigs.length:Int))=false:=bne_self_eq_false _;go_enter Tryz.func17,Tryz.ntmps17;go_wp2;go_loopg [5] sigs.length (fun g i w'=>∃k:Nat,Hid (k+g=sigs.length)/\i=.int .i64 k/\Hid (Below w.heap.size w w'))
 case atStart=>exact⟨0,Nat.zero_add _,rfl,zB _ _⟩
 obtain⟨k,hk,rfl,hbk⟩:=hrel;have hk':k<=sigs.length:=by have:=hk.out;omega
 by_cases hlt:k < sigs.length
 ·obtain⟨g,rfl,hcell⟩:=HA.out (by omega)
  obtain⟨g2,rfl,hcell2⟩:=HA2.out (by omega);obtain⟨f,hf⟩:∃f:List UInt8,Hid (sigs[k]?=some f):=⟨sigs[k],zG hlt⟩;obtain⟨⟨d,i,A3,n3,c3,tn,xn,cd⟩,ks,hv,hks,x0,x1,x2,x3,x4,x5⟩:=hcell k f hf.out;obtain⟨⟨d',i',A3',n3',c3',tn',xn',cd'⟩,ls,hv',hls,y0,y1,y2,y3,y4,y5⟩:=hcell2 k f hf.out;obtain⟨G,hgk⟩:∃G,Hid (k+1+G=sigs.length/\G < gk):=⟨gk - 1,by have:=hk.out;unfold Hid;omega⟩;have hsame:=hv.same hv';simp only at hsame x0 x1 x3 x4 x5 y0 y1 y3 y4 y5;obtain⟨rfl,hsame⟩:=hsame;have KB:∀(a:Addr) (u:Value),w.cell? a=some u->wr.cell? a=some u:=fun a u hu=>(hbk.out.cell (cell_lt hu)).trans hu
  have X0:=KB _ _ x0;have X1:=KB _ _ x1;have X2:wr.cell? ⟨g,k*6+2,none⟩=some (.slice A3 n3 c3):=KB _ _ x2;have X3:=KB _ _ x3;have X4:=KB _ _ x4;have X5:=KB _ _ x5;have Y0:=KB _ _ y0;have Y1:=KB _ _ y1;have Y2:wr.cell? ⟨g2,k*6+2,none⟩=some (.slice A3' n3' c3'):=KB _ _ y2;have Y3:=KB _ _ y3;have Y4:=KB _ _ y4;have Y5:=KB _ _ y5;have HS:=zH hsame;have HKS:=zH hks;have HLS:=zH hls;have l1:g < wr.heap.size:=cell_lt X0;have l2:g2 < wr.heap.size:=cell_lt Y0;have l3:¬wr.heap.size=g:=by omega
  have l4:¬wr.heap.size=g2:=by omega
  have l5:¬wr.heap.size+1=g:=by omega
  have l6:¬wr.heap.size+1=g2:=by omega
  clear KB x0 x1 x2 x3 x4 x5 y0 y1 y2 y3 y4 y5 hcell hcell2 hsame hv hv' hks hls;go_upto_region 6 with fail
  go_region
  ·obtain⟨W1,hW1⟩:∃W,Hid (((wr.alloc (.cells #[.string d,.string i,.slice A3 n3 c3,.int .i64 tn,.int .i64 xn,.int .i64 cd] 47)).alloc (.cells #[.string d',.string i',.slice A3' n3' c3',.int .i64 tn',.int .i64 xn',.int .i64 cd] 47)).drew=W):=⟨_,rfl⟩
   have hbW:Hid (Below w.heap.size w W1):=by rw[<-hW1.out];exact bthen hbk.out (below_dr (below_al (below_al (zB _ _) _) _))
   have hbA:Blk W1 wr.heap.size #[.string d,.string i,.slice A3 n3 c3,.int .i64 tn,.int .i64 xn,.int .i64 cd] 47:=by rw[<-hW1.out];exact(Blk.new wr _ _).below (below_dr ((zB _ _).alloc (zR _) _)) (by simp)
   have hbB:Blk W1 (wr.heap.size+1) #[.string d',.string i',.slice A3' n3' c3',.int .i64 tn',.int .i64 xn',.int .i64 cd] 47:=by
    have h1:=Blk.new (wr.alloc (.cells #[.string d,.string i,.slice A3 n3 c3,.int .i64 tn,.int .i64 xn,.int .i64 cd] 47)) #[.string d',.string i',.slice A3' n3' c3',.int .i64 tn',.int .i64 xn',.int .i64 cd] 47;have h2:(wr.alloc (.cells #[.string d,.string i,.slice A3 n3 c3,.int .i64 tn,.int .i64 xn,.int .i64 cd] 47)).heap.size=wr.heap.size+1:=by simp
    rw[h2]at h1;rw[<-hW1.out];exact h1
   rw[hW1.out];clear hW1 X0 X1 X2 X3 X4 X5 Y0 Y1 Y2 Y3 Y4 Y5 l1 l2 l3 l4 l5 l6;have q0:=hbA.cell 0;have q1:=hbA.cell 1;have q2:=hbA.cell 2;have q3:=hbA.cell 3;have q4:=hbA.cell 4;have q5:=hbA.cell 5;have r0:=hbB.cell 0;have r1:=hbB.cell 1;have r2:=hbB.cell 2;have r3:=hbB.cell 3;have r4:=hbB.cell 4;have r5:=hbB.cell 5;clear hbA hbB;have ec:(cd != cd)=false:=bne_self_eq_false _;by_cases hcd:cd=0
   ·obtain⟨rfl,rfl,rfl,rfl,rfl⟩:=HS.out hcd
    have e0:(cd == 0)=true:=zE hcd;have s1:(d.toList == d.toList)=true:=beq_self_eq_true _;have s2:(i.toList == i.toList)=true:=beq_self_eq_true _;have s3:(tn != tn)=false:=bne_self_eq_false _;have s4:(xn != xn)=false:=bne_self_eq_false _;clear hcd;go_wp2_with (go_at_call 46;refine(c46 _ _ ks _ (HKS.out.below hbW.out) (HLS.out.below hbW.out)).mono ?_;rintro e w2⟨rfl,n2,rfl⟩);go_roundg G
    case measure=>exact hgk.out.2
    case rel=>exact⟨k+1,hgk.out.1,by go_num,below_drewN hbW.out _⟩
   have e0:(cd == 0)=false:=zF hcd;clear hcd;go_wp2;go_roundg G
   case measure=>exact hgk.out.2
   case rel=>exact⟨k+1,hgk.out.1,by go_num,hbW.out⟩
  obtain⟨W1,hW1⟩:∃W,Hid (((wr.alloc (.cells #[.string d',.string i',.slice A3' n3' c3',.int .i64 tn',.int .i64 xn',.int .i64 cd] 47)).alloc (.cells #[.string d,.string i,.slice A3 n3 c3,.int .i64 tn,.int .i64 xn,.int .i64 cd] 47)).drew=W):=⟨_,rfl⟩;have hbW:Hid (Below w.heap.size w W1):=by rw[<-hW1.out];exact bthen hbk.out (below_dr (below_al (below_al (zB _ _) _) _))
  have hbA:Blk W1 wr.heap.size #[.string d',.string i',.slice A3' n3' c3',.int .i64 tn',.int .i64 xn',.int .i64 cd] 47:=by rw[<-hW1.out];exact(Blk.new wr _ _).below (below_dr ((zB _ _).alloc (zR _) _)) (by simp)
  have hbB:Blk W1 (wr.heap.size+1) #[.string d,.string i,.slice A3 n3 c3,.int .i64 tn,.int .i64 xn,.int .i64 cd] 47:=by
   have h1:=Blk.new (wr.alloc (.cells #[.string d',.string i',.slice A3' n3' c3',.int .i64 tn',.int .i64 xn',.int .i64 cd] 47)) #[.string d,.string i,.slice A3 n3 c3,.int .i64 tn,.int .i64 xn,.int .i64 cd] 47;have h2:(wr.alloc (.cells #[.string d',.string i',.slice A3' n3' c3',.int .i64 tn',.int .i64 xn',.int .i64 cd] 47)).heap.size=wr.heap.size+1:=by simp
   rw[h2]at h1;rw[<-hW1.out];exact h1
  rw[hW1.out];clear hW1 X0 X1 X2 X3 X4 X5 Y0 Y1 Y2 Y3 Y4 Y5 l1 l2 l3 l4 l5 l6;have q0:=hbB.cell 0;have q1:=hbB.cell 1;have q2:=hbB.cell 2;have q3:=hbB.cell 3;have q4:=hbB.cell 4;have q5:=hbB.cell 5;have r0:=hbA.cell 0;have r1:=hbA.cell 1;have r2:=hbA.cell 2;have r3:=hbA.cell 3;have r4:=hbA.cell 4;have r5:=hbA.cell 5;clear hbA hbB;have ec:(cd != cd)=false:=bne_self_eq_false _;by_cases hcd:cd=0
  ·obtain⟨rfl,rfl,rfl,rfl,rfl⟩:=HS.out hcd
   have e0:(cd == 0)=true:=zE hcd;have s1:(d.toList == d.toList)=true:=beq_self_eq_true _;have s2:(i.toList == i.toList)=true:=beq_self_eq_true _;have s3:(tn != tn)=false:=bne_self_eq_false _;have s4:(xn != xn)=false:=bne_self_eq_false _;clear hcd;go_wp2_with (go_at_call 46;refine(c46 _ _ ks _ (HKS.out.below hbW.out) (HLS.out.below hbW.out)).mono ?_;rintro e w2⟨rfl,n2,rfl⟩);go_roundg G
   case measure=>exact hgk.out.2
   case rel=>exact⟨k+1,hgk.out.1,by go_num,below_drewN hbW.out _⟩
  have e0:(cd == 0)=false:=zF hcd;clear hcd;go_wp2;go_roundg G
  case measure=>exact hgk.out.2
  case rel=>exact⟨k+1,hgk.out.1,by go_num,hbW.out⟩
 obtain rfl:k=sigs.length:=by omega
 go_wp2;go_ret
 exact⟨rfl,hbk.out⟩
theorem rk_of{recs:List Rec}(h:∀r∈recs,shortP 3000 r.tx=true):Hid (recsOk recs/\∀r∈recs,allLe 100000000 r.tx):=by
 refine⟨fun r hr t ht=>?_,fun r hr t ht=>?_⟩
 ·obtain⟨h1,h2⟩:=(shortP_of (h r hr)).2 t ht
  exact⟨h1,by omega⟩
 obtain⟨h1,h2⟩:=(shortP_of (h r hr)).2 t ht;omega
theorem c3(l:List UInt8)(rv:Value)(recs:List Rec)(most now:Int)(w:World)(pE pF pS pR pT:Addr)(txS txR:ByteArray)(hE:EN w pE pF pS pR pT txS txR)(hl:l.length<=140737488355328)(hr:RdR w rv recs)(hs:∀r∈recs,r.nm.length<=9223372036854775807/\allLe 9223372036854775807 r.tx) :
  Calls Tryz.prog 3 #[.string (B l),rv,.int .i64 most,.int .i64 now] w fun e w'=>e=.returned (.bool true)/\Below w.heap.size w w':=by
 have HE:=zH hE;have HR:=zH hr;have HS:=zH hs;obtain⟨Ar,cr,rfl,_⟩:=hr;clear hE hs;go_enter Tryz.func3,Tryz.ntmps3;by_cases h0:(2147483647:Int) < ((B l).size:Int)
 ·go_wp2
  go_ret
  exact⟨rfl,zB _ _⟩
 go_upto_region 3 with(go_at_call 10;refine(c10 _ recs _ HR.out).mono ?_;rintro e w1⟨b,rfl,hb1⟩)
 ·go_ret
  exact⟨rfl,hb1⟩
 have hll:(B l).size<=2147483647:=by omega
 rw[size_B]at hll;obtain⟨WX,hWX⟩:∃W,Hid (w1.alloc (.cells #[.string (B l)] 9)=W):=⟨_,rfl⟩;have hbX:Hid (Below w.heap.size w WX):=by rw[<-hWX.out];exact bthen hb1 (below_al (zB _ _) _)
 have hn1:Hid (RdS WX (.slice (some ⟨w1.heap.size,0,none⟩) 1 1) [l]):=by
  refine⟨_,1,rfl,zR _,by simp,fun _=>⟨_,0,rfl,fun i y hy=>?_⟩⟩;cases i with
  |zero=>simp at hy;subst hy;rw[<-hWX.out];exact cell_of_row _ _ 0 _ _ _ (heap_alloc_new w1 _)
  |succ i=>simp at hy
 have hl1:Hid (allLe 9223372036854775807 [l]):=fun x hx=>by simp at hx;subst hx;omega
 obtain⟨b1,hb1e⟩:∃b,Hid (shortP 10000 [l]=b):=⟨_,rfl⟩;have hrx:Hid (RdR WX (.slice Ar recs.length cr) recs):=HR.out.below hbX.out;cases b1 with
 |false =>
  go_wp2_with (first
   |(go_at_call 11;rw[hWX.out];refine(c11 10000 _ [l] _ hn1.out hl1.out).mono ?_;rintro e w2⟨rfl,rfl⟩;rw[hb1e.out])
   |(go_at_call 14;refine(c14 _).mono ?_;rintro e w3⟨rfl,hb3⟩))
  go_ret
  exact⟨rfl,bthen hbX.out hb3⟩
 |true =>
  have hsh:=shortP_of hb1e.out;have hl10:Hid (l.length<=10000/\plainL l):=by
   obtain⟨h1,h2⟩:=hsh.2 l (by simp);exact⟨by omega,h1⟩
  have hl11:=hl10.out.1;have hC:=hbX.out;clear hsh;by_cases i1:most < 0
  ·go_wp2_with (first
    |(go_at_call 11;rw[hWX.out];refine(c11 10000 _ [l] _ hn1.out hl1.out).mono ?_;rintro e w2⟨rfl,rfl⟩;rw[hb1e.out])
    |(go_at_call 12;refine(c12 _ recs now _ hrx.out HS.out).mono ?_;rintro e w3⟨b2,rfl,hi2,hb3⟩;replace hC:=bthen hC hb3;have HI:=zH hi2;clear hi2;cases b2)
    |(go_at_call 14;refine(c14 _).mono ?_;rintro e w9⟨rfl,hb9⟩;replace hC:=bthen hC hb9))
   all_goals
    go_ret
    exact⟨rfl,hC⟩
  have hm:0<=most:=by omega
  obtain⟨P,hP⟩:∃P,Hid (headOf l=P):=⟨_,rfl⟩;cases P with
  |none =>
   go_wp2_with (first
    |(go_at_call 11;rw[hWX.out];refine(c11 10000 _ [l] _ hn1.out hl1.out).mono ?_;rintro e w2⟨rfl,rfl⟩;rw[hb1e.out])
    |(go_at_call 12;refine(c12 _ recs now _ hrx.out HS.out).mono ?_;rintro e w3⟨b2,rfl,hi2,hb3⟩;replace hC:=bthen hC hb3;have HI:=zH hi2;clear hi2;cases b2)
    |(go_at_call 13;refine(c13 l _ (by omega)).mono ?_;rintro e w4⟨⟨b3,rfl⟩,hb4⟩;replace hC:=bthen hC hb4;cases b3)
    |(go_at_call 14;refine(c14 _).mono ?_;rintro e w9⟨rfl,hb9⟩;replace hC:=bthen hC hb9)
    |(go_at_call 15;go_loud (have hRK:Hid (recsOk recs/\∀r∈recs,allLe 100000000 r.tx):=rk_of (fun r hr=>((HI.out (by trivial)).2 r hr).2);refine(c15 l _ recs most now _ pE pF pS pR pT txS txR (HE.out.below hC) hl10.out.1 hl10.out.2 (HR.out.below hC) hRK.out hm).mono ?_;rintro e w5 hq;unfold DvPost at hq;rw[hP.out]at hq;obtain⟨rfl,hb5⟩:=hq;replace hC:=bthen hC hb5))
    |(go_at_call 16;refine(c16 l _ recs most now _ hl10.out.1 (HR.out.below hC) hRK.out.2 hm).mono ?_;rintro e w6 hq;unfold DvPost at hq;rw[hP.out]at hq;obtain⟨rfl,hb6⟩:=hq;replace hC:=bthen hC hb6))
   all_goals
    go_ret
    exact⟨rfl,hC⟩
  |some p =>
   obtain⟨fs,body⟩:=p;obtain⟨mb,hmb⟩:∃mb,manyOf most (sigsOf fs)=mb:=⟨_,rfl⟩;have hsn:(firstOf most (sigsOf fs)).length<=20000:=by
    have h0:=(headOf_facts hP.out).1;have h1:(sigsOf fs).length<=fs.length:=List.length_filter_le _ _;have h2:(firstOf most (sigsOf fs)).length<=(sigsOf fs).length:=by
     unfold firstOf;split
     ·rw[List.length_take];omega
     exact zR _
    simp only at h0;omega
   go_wp2_with (first
    |(go_at_call 11;rw[hWX.out];refine(c11 10000 _ [l] _ hn1.out hl1.out).mono ?_;rintro e w2⟨rfl,rfl⟩;rw[hb1e.out])
    |(go_at_call 12;refine(c12 _ recs now _ hrx.out HS.out).mono ?_;rintro e w3⟨b2,rfl,hi2,hb3⟩;replace hC:=bthen hC hb3;have HI:=zH hi2;clear hi2;cases b2)
    |(go_at_call 13;refine(c13 l _ (by omega)).mono ?_;rintro e w4⟨⟨b3,rfl⟩,hb4⟩;replace hC:=bthen hC hb4;cases b3)
    |(go_at_call 14;refine(c14 _).mono ?_;rintro e w9⟨rfl,hb9⟩;replace hC:=bthen hC hb9)
    |(go_at_call 15;go_loud (have hRK:Hid (recsOk recs/\∀r∈recs,allLe 100000000 r.tx):=rk_of (fun r hr=>((HI.out (by trivial)).2 r hr).2);refine(c15 l _ recs most now _ pE pF pS pR pT txS txR (HE.out.below hC) hl10.out.1 hl10.out.2 (HR.out.below hC) hRK.out hm).mono ?_;rintro e w5 hq;unfold DvPost at hq;rw[hP.out]at hq;obtain⟨v5,rfl,hv5,hb5⟩:=hq;have HV5:=zH hv5;clear hv5;replace hC:=bthen hC hb5))
    |(go_at_call 16;refine(c16 l _ recs most now _ hl10.out.1 (HR.out.below hC) hRK.out.2 hm).mono ?_;rintro e w6 hq;unfold DvPost at hq;rw[hP.out]at hq;obtain⟨v6,rfl,hv6,hb6⟩:=hq;have HV6:=zH hv6;clear hv6;replace hC:=bthen hC hb6)
    |(go_at_call 17;refine(c17 _ _ fs (firstOf most (sigsOf fs)) body recs now _ (HV5.out.below hb6) HV6.out hsn).mono ?_;rintro e w7⟨rfl,hb7⟩;replace hC:=bthen hC hb7))
   all_goals
    go_ret
    exact⟨rfl,hC⟩
open Go.ChangeShapes
theorem star : "*" ++ "errors.errorString" = "*errors.errorString":=by decide
theorem row235(u:TypeId)(h:Tryz.prog.typeName? 3 u=some "*errors.errorString"):u=235 :=
 typeName_ptr_named (nm := "errors.errorString") (by rw[star];kernel_rfl) (by kernel_rfl) (by decide) u (by rw[star];exact h)
theorem fld237 : ∃f:Field,Tryz.prog.underlying 237=some (.struct #[f])/\f.type=9/\f.offset=0:=⟨_,Tryz.underlying237,rfl,rfl⟩
theorem ms68 : ∃ms,Tryz.prog.underlying 68=some (.interface ms):=u68
theorem sentP{n:String}{text:List UInt8}{r:List (String × DataW Unit)}{W:World}{ps:List MemPlace}{g:Nat}
  (hv:DataW.LaidVars Tryz.prog W ((n,.iface "*errors.errorString" (.ptr (.agg [.lit (.string text)])))::r) ps)
  (hrows:∀b off,MemPlace.cell b off∈ps->(∃c t,W.heap[b]?=some (.cells c t (0,0)))/\∀u v,W.cell? ⟨b,off,none⟩=some (.iface u v)->Value.okWide Tryz.prog W .any 0 u v)
  (hg:Tryz.prog.globalNamed n=some g)(ht:(Tryz.prog.globals[g]?).map (·.type)=some 68) :
  ∃(a:Addr) (s:ByteArray) (q:List MemPlace),W.cell? ⟨g,0,none⟩=some (.iface 235 (.pointer (some a)))/\W.cell? a=some (.string s)/\s.data.toList=text/\(∃c t,Blk W a.block c t)/\DataW.LaidVars Tryz.prog W r q/\ps=MemPlace.row ⟨g,0,none⟩ 1++MemPlace.row a 1++q:=by
 obtain⟨g0,t0,cs0,f0,p0,q0,hg0,ht0,hv0,hd0,hq,e0⟩:=hv;obtain rfl:=Option.some.inj (hg.symm.trans hg0);obtain rfl:=Option.some.inj (ht.symm.trans ht0);subst e0;obtain⟨l0⟩:=cs0;obtain⟨ms,hms⟩:=ms68;obtain⟨f,hf,hft,hfo⟩:=fld237;have ok0:∀u v,l0=[.iface u v]->Value.okWide Tryz.prog W .any 0 u v:=fun u v e=>by
  subst e;exact(hrows g 0 (by simp[MemPlace.row])).2 u v (by simpa using World.var?_cell hg0 hv0 0)
 obtain⟨a0,s0,rfl,hc0,hs0,hz0,rfl⟩:=errorString_of_trod hms row235 Tryz.underlying235 hf hft hfo Tryz.underlying9 (by kernel_rfl) (by kernel_rfl) hd0 ok0;exact⟨a0,s0,q0,by simpa using World.var?_cell hg0 hv0 0,hc0,hs0,(hrows a0.block a0.off (by simp[MemPlace.row])).1,hq,rfl⟩
theorem laidTail{x:String × DataW Unit}{r:List (String × DataW Unit)}{w:World}{ps:List MemPlace}(h:DataW.LaidVars Tryz.prog w (x::r) ps):∃p q,DataW.LaidVars Tryz.prog w r q/\ps=p++q:=by
 obtain⟨n,d⟩:=x;obtain⟨g,t,cs,fuel,p,q,_,_,_,_,hq,rfl⟩:=h;exact⟨_,q,hq,rfl⟩
def KLi : List Int:=KL.map fun x=>(x.toNat:Int)
open Go.ChangeShapes
theorem nodup_rows{a b:Addr}{p q r:List MemPlace}(h:(p++MemPlace.row a 1++(q++MemPlace.row b 1++r)).Nodup):a≠b:=by
 rintro rfl;simp[MemPlace.row,List.nodup_append]at h
theorem size_of_list{s:ByteArray}{l:List UInt8}{n:Nat}(h:s.data.toList=l)(hl:l.length<=n):s.size<=n:=by
 rw[<-size_L,h];exact hl
theorem tab_cell{W:World}{n:String}{k:IntKind}{zs:List Int}{g:Nat}(hg:Tryz.prog.globalNamed n=some g)(h:Lib.TabIs Tryz.prog W n k zs)(i:Nat)(z:Int)(hz:zs[i]?=some z):W.cell? ⟨g,i,none⟩=some (.int k z):=by
 have:=World.var?_cell hg h i;rw[this];simp[hz]
theorem en_of_laid{W:World}(h:laidMetH Tryz.prog Rows.fnDVerifiesRow.laid W):∃pE pF pS pR pT txS txR,EN W pE pF pS pR pT txS txR:=by
 rw[MakeChecks.laidMetH_plain _ _ _ (by kernel_rfl)]at h;have h2:laidMet Tryz.prog (("given.example/pub-waxseal/pub/msgauth/inner/sha._K",Lib.tabData .u32 KLi)::_) W:=h.tail.tail;have h3:laidMet Tryz.prog (("internal/strconv.uint64pow10",Lib.tabData .u64 Lib.pow10Tab)::_) W:=h2.tail;have hK:=Lib.tabIs_of_head (t:=202) (e:=201) (n:=64) (by kernel_rfl:Tryz.prog.globalNamed "given.example/pub-waxseal/pub/msgauth/inner/sha._K"=some 6) (by kernel_rfl) Tryz.underlying202 Tryz.underlying201 (by kernel_rfl) (by kernel_rfl) h2;have hP:=Lib.tabIs_of_head (t:=319) (e:=102) (n:=20) (by kernel_rfl:Tryz.prog.globalNamed "internal/strconv.uint64pow10"=some 12) (by kernel_rfl) Tryz.underlying319 Tryz.underlying102 (by kernel_rfl) (by kernel_rfl) h3;obtain⟨ps,hv,hnd,hrows⟩:=h3.tail;obtain⟨aR,sR,q1,hR,hRs,hRt,_,hv1,he1⟩:=sentP hv hrows (by kernel_rfl:Tryz.prog.globalNamed "strconv.ErrRange"=some 10) (by kernel_rfl);have hrows1:=fun b off hm=>hrows b off (by rw[he1];exact List.mem_append_right _ hm)
 have hx1:=hnd;rw[he1]at hx1;have hnd1:=List.Nodup.sublist (List.sublist_append_right _ _) hx1;obtain⟨aS,sS,q2,hS,hSs,hSt,_,hv2,he2⟩:=sentP hv1 hrows1 (by kernel_rfl:Tryz.prog.globalNamed "strconv.ErrSyntax"=some 9) (by kernel_rfl);have hrows2:=fun b off hm=>hrows1 b off (by rw[he2];exact List.mem_append_right _ hm)
 have hx2:=hnd1;rw[he2]at hx2;have hnd2:=List.Nodup.sublist (List.sublist_append_right _ _) hx2;obtain⟨_,q3,hv3,he3⟩:=laidTail hv2;have hrows3:=fun b off hm=>hrows2 b off (by rw[he3];exact List.mem_append_right _ hm)
 have hx3:=hnd2;rw[he3]at hx3;have hnd3:=List.Nodup.sublist (List.sublist_append_right _ _) hx3;obtain⟨_,q4,hv4,he4⟩:=laidTail hv3;have hrows4:=fun b off hm=>hrows3 b off (by rw[he4];exact List.mem_append_right _ hm)
 have hx4:=hnd3;rw[he4]at hx4;have hnd4:=List.Nodup.sublist (List.sublist_append_right _ _) hx4;obtain⟨aE,sE,q5,hE,hEs,hEt,hEb,hv5,he5⟩:=sentP hv4 hrows4 (by kernel_rfl:Tryz.prog.globalNamed "io.EOF"=some 2) (by kernel_rfl);have hrows5:=fun b off hm=>hrows4 b off (by rw[he5];exact List.mem_append_right _ hm)
 obtain⟨p6,q6,hv6,he6⟩:=laidTail hv5;have hrows6:=fun b off hm=>hrows5 b off (by rw[he6];exact List.mem_append_right _ hm)
 obtain⟨aF,sF,q7,hF,hFs,hFt,hFb,hv7,he7⟩:=sentP hv6 hrows6 (by kernel_rfl:Tryz.prog.globalNamed "bufio.ErrBufferFull"=some 3) (by kernel_rfl);have hne:aE≠aF:=nodup_rows (p:=MemPlace.row ⟨2,0,none⟩ 1) (q:=p6++MemPlace.row ⟨3,0,none⟩ 1) (r:=q7) (by have:=hnd4;rw[he5,he6,he7]at this;simpa only[List.append_assoc]using this);have hrows7:=fun b off hm=>hrows6 b off (by rw[he7];exact List.mem_append_right _ hm)
 obtain⟨_,q8,hv8,he8⟩:=laidTail hv7;have hrows8:=fun b off hm=>hrows7 b off (by rw[he8];exact List.mem_append_right _ hm)
 obtain⟨aT,sT,q9,hT,hTs,hTt,hTb,hv9,he9⟩:=sentP hv8 hrows8 (by kernel_rfl:Tryz.prog.globalNamed "given.example/pub-waxseal/pub/msgauth/dkim.ErrTooManySignatures"=some 0) (by kernel_rfl);obtain⟨g,t,cs,fuel,p,q,hg,ht,hvar,htr,_,_⟩:=hv9;obtain rfl:=Option.some.inj ((by kernel_rfl:Tryz.prog.globalNamed "given.example/pub-waxseal/pub/msgauth/dkim.requiredTags"=some 1).symm.trans hg);obtain rfl:=Option.some.inj ((by kernel_rfl:(Tryz.prog.globals[1]?).map (·.type)=some 34).symm.trans ht);have hreq:∃rv,W.cell? ⟨1,0,none⟩=some rv/\RdS W rv reqd:=by
  obtain⟨a,cap,hcs,hcap,hel⟩:=open_row Tryz.underlying34 (by kernel_rfl) htr;have hc1:=World.var?_cell hg hvar 0;have hcs':cs=#[.slice (some a) 7 cap]:=Array.ext' (by rw[hcs];rfl);rw[hcs']at hc1;refine⟨.slice (some a) 7 cap,by simpa using hc1,some a,cap,rfl,hcap,by decide,fun _=>?_⟩;have hcell:∀(i:Nat) (x:List UInt8),reqd[i]?=some x->W.cell? (a.add i)=some (.string (B x)):=fun i x hx=>by
   obtain⟨v,n,q,h1,h2⟩:=hel i (.lit (.string x)) (by
    have e:([.lit (.string [118]),.lit (.string [97]),.lit (.string [98]),.lit (.string [98,104]),.lit (.string [100]),.lit (.string [104]),.lit (.string [115])]:List (DataW Unit))=reqd.map fun x=>.lit (.string x):=rfl
    rw[e,List.getElem?_map,hx];rfl)
   obtain⟨s,e1,e2,_⟩:=DataW.trod_string Tryz.underlying9 h2;injection e1 with e1
   subst e1;simp only[Prod.mk.injEq,DataW.lit.injEq,Lit.string.injEq]at e2;rw[h1,<-B_L s,<-e2.1]
  have h0:=hcell 0 [118] rfl;have hsp:a.spot=none:=by
   cases hs:a.spot with
   |none=>rfl
   |some k =>
    rw[show a.add 0=a from rfl]at h0;unfold World.cell? at h0;split at h0
    ·rw[hs]at h0;simp at h0
    cases h0
  obtain⟨bl,of,sp⟩:=a;simp only at hsp;subst hsp;exact⟨bl,of,rfl,fun i x hx=>by have:=hcell i x hx;rwa [add_lit']at this⟩
 refine⟨aE,aF,aS,aR,aT,sS,sR,⟨?_,⟨hE,hF,hne,hEb,hFb⟩,hS,hR,⟨hSs,size_of_list hSt (by decide)⟩,⟨hRs,size_of_list hRt (by decide)⟩,hreq,hP,hT,hTb⟩⟩;intro i x hx;exact tab_cell (by kernel_rfl:Tryz.prog.globalNamed "given.example/pub-waxseal/pub/msgauth/inner/sha._K"=some 6) hK i _ (by unfold KLi;rw[List.getElem?_map,hx];rfl)
open Go.ChangeShapes Go.WideShapes
theorem list_of{α:Type}{P:Nat->α->Prop}:∀(n:Nat),(∀i,i < n->∃x,P i x)->∃l:List α,l.length=n/\∀(i:Nat) (x:α),l[i]?=some x->P i x
 |0,_=>⟨[],rfl,fun i x h=>by simp at h⟩
 |n+1,h=>by
  obtain⟨l,hl,hp⟩:=list_of n fun i hi=>h i (Nat.lt_succ_of_lt hi)
  obtain⟨x,hx⟩:=h n (Nat.lt_succ_self n);refine⟨l++[x],by simp[hl],fun i y hy=>?_⟩;rcases Nat.lt_or_ge i l.length with hlt|hge
  ·rw[List.getElem?_append_left hlt]at hy;exact hp i y hy
  rw[List.getElem?_append_right hge]at hy;cases hk:i - l.length with
  |zero =>
   rw[hk]at hy;simp at hy;subst hy;obtain rfl:i=n:=by omega
   exact hx
  |succ k=>rw[hk]at hy;simp at hy
theorem spot_none{W:World}{a:Addr}{u:Value}(h:W.cell? a=some u):a.spot=none:=by
 cases hs:a.spot with
 |none=>rfl
 |some k =>
  unfold World.cell? at h;split at h
  ·rw[hs]at h;simp at h
  cases h
section
variable {H:Type}{enc:TypeId × Value->H}{W:World}{sp:Nat->Bool}{held:Bool}
theorem rdS_of{fuel:Nat}{v:Value}{d:DataW H}{p:List MemPlace}(h:DataW.trod enc Tryz.prog W 0 sp held fuel 34 [v]=some (d,p))(hw:∀n∈d.weights Tryz.prog 34,n<=reachBytes) :
  ∃xs,RdS W v xs/\allLe 9223372036854775807 xs:=by
 rcases DataW.trod_slice Tryz.underlying34 h with⟨hcs,_⟩|⟨a,len,cap,elems,rest,n,_,hcs,hx,_,hl,hm,hlen,hel,_,_⟩
 ·injection hcs with hcs
  subst hcs;exact⟨[],⟨none,0,rfl,zR _,Nat.zero_le _,fun h=>absurd h (Nat.lt_irrefl _)⟩,fun x hx=>by cases hx⟩
 injection hcs with hcs
 subst hcs;injection hx with hx _
 subst hx;have hb:(elems.length+rest.length)*16<=reachBytes:=hw _ (by simp[DataW.weights,Tryz.underlying34,show Tryz.prog.bytesOf 9=16 by kernel_rfl]);have hlb:=reachBytes_lt;obtain⟨xs,hxl,hxs⟩:=list_of (P:=fun i (x:List UInt8)=>W.cell? (a.add i)=some (.string (B x))/\x.length<=9223372036854775807) len fun i hi=>by
  have hE:=hel i hi;rw[zG (by omega),show Tryz.prog.cellsOf 9=1 by kernel_rfl,Nat.mul_one,Option.bind_eq_some_iff]at hE;obtain⟨cs',hcs,hy⟩:=hE;obtain⟨s,rfl,_,hz⟩:=DataW.trod_string Tryz.underlying9 hy;exact⟨s.data.toList,by rw[B_L];exact cell_of_cells?_one hcs,by rw[size_L];unfold maxLen at hz;omega⟩
 refine⟨xs,⟨some a,cap,by rw[hxl],by rw[hxl];exact hl,by rw[hxl];omega,fun h0=>?_⟩,fun x hx=>?_⟩
 ·obtain⟨x0,hx0⟩:∃x,xs[0]?=some x:=⟨xs[0],zG h0⟩
  have hsp:=spot_none (hxs 0 x0 hx0).1;obtain⟨bl,of,sp⟩:=a;simp only[Addr.add,if_pos]at hsp;subst hsp;exact⟨bl,of,rfl,fun i x hx=>by have:=(hxs i x hx).1;rwa [add_lit']at this⟩
 obtain⟨i,hi⟩:=List.getElem?_of_mem hx;exact(hxs i x hi).2
end
open Go.ChangeShapes Go.WideShapes
theorem wAll_mem{H:Type}{P:Program}{e:TypeId}:∀{l:List (DataW H)} {d:DataW H},d∈l->∀n∈d.weights P e,n∈DataW.weightsAll P e l
 |d'::r,d,hd,n,hn=>by
  simp only[DataW.weightsAll,List.mem_append];rcases List.mem_cons.1 hd with rfl|h
  ·exact Or.inl hn
  exact Or.inr (wAll_mem h n hn)
def RecOk(x:Rec):Prop:=x.nm.length<=9223372036854775807/\allLe 9223372036854775807 x.tx
section
variable {H:Type}{enc:TypeId × Value->H}{W:World}{sp:Nat->Bool}{held:Bool}
theorem rec_of{fuel:Nat}{a:Addr}{y:DataW H × List MemPlace}(h:(W.cells? 0 a 4).bind (DataW.trod enc Tryz.prog W 0 sp held fuel 42)=some y)(hw:∀n∈y.1.weights Tryz.prog 42,n<=reachBytes) :
  ∃x:Rec,RecOk x/\W.cell? a=some (.string (B x.nm))/\(∃tv,W.cell? (a.add 1)=some tv/\RdS W tv x.tx)/\W.cell? (a.add 2)=some (.bool x.fl)/\W.cell? (a.add 3)=some (.bool x.tp):=by
 rw[Option.bind_eq_some_iff]at h;obtain⟨cs,hcs,hy⟩:=h;obtain⟨_,hlen,hcell⟩:=World.cells?_some hcs;obtain⟨y0,y1,y2,y3,n,hx,_,h0,h1,h2,h3⟩:=Joins.trod_struct4 Tryz.underlying42 hy
 match cs,hlen with
 |[c0,c1,c2,c3],_ =>
  have c9:Tryz.prog.cellsOf 9=1:=by kernel_rfl
  have c34:Tryz.prog.cellsOf 34=1:=by kernel_rfl
  have c4:Tryz.prog.cellsOf 4=1:=by kernel_rfl
  simp only[c9,c34,c4,List.drop_succ_cons,List.drop_zero,List.take_succ_cons,List.take_zero]at h0 h1 h2 h3;obtain⟨s,hs,_,hz⟩:=DataW.trod_string Tryz.underlying9 h0;obtain⟨b2,hb2,_⟩:=DataW.trod_bool Tryz.underlying4 h2;obtain⟨b3,hb3,_⟩:=DataW.trod_bool Tryz.underlying4 h3;injection hs with hs
  injection hb2 with hb2
  injection hb3 with hb3
  subst hs;subst hb2;subst hb3;subst hx;obtain⟨xs,hR,hle⟩:=rdS_of h1 fun m hm=>hw m (by
   simp only[DataW.weights,Tryz.underlying42,List.map_cons,List.map_nil,DataW.weightsEach,List.mem_append];exact Or.inr (Or.inl hm))
  have k0:W.cell? (a.add 0)=some (.string s):=hcell 0 (by decide);have a0:a.add 0=a:=by obtain⟨g,o,sp⟩:=a;unfold Addr.add;split <;> simp_all
  rw[a0]at k0;exact⟨⟨s.data.toList,xs,b2,b3⟩,⟨by rw[size_L];unfold maxLen at hz;omega,hle⟩,by rw[B_L];exact k0,⟨c1,hcell 1 (by decide),hR⟩,hcell 2 (by decide),hcell 3 (by decide)⟩
theorem rdR_of{fuel:Nat}{v:Value}{d:DataW H}{p:List MemPlace}(h:DataW.trod enc Tryz.prog W 0 sp held fuel 22 [v]=some (d,p))(hw:∀n∈d.weights Tryz.prog 22,n<=reachBytes) :
  ∃xs,RdR W v xs/\∀x∈xs,RecOk x:=by
 rcases DataW.trod_slice Tryz.underlying22 h with⟨hcs,_⟩|⟨a,len,cap,elems,rest,n,_,hcs,hx,_,hl,hm,hlen,hel,_,_⟩
 ·injection hcs with hcs
  subst hcs;exact⟨[],⟨none,0,rfl,zR _,Nat.zero_le _,fun h=>absurd h (Nat.lt_irrefl _)⟩,fun x hx=>by cases hx⟩
 injection hcs with hcs
 subst hcs;injection hx with hx _
 subst hx;have hb:(elems.length+rest.length)*48<=reachBytes:=hw _ (by simp[DataW.weights,Tryz.underlying22,show Tryz.prog.bytesOf 42=48 by kernel_rfl]);have hlb:=reachBytes_lt;obtain⟨xs,hxl,hxs⟩:=list_of (P:=fun i (x:Rec)=>RecOk x/\W.cell? (a.add (i*4))=some (.string (B x.nm))/\(∃tv,W.cell? ((a.add (i*4)).add 1)=some tv/\RdS W tv x.tx)/\W.cell? ((a.add (i*4)).add 2)=some (.bool x.fl)/\W.cell? ((a.add (i*4)).add 3)=some (.bool x.tp)) len fun i hi=>by
  have hE:=hel i hi;rw[zG (by omega),show Tryz.prog.cellsOf 42=4 by kernel_rfl]at hE;obtain⟨x,q⟩:=rec_of hE fun m hm=>hw m (by
   simp only[DataW.weights,Tryz.underlying22,List.mem_cons,List.mem_append];exact Or.inr (Or.inl (wAll_mem (List.mem_map_of_mem (List.getElem_mem _)) m hm)))
  exact⟨x,q⟩
 refine⟨xs,⟨some a,cap,by rw[hxl],by rw[hxl];exact hl,by rw[hxl];omega,fun h0=>?_⟩,fun x hx=>?_⟩
 ·obtain⟨x0,hx0⟩:∃x,xs[0]?=some x:=⟨xs[0],zG h0⟩
  have hsp:=spot_none (hxs 0 x0 hx0).2.1;obtain⟨bl,of,sp⟩:=a;simp only[Addr.add]at hsp;subst hsp;exact⟨bl,of,rfl,fun i x hx=>by have:=(hxs i x hx).2;simp only[add_lit']at this;exact this⟩
 obtain⟨i,hi⟩:=List.getElem?_of_mem hx;exact(hxs i x hi).1
end
end Go.Proofs.YtnkihlpmmfeioaaGreatDoor
