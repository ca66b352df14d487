/- Part of the proof that laws.FnDVerifies answers true: A25,A26 -/
import Derived.Test.YtnkihlpmmfeioaaGreatDoorZ29
set_option linter.unusedVariables false
set_option linter.unusedSimpArgs false
set_option maxRecDepth 1000000
set_option maxHeartbeats 16000000
namespace Go.Proofs.YtnkihlpmmfeioaaGreatDoor
open Go.RowKit
attribute [local go_sem ↓] Go.wp_at_zero Go.wp_at_succ
theorem c77(s:ByteArray)(w:World)(hs:s.size<=1099511627776) :
  Calls Tryz.prog 77 #[.string s] w fun e w'=>e=.returned (.string (B (sha s.data.toList)))/\Below w.heap.size w w':=by
 have hcv:=fun W=>Lib.run_convert_string_bytes (P:=Tryz.prog) W 9 33 5 s Tryz.underlying9 Tryz.underlying33 Tryz.underlying5
 obtain⟨l,hl⟩:∃l,Hid (s.data.toList=l):=⟨_,rfl⟩;have hll:Hid (l.length=s.size):=by unfold Hid;rw[<-hl.out];exact size_L s
 rw[hl.out];obtain⟨R,hR⟩:∃R,Hid (sha l=R):=⟨_,rfl⟩;rw[hR.out];go_enter Tryz.func77,Tryz.ntmps77;go_upto_region 2 with(first
  |(go_at_call_of 119 (Value.int .i64 8);refine(c119 8 2 _ _ rfl (by rw[roots8];rfl) (by decide) (by decide)).mono ?_;rintro e w1⟨v8,rfl,hO8,hb1⟩;rw[roots8_cells]at hO8)
  |(go_at_call_of 119 (Value.int .i64 64);refine(c119 64 3 _ _ rfl (by rw[roots64];rfl) (by decide) (by decide)).mono ?_;rintro e w2⟨v64,rfl,hO64,hb2⟩;rw[roots64_cells]at hO64))
 have hsM:s.size<=maxLen:=by unfold maxLen;omega
 have hcO:=OwnB.conv w2 w2.heap.size (zR _) s hsM;have hbC:=below_bytes (zB w2.heap.size w2) (zR _) s;rw[hl.out]at hcO;have HcO:=zH hcO;have HbC:=zH hbC;clear hcO hbC hsM;go_upto_region 3 with(at_builtin;refine wp_appb rfl (.tmp 26) (.tmp 27) rfl 128 rfl rfl HcO.out (by have:=hll.out;omega) HbC.out.size ?_;intro v5 w3 hO5 _ hB3 _;have hb3:=hB3 w2 HbC.out;clear hB3 HcO HbC)
 clear hcv;have HO5:=zH hO5;have HB3:=zH hb3;clear hO5 hb3;obtain⟨Z,hZ⟩:∃Z,Hid (zerosN l.length=Z):=⟨_,rfl⟩;have hZ1:(l.length+1+Z) % 64=56/\Z < 64:=by have:=hZ.out;unfold zerosN at this;omega
 have HZ1:=zH hZ1;have hllI:=hll.out;clear hZ1;go_loopg [5] Z (fun g v w'=>∃k:Nat,Hid (k+g=Z)/\Hid (OwnB w' w2.heap.size v (l++128::List.replicate k 0))/\Hid (Below w2.heap.size w2 w'))
 case atStart=>exact⟨0,Nat.zero_add _,HO5,HB3⟩
 clear HO5 HB3;obtain⟨k,hk,ho,hb⟩:=hrel;obtain⟨A,c,rfl,hc,hcm,_⟩:=ho.out.slice;obtain⟨N,hN⟩:∃N,Hid (l.length+1+k=N):=⟨_,rfl⟩;have hlen:(l++128::List.replicate k 0).length=N:=by rw[<-hN.out];simp;omega
 rw[hlen]at ho hc ⊢;unfold maxLen at hcm;have hz:=HZ1.out;have hkk:=hk.out;have hNN:=hN.out;have hNb:N<=2000000000000:=by omega
 by_cases hlt:k < Z
 ·have n1:((N:Int) % 64 != 56)=true:=zN (by omega)
  clear hz hkk hNN;go_wp2_with (at_builtin;refine wp_appb rfl (.tmp 33) (.tmp 34) rfl 0 rfl rfl ho.out (by omega) hb.out.size ?_;intro v6 w6 hO6 _ hB6 _;have hb6:=hB6 w2 hb.out;clear hB6);go_roundg (gk - 1)
  case measure=>have:=hk.out;omega
  case rel=>exact⟨k+1,by have:=hk.out;unfold Hid;omega,by unfold Hid;rw[List.append_assoc,List.cons_append,<-List.replicate_succ']at hO6;exact hO6,hb6⟩
 obtain rfl:k=Z:=by omega
 have n1:((N:Int) % 64 != 56)=false:=zQ (by omega);clear hz hkk hNN;go_wp2;obtain⟨P,hP⟩:∃P,Hid (pad l=P):=⟨_,rfl⟩;have hP0:Hid ((l++128::List.replicate k 0)++lenB l.length 8=P):=by unfold Hid;rw[<-hP.out,pad,hZ.out]
 obtain⟨b0,hb0⟩:∃b0:List UInt8,Hid (l++128::List.replicate k 0=b0):=⟨_,zH rfl⟩;have hb0l:Hid (b0.length=N):=by unfold Hid;rw[<-hb0.out,hlen]
 rw[hb0.out]at hP0 ho;clear hlen n1;go_loopg [5,6] 8 (fun g v j w'=>∃q:Nat,∃b:List UInt8,Hid (q=g)/\q<=8/\j=.int .i64 ((q:Int) - 1)/\Hid (b++lenB l.length q=P)/\Hid (b.length+q=N+8)/\Hid (OwnB w' w2.heap.size v b)/\Hid (Below w2.heap.size w2 w'))
 case atStart=>exact⟨8,b0,rfl,zR _,rfl,hP0,by have:=hb0l.out;unfold Hid;omega,ho,hb⟩
 clear ho hb hP0;obtain⟨q,b,hq,hq8,rfl,hbp,hbl,ho,hb⟩:=hrel;by_cases hq0:0 < q
 ·obtain⟨q1,rfl⟩:∃q1,q=q1+1:=⟨q - 1,by omega⟩
  obtain⟨A,c,rfl,hc,hcm,_⟩:=ho.out.slice;unfold maxLen at hcm;have hbl2:=hbl.out;have hbp2:=hbp.out;rw[lenB]at hbp2;have HBP:=zH hbp2;have hbb:b.length<=2000000000100:=by omega
  have s1:((q1:Int)+1 - 1)=(q1:Int):=by omega
  have s2:(0:Int)<=8*(q1:Int):=by omega
  have s3:8*(q1:Int)<=64:=by omega
  have hs8:(0:Int)<=8*(s.size:Int):=by omega
  have hs9:8*(s.size:Int)<=8796093022208:=by omega
  obtain⟨c0,hc0⟩:∃c0,Hid (UInt8.ofNat (8*l.length / 2 ^ (8*q1) % 256)=c0):=⟨_,rfl⟩;have hbv:8*(s.size:Int) / 2 ^ (8*q1) % 256=(c0.toNat:Int):=by rw[<-hc0.out,hllI];simp
  rw[hc0.out]at HBP;have HC0:=hc0;clear hbp hbp2 hbl2 hc0;go_wp2_with (at_builtin;refine wp_appb rfl (.tmp 40) (.tmp 49) rfl c0 rfl rfl ho.out (by omega) hb.out.size ?_;intro v6 w6 hO6 _ hB6 _;have hb6:=hB6 w2 hb.out;clear hB6);go_roundg q1
  case measure=>have:=hq.out;omega
  case rel=>exact⟨q1,b++[c0],rfl,by omega,rfl,by unfold Hid;rw[List.append_assoc];exact HBP.out,by have:=hbl.out;unfold Hid;simp;omega,hO6,hb6⟩
 obtain rfl:q=0:=by omega
 obtain rfl:b=P:=by have:=hbp.out;rw[lenB,List.append_nil]at this;exact this
 obtain⟨A,c,rfl,hc,hcm,hAc⟩:=ho.out.slice;have hAC:=zH hAc;clear hAc;have hNB:b.length % 64=0:=by rw[<-hP.out];exact pad_len l
 have hbN:b.length=N+8:=by have:=hbl.out;omega
 obtain⟨NB,hNB⟩:∃NB,b.length=64*NB:=⟨b.length / 64,by omega⟩;obtain⟨g5,off5,rfl⟩:∃g5 off5,A=some ⟨g5,off5,none⟩:=by
  obtain⟨g5,_,q1,q2,q3⟩:=hAC.out (by omega);exact⟨_,_,q1⟩
 have h5lo:w2.heap.size<=g5:=(ho.out.lt g5 rfl).1;obtain⟨A8,c8,rfl,hc8,hA8⟩:=hO8.slice;rw[wCells_len,show H0.length=8 from rfl]at hc8 hA8 hO8 ⊢;obtain⟨g8,rfl,g8lo,g8hi,_⟩:=hA8 (by decide);obtain⟨A64,c64,rfl,hc64,hA64⟩:=hO64.slice;rw[wCells_len,show KL.length=64 from rfl]at hc64 hA64 hO64 ⊢;obtain⟨g64,rfl,g64lo,g64hi,_⟩:=hA64 (by decide);clear hA8 hA64;have hB2:Below w.heap.size w wr:=(hb1.trans (hb2.mono hb1.size)).trans (hb.out.mono (by have:=hb1.size;have:=hb2.size;omega));have hOK:=zH (hO64.below hb.out);have hOH:=zH ((hO8.below hb2).below (hb.out));have hBW:=zH hB2;have hsz1:=hb1.size;have hsz2:=hb2.size;have hR1:Hid ((compN NB H0 b).flatMap wBytes=R):=by unfold Hid;rw[<-hR.out,sha,hP.out,hNB,Nat.mul_div_cancel_left _ (by decide)]
 clear hO8 hO64 hb1 hb2 hB2 hb hbp hP hb0 hb0l hZ HZ1 hN hk hlt hq hq8 hbl hq0;have hHB:Hid (w.heap.size<=g8/\g8 < g64/\g64 < g5/\w1.heap.size<=g64/\g8 < w1.heap.size/\w2.heap.size<=g5/\g8 < w2.heap.size):=by unfold Hid;omega
 clear hsz1 hsz2 g8lo g8hi g64lo g64hi h5lo;have hNBb:NB<=40000000000:=by omega
 have HNB:=zH hNB;clear hNB hbN hc hc64 hcm;go_wp2;go_loopg [7] NB (fun g v w'=>∃kb a:Nat,∃st:List W32,v=.int .i64 (a:Int)/\Hid (a=64*kb)/\kb<=NB/\Hid (kb+g=NB)/\Hid (st.length=8)/\Hid ((compN g st (b.drop a)).flatMap wBytes=R) /\
  Hid (OwnB w' w2.heap.size (.slice (some ⟨g5,off5,none⟩) b.length c) b)/\Hid (Own w' w1.heap.size 201 (.slice (some ⟨g64,0,none⟩) 64 c64) (wCells KL))/\Hid (Own w' w.heap.size 201 (.slice (some ⟨g8,0,none⟩) 8 c8) (wCells st))/\Hid (Below w.heap.size w w'))
 case atStart=>exact⟨0,0,H0,rfl,rfl,Nat.zero_le _,Nat.zero_add _,rfl,hR1,ho,hOK,hOH,hBW⟩
 clear ho hOK hOH hBW hR1;obtain⟨kb,a,st,rfl,ha,hkb,hkg,hst,hR1,ho,hOK,hOH,hBW⟩:=hrel;by_cases hlt:kb < NB
 ·obtain⟨g',hg'⟩:∃g',gk=g'+1:=⟨gk - 1,by have:=hkg.out;omega⟩
  have hR2:=hR1.out;rw[hg',compN,List.drop_drop]at hR2;obtain⟨blk,hblk⟩:∃blk,Hid (b.drop a=blk):=⟨_,rfl⟩;rw[hblk.out]at hR2;have HR2:=zH hR2;have HG:=zH hg';have hbk:Hid (∀(i:Nat) (x:UInt8),blk[i]?=some x->b[a+i]?=some x):=fun i x hx=>by rw[<-hblk.out,List.getElem?_drop]at hx;exact hx
  have hbkl:Hid (blk.length=b.length - a):=by unfold Hid;rw[<-hblk.out];simp
  clear hR2 hR1 hg';have ha64:a+64<=b.length:=by have:=ha.out;have:=HNB.out;omega
  have hab:a<=2560000000000:=by have:=ha.out;omega
  have habI:(a:Int) < (b.length:Int):=by omega
  go_wp2;have hW0:Hid (Blk (wr.alloc (.cells #[.int .u32 0,.int .u32 0,.int .u32 0,.int .u32 0,.int .u32 0,.int .u32 0,.int .u32 0,.int .u32 0,.int .u32 0,.int .u32 0,.int .u32 0,.int .u32 0,.int .u32 0,.int .u32 0,.int .u32 0,.int .u32 0,.int .u32 0,.int .u32 0,.int .u32 0,.int .u32 0,.int .u32 0,.int .u32 0,.int .u32 0,.int .u32 0,.int .u32 0,.int .u32 0,.int .u32 0,.int .u32 0,.int .u32 0,.int .u32 0,.int .u32 0,.int .u32 0,.int .u32 0,.int .u32 0,.int .u32 0,.int .u32 0,.int .u32 0,.int .u32 0,.int .u32 0,.int .u32 0,.int .u32 0,.int .u32 0,.int .u32 0,.int .u32 0,.int .u32 0,.int .u32 0,.int .u32 0,.int .u32 0,.int .u32 0,.int .u32 0,.int .u32 0,.int .u32 0,.int .u32 0,.int .u32 0,.int .u32 0,.int .u32 0,.int .u32 0,.int .u32 0,.int .u32 0,.int .u32 0,.int .u32 0,.int .u32 0,.int .u32 0,.int .u32 0] 202)) wr.heap.size (wArr (wL blk 0)) 202):=Blk.new wr _ 202;have hBe0:Hid (Below wr.heap.size wr (wr.alloc (.cells #[.int .u32 0,.int .u32 0,.int .u32 0,.int .u32 0,.int .u32 0,.int .u32 0,.int .u32 0,.int .u32 0,.int .u32 0,.int .u32 0,.int .u32 0,.int .u32 0,.int .u32 0,.int .u32 0,.int .u32 0,.int .u32 0,.int .u32 0,.int .u32 0,.int .u32 0,.int .u32 0,.int .u32 0,.int .u32 0,.int .u32 0,.int .u32 0,.int .u32 0,.int .u32 0,.int .u32 0,.int .u32 0,.int .u32 0,.int .u32 0,.int .u32 0,.int .u32 0,.int .u32 0,.int .u32 0,.int .u32 0,.int .u32 0,.int .u32 0,.int .u32 0,.int .u32 0,.int .u32 0,.int .u32 0,.int .u32 0,.int .u32 0,.int .u32 0,.int .u32 0,.int .u32 0,.int .u32 0,.int .u32 0,.int .u32 0,.int .u32 0,.int .u32 0,.int .u32 0,.int .u32 0,.int .u32 0,.int .u32 0,.int .u32 0,.int .u32 0,.int .u32 0,.int .u32 0,.int .u32 0,.int .u32 0,.int .u32 0,.int .u32 0,.int .u32 0] 202))):=(zB _ _).alloc (zR _) _;generalize wr.alloc (.cells #[.int .u32 0,.int .u32 0,.int .u32 0,.int .u32 0,.int .u32 0,.int .u32 0,.int .u32 0,.int .u32 0,.int .u32 0,.int .u32 0,.int .u32 0,.int .u32 0,.int .u32 0,.int .u32 0,.int .u32 0,.int .u32 0,.int .u32 0,.int .u32 0,.int .u32 0,.int .u32 0,.int .u32 0,.int .u32 0,.int .u32 0,.int .u32 0,.int .u32 0,.int .u32 0,.int .u32 0,.int .u32 0,.int .u32 0,.int .u32 0,.int .u32 0,.int .u32 0,.int .u32 0,.int .u32 0,.int .u32 0,.int .u32 0,.int .u32 0,.int .u32 0,.int .u32 0,.int .u32 0,.int .u32 0,.int .u32 0,.int .u32 0,.int .u32 0,.int .u32 0,.int .u32 0,.int .u32 0,.int .u32 0,.int .u32 0,.int .u32 0,.int .u32 0,.int .u32 0,.int .u32 0,.int .u32 0,.int .u32 0,.int .u32 0,.int .u32 0,.int .u32 0,.int .u32 0,.int .u32 0,.int .u32 0,.int .u32 0,.int .u32 0,.int .u32 0] 202)=W0 at *
  obtain⟨wo,hwo⟩:∃wo:World,wo=wr:=⟨_,rfl⟩;rw[<-hwo]at ho hOK hOH hBW hW0 hBe0 ⊢;clear hwo;obtain⟨gw,hgw⟩:∃gw,Hid (wo.heap.size=gw):=⟨_,rfl⟩;rw[hgw.out]at hW0 hBe0 ⊢;refine l77_4 _ _ _ _ _ _ _ _ _ _ _ _ _ _ _ _ _ _ _ _ _ _ _ _ _ _ _ _ _ _ _ _ _ _ _ _ _ _ _ _ _ _ _ _ _ _ _ _ _ _ _ _ _ _ _ _ _ _ _ _ _ _ _ _ _ _ _ _ _ _ _ _ _ _ _ _ _ _ _ _ _ _ _ _ _ _ _ _ _ _ _ _ _ _ _ _ _ _ _ _ _ _ _ _ _ _ _ _ _ _ _ _ _ _ _ _ _ _ _ _ _ _ _ _ _ _ _ _ _ _ _ _ _ _ _ _ _ _ _ _ _ _ _ _ _ _ _ _ _ _ _ _ _ _ _ _ _ _ _ _ _ _ _ _ _ _ _ _ _ _ _ _ _ _ _ _ _ _ _ _ _ _ _ _ _ _ _ _ _ _ _ _ _ _ _ _ _ _ _ _ _ _ _ _ _ _ _ _ _ _ _ _ _ _ _ _ _ _ _ _ _ _ _ _ _ _ _ _ _ _ _ _ _ _ _ _ _ _ _ _ _ _ _ _ _ _ _ _ _ _ _ _ _ _ _ _ _ _ _ _ _ _ _ _ _ _ _ _ _ (by kernel_rfl) wo W0 g5 off5 c gw a w2.heap.size b blk ho hbk hbkl ha64 hab (by have:=HNB.out;omega) hgw hW0 hBe0 ?_;intro u9 u10 u57 u58 u59 u60 u61 u62 u63 u64 u65 u66 u67 u68 u69 u70 u71 u72 u73 u74 u75 u76 u77 u78 u79 u80 u81 wr hWB hBe;clear hW0 hBe0;go_wp2;refine l77_6 _ _ _ _ _ _ _ _ _ _ _ _ _ _ _ _ _ _ _ _ _ _ _ _ _ _ _ _ _ _ _ _ _ _ _ _ _ _ _ _ _ _ _ _ _ _ _ _ _ _ _ _ _ _ _ _ _ _ _ _ _ _ _ _ _ _ _ _ _ _ _ _ _ _ _ _ _ _ _ _ _ _ _ _ _ _ _ _ _ _ _ _ _ _ _ _ _ _ _ _ _ _ _ _ _ _ _ _ _ _ _ _ _ _ _ _ _ _ _ _ _ _ _ _ _ _ _ _ _ _ _ _ _ _ _ _ _ _ _ _ _ _ _ _ _ _ _ _ _ _ _ _ _ _ _ _ _ _ _ _ _ _ _ _ _ _ _ _ _ _ _ _ _ _ _ _ _ _ _ _ _ _ _ _ _ _ _ _ _ _ _ _ _ _ _ _ _ _ _ _ _ _ _ _ _ _ _ _ _ _ _ _ _ _ _ _ _ _ _ _ _ _ _ _ _ _ _ _ _ _ _ _ _ _ _ _ _ _ _ _ _ _ _ _ _ _ _ _ _ _ _ _ _ _ _ _ _ _ _ _ _ _ _ _ _ _ _ _ _ _ _ (by kernel_rfl) wo wr gw blk hWB hBe ?_;clear hWB hBe;intro u11 u12 u13 u82 u83 u84 u85 u86 u87 u88 u89 u90 u91 u92 u93 u94 u95 u96 u97 u98 u99 u100 u101 u102 u103 u104 u105 u106 u107 u108 u109 u110 u111 u112 u113 u114 u115 u116 u117 u118 u119 u120 u121 u122 wr hWB hBe;have hst8:=hst.out;obtain⟨i201,i201_1,i201_2,i201_3,i201_4⟩:=info_parts info201;have hownE:=Own.lit0 wr (gw+1) (by have:=hWB.out.lt;omega);have hcellH:=fun j u (hj:(wCells st)[j]?=some u)=>(hBe.out.cell (p:=⟨g8,j,none⟩) (by have:=cell_lt (hOH.out.cellAt rfl hj);rw[hgw.out]at this;exact this)).trans (hOH.out.cellAt rfl hj)
  have HE:=zH hownE;have HH:=zH hcellH;clear hownE hcellH hst8;go_wp2_with (at_builtin;refine wpList_append_own_at (P:=Tryz.prog) (wr.alloc (.cells #[] 201)) rfl (.tmp 123) (.tmp 124) 199 rfl (gw+1) 201 i201 (.int .u32 0) 1 4 Tryz.underlying199 i201_1 i201_2 i201_3 i201_4 rfl (by decide) _ 0 [] rfl HE.out ⟨g8,0,none⟩ 8 c8 (wCells st) rfl (by rw[wCells_len,hst.out]) (fun j u hj=>by rw[add_lit0];exact cell_alloc' _ (cell_lt (HH.out j u hj)) (HH.out j u hj)) (wCells_one st) (by simp[maxLen]) (by decide) (by simp;have:=hWB.out.lt;omega) ?_;intro v6 w6 hO6 hg6 _ _);have hO7:Own w6 (gw+1) 201 v6 (wCells st):=by unfold Own;rw[wCells_len,hst.out];simpa using hO6
  have hg7:(wr.alloc (.cells #[] 201)).grownBy w6 (some wr.heap.size):=hg6;have hBe6:Hid (Below gw wo w6):=(hBe.out.alloc (by have:=hWB.out.lt;omega) _).grown hg7 (by have:=hWB.out.lt;simp;omega) (fun k hk=>by injection hk with hk;have:=hWB.out.lt;omega);have hWB6:Hid (Blk w6 gw (wArr (wL blk 64)) 202):=(hg7.block gw (by have:=hWB.out.lt;simp;omega) (fun hk=>by injection hk with hk;have:=hWB.out.lt;omega)).trans ((heap_alloc_old wr _ hWB.out.lt).trans hWB.out);obtain⟨A6,c6,rfl,hc6,hA6⟩:=hO7.slice;rw[wCells_len,hst.out]at hc6 hA6 ⊢;obtain⟨gv,rfl,hgv,_,hcv6⟩:=hA6 (by decide);have HV6:Hid (gw < gv/\∀(j:Nat) (x:W32),(rounds blk st 0)[j]?=some x->w6.cell? ⟨gv,j,none⟩=some (.int .u32 (x.toNat:Int))):=⟨by omega,fun j x hx=>hcv6 j _ (wCells_at hx)⟩;clear hO6 hg6 hg7 hO7 hWB hBe hA6 hcv6 HE HH hgv i201_1 i201_2 i201_3 i201_4;refine l77_7 _ _ _ _ _ _ _ _ _ _ _ _ _ _ _ _ _ _ _ _ _ _ _ _ _ _ _ _ _ _ _ _ _ _ _ _ _ _ _ _ _ _ _ _ _ _ _ _ _ _ _ _ _ _ _ _ _ _ _ _ _ _ _ _ _ _ _ _ _ _ _ _ _ _ _ _ _ _ _ _ _ _ _ _ _ _ _ _ _ _ _ _ _ _ _ _ _ _ _ _ _ _ _ _ _ _ _ _ _ _ _ _ _ _ _ _ _ _ _ _ _ _ _ _ _ _ _ _ _ _ _ _ _ _ _ _ _ _ _ _ _ _ _ _ _ _ _ _ _ _ _ _ _ _ _ _ _ _ _ _ _ _ _ _ _ _ _ _ _ _ _ _ _ _ _ _ _ _ _ _ _ _ _ _ _ _ _ _ _ _ _ _ _ _ _ _ _ _ _ _ _ _ _ _ _ _ _ _ _ _ _ _ _ _ _ _ _ _ _ _ _ _ _ _ _ _ _ _ _ _ _ _ _ _ _ _ _ _ _ _ _ _ _ _ _ _ _ _ _ _ _ _ _ _ _ _ _ _ _ _ _ _ _ _ _ _ _ _ _ (by kernel_rfl) wo w6 gw g64 c64 gv c6 w1.heap.size blk st hst hOK hgw hc6 HV6 hWB6 hBe6 ?_;clear HV6 hWB6 hBe6 hc6;intro gv cv u15 u16 u17 u18 u19 u126 u127 u128 u129 u130 u131 u132 u133 u134 u135 u136 u137 u138 u139 u140 u141 u142 u143 u144 u145 u146 u147 u148 u149 u150 u151 u152 u153 u154 u155 u156 u157 u158 u159 u160 u161 u162 u163 u164 u165 u166 u167 u168 u169 u170 u171 u172 u173 u174 u175 u176 u177 u178 u179 u180 u181 u182 u183 u184 u185 u186 u187 u188 u189 u190 u191 u192 u193 u194 u195 u196 u197 u198 u199 u200 u201 u202 u203 u204 u205 u206 u207 u208 u209 u210 u211 u212 u213 u214 u215 u216 u217 u218 u219 u220 u221 u222 u223 u224 wr hcv HV hWB hBe;obtain⟨V,hV⟩:∃V,Hid (rounds blk st 64=V):=⟨_,rfl⟩;have hVl:Hid (V.length=st.length):=by unfold Hid;rw[<-hV.out,rounds_len]
  rw[hV.out]at HV;have hHBo:=hHB.out;have hwow:w.heap.size<=wo.heap.size:=hBW.out.size;have hbw:=hgw.out;have hBBw:Below wo.heap.size wo wr:=by rw[hbw];exact hBe.out
  have hOHr:=zH (hOH.out.below hBBw);have hOKr:=zH (hOK.out.below hBBw);have hor:=zH (ho.out.below hBBw);have hBWr:=zH (bthen hBW.out hBBw);have hVr:=zH HV.out.2;have hg8v:Hid (gv≠g8/\g8 < wo.heap.size):=by
   have h1:=(World.ownsRow.lt hOH.out g8 rfl).2;have h2:=HV.out.1;unfold Hid;omega
  have hg8q:Hid (w.heap.size<=g8/\g8 < w1.heap.size/\g8 < w2.heap.size):=by have:=hHB.out;unfold Hid;omega
  rw[<-addTo_zero st V]at hOHr;clear hOH hOK ho hBW hBBw HV hHBo hwow hbw hBe hWB;go_wp2;refine l77_8 _ _ _ _ _ _ _ _ _ _ _ _ _ _ _ _ _ _ _ _ _ _ _ _ _ _ _ _ _ _ _ _ _ _ _ _ _ _ _ _ _ _ _ _ _ _ _ _ _ _ _ _ _ _ _ _ _ _ _ _ _ _ _ _ _ _ _ _ _ _ _ _ _ _ _ _ _ _ _ _ _ _ _ _ _ _ _ _ _ _ _ _ _ _ _ _ _ _ _ _ _ _ _ _ _ _ _ _ _ _ _ _ _ _ _ _ _ _ _ _ _ _ _ _ _ _ _ _ _ _ _ _ _ _ _ _ _ _ _ _ _ _ _ _ _ _ _ _ _ _ _ _ _ _ _ _ _ _ _ _ _ _ _ _ _ _ _ _ _ _ _ _ _ _ _ _ _ _ _ _ _ _ _ _ _ _ _ _ _ _ _ _ _ _ _ _ _ _ _ _ _ _ _ _ _ _ _ _ _ _ _ _ _ _ _ _ _ _ _ _ _ _ _ _ _ _ _ _ _ _ _ _ _ _ _ _ _ _ _ _ _ _ _ _ _ _ _ _ _ _ _ _ _ _ _ _ _ _ _ _ _ _ _ _ _ _ _ _ _ _ (by kernel_rfl) w wr wo g8 c8 gv cv g5 off5 c g64 c64 w1.heap.size w2.heap.size b st V hst hVl hc8 hcv hg8v hg8q hVr hor hOKr hOHr hBWr ?_;clear hVr hor hOKr hOHr hBWr;intro u20 u225 u226 u227 u228 u229 u230 u231 u232 u233 u234 u235 u236 u237 u238 wr hor hOKr hOHr hBWr;have hst8:=hst.out;have hOHn:Hid (Own wr w.heap.size 201 (.slice (some ⟨g8,0,none⟩) 8 c8) (wCells (blockM st blk))):=by
   have:=hOHr.out;rw[<-hst8,addTo_all st V hVl.out,<-hV.out]at this;rw[hst8]at this;exact this
  have habn:Hid (a+64=64*(kb+1)):=by have:=ha.out;unfold Hid;omega
  have hBL:Hid ((blockM st blk).length=8):=by unfold Hid;rw[blockM_len,hst8]
  clear hst8;go_wp2;go_roundg g'
  case measure=>have:=HG.out;omega
  case rel=>exact⟨kb+1,a+64,blockM st blk,by go_num,habn,by omega,by have:=HG.out;have:=hkg.out;unfold Hid;omega,hBL,HR2,hor,hOKr,hOHn,hBWr⟩
 obtain rfl:kb=NB:=by omega
 have hg0:gk=0:=by have:=hkg.out;omega
 have hR2:=hR1.out;rw[hg0,compN]at hR2;have HR:=zH hR2;have hnI:¬(a:Int) < (b.length:Int):=by have:=ha.out;have:=HNB.out;omega
 clear hR1 hR2 hg0;obtain⟨wo,hwo⟩:∃wo:World,wo=wr:=⟨_,rfl⟩;rw[<-hwo]at ho hOK hOH hBW ⊢;clear hwo;go_wp2;go_loopg [21,22] 8 (fun g v ix w'=>∃i:Nat,∃out:List UInt8,ix=.int .i64 (i:Int)/\i<=8/\Hid (i+g=8)/\Hid (out++(st.drop i).flatMap wBytes=R)/\Hid (out.length=4*i)/\Hid (OwnB w' wo.heap.size v out)/\Hid (Below wo.heap.size wo w'))
 case atStart=>exact⟨0,[],rfl,by omega,rfl,HR,rfl,OwnB.nil _ _,zB _ _⟩
 clear HR;obtain⟨i,out,rfl,hi8,hig,hq,hol,ho9,hb9⟩:=hrel;by_cases hl9:i < 8
 ·have hsl:i < st.length:=by have:=hst.out;omega
  obtain⟨x,hx⟩:∃x,Hid (st[i]=x):=⟨st[i],zH rfl⟩;have hq2:=hq.out;rw[List.drop_eq_getElem_cons hsl,hx.out,List.flatMap_cons]at hq2;have HQ:=zH hq2;have q1:=hOH.out.cellAt rfl (wCells_at (zG hsl));rw[hx.out]at q1;have q2:=(hb9.out.cell (cell_lt q1)).trans q1;have hiI:(i:Int) < 8:=by omega
  have HQ1:=zH q1;clear hq hq2 q1;go_upto_region 41 with fail
  have y0:(0:Int)<=(i:Int):=by omega
  have hol2:=hol.out;have hwz:=hb9.out.size;go_region_held3 (fun w'=>w'.cell? ⟨g8,i,none⟩=some (.int .u32 (x.toNat:Int)))
   (first|go_keep|exact(hL1.cell (cell_lt HQ1.out)).trans HQ1.out)
   ((refine step_appB (s:=.tmp 243) (xo:=.tmp 267) (base:=wo.heap.size) (m:=wBytes x) (n:=4) (tx:=33) (w:=_) (by rfl) (by rfl) (by rfl) (by exact OwnB.alloc ho9.out _) (by rfl) (Src.at4 x (by exact hp_new' _ _ _ (by first|rfl|simp))) (by simp[wBytes];omega) (by first|omega|(simp;omega)) ?_;intro v6 w6 hO6 hB6 hG6 hl6;have hL1:Below wo.heap.size wo w6:=hB6 wo (by repeat(first|exact hb9.out|exact below_drewN hb9.out _|refine below_dr1 ?_|refine below_al1 ?_ _))))
  clear hB6 hG6 hl6;go_wp2;go_roundg (gk - 1)
  case measure=>have:=hig.out;omega
  case rel=>exact⟨i+1,out++wBytes x,by go_num,by omega,by have:=hig.out;unfold Hid;omega,by unfold Hid;rw[List.append_assoc];exact HQ.out,by have:=hol.out;unfold Hid;simp[wBytes];omega,hO6,hL1⟩
 obtain rfl:i=8:=by omega
 have hq2:=hq.out;rw[List.drop_eq_nil_of_le (by rw[hst.out];exact zR _),List.flatMap_nil,List.append_nil]at hq2;have HQ:=zH hq2;have hcv:=ho9.out.str;clear hq hq2;go_wp2;go_ret
 exact⟨ret_eq (by rw[<-HQ.out];rfl),bthen hBW.out hb9.out⟩
end Go.Proofs.YtnkihlpmmfeioaaGreatDoor
namespace Go.Proofs.YtnkihlpmmfeioaaGreatDoor
open Go.RowKit
theorem c77p(l:List UInt8)(w:World)(hs:(B l).size<=1099511627776) :
  Calls Tryz.prog 77 #[.string (B l)] w fun e w'=>e=.returned (.string (B (sha l)))/\Below w.heap.size w w':=c77 (B l) w hs
theorem c83(k h:List UInt8)(w:World)(hk:k.length<=1073741824)(hh:h.length<=1073741824) :
  Calls Tryz.prog 83 #[.string (B k),.string (B h)] w fun e w'=>e=.returned (.string (B (sha (k++h))))/\Below w.heap.size w w':=by
 have hkh:(B (k++h)).size<=1099511627776:=by rw[size_B,zA];omega
 have hap:B k++B h=B (k++h):=by rw[<-B_L (B k++B h),L_append];rfl
 have hkB:(B k).size<=1073741824:=hk;have hhB:(B h).size<=1073741824:=hh;go_enter Tryz.func83,Tryz.ntmps83;go_wp2_with (go_at_call 77;refine(c77p _ _ hkh).mono ?_;rintro e w1⟨rfl,hb1⟩);go_ret
 exact⟨rfl,hb1⟩
end Go.Proofs.YtnkihlpmmfeioaaGreatDoor
