/- Part of the proof that laws.FnDVerifies answers true: A67,A68 -/
import Derived.Test.YtnkihlpmmfeioaaGreatDoorZ24
set_option linter.unusedVariables false
set_option linter.unusedSimpArgs false
set_option maxRecDepth 1000000
set_option maxHeartbeats 16000000
namespace Go.Proofs.YtnkihlpmmfeioaaGreatDoor
open Go.RowKit
theorem Errs.drewN{w:World}{pE pF:Addr}(h:Errs w pE pF)(n:Nat):Errs (w.drewN n) pE pF:=⟨h.eof,h.full,h.ne,h.rE,h.rF⟩
theorem StrR.drewN{w:World}{gs i:Nat}{S:List UInt8}(h:StrR w gs i S)(n:Nat):StrR (w.drewN n) gs i S:=h
theorem mRdS(p:Addr)(w:World):(method 488 71 (.pointer (some p)) "Read").run Tryz.prog w=.ok (235,.pointer (some p)) w:=by kernel_rfl
theorem c235y(gs i g o n c:Nat)(S:List UInt8)(pE pF:Addr)(w:World)(h:StrR w gs i S)(hE:Errs w pE pF)(hc:∀j,j < n->(w.cell? ⟨g,o+j,none⟩).isSome=true)(hf:∀j,j < n->w.frozen? ⟨g,o+j,none⟩=false)
  (hg:g≠gs)(hS:S.length<=1099511627776)(hi:i < S.length) :
  Calls Tryz.prog 235 #[.pointer (some ⟨gs,0,none⟩),.slice (some ⟨g,o,none⟩) n c] w fun e w' =>
   e=.returned (.tuple #[.int .i64 ((min n (S.length - i):Nat):Int),.nilIface])/\w'.heap[g]?=(w.setCells g o (byteVs ((S.drop i).take n))).heap[g]?/\StrR w' gs (i+min n (S.length - i)) S/\Gr (fun j=>j=g\/j=gs) w w' :=
 (c235 gs i g o n c S pE pF w h hE hc hf hg hS).mono fun e w' h=>h.elim (fun h=>h.2) (fun h=>absurd h.1 (by omega))
theorem c235n(gs i g o n c:Nat)(S:List UInt8)(pE pF:Addr)(w:World)(h:StrR w gs i S)(hE:Errs w pE pF)(hc:∀j,j < n->(w.cell? ⟨g,o+j,none⟩).isSome=true)(hf:∀j,j < n->w.frozen? ⟨g,o+j,none⟩=false)
  (hg:g≠gs)(hS:S.length<=1099511627776)(hi:¬i < S.length) :
  Calls Tryz.prog 235 #[.pointer (some ⟨gs,0,none⟩),.slice (some ⟨g,o,none⟩) n c] w fun e w'=>e=.returned (.tuple #[.int .i64 0,eofV pE])/\Below w.heap.size w w' :=
 (c235 gs i g o n c S pE pF w h hE hc hf hg hS).mono fun e w' h=>h.elim (fun h=>absurd h.1 hi) (fun h=>h.2)
theorem fill_rest{T1 D S X:List UInt8}{n i k:Nat}(hT:T1.length=4096)(hD:T1.take n=D/\D.length=n)(hn:n+k<=4096)(hX:(S.drop i).take (4096 - n)=X)(hk:X.length=k) :
  restOf 0 (n+k) (i+k) (T1.take n++X++T1.drop (n+k)) S=D++S.drop i:=by
 unfold restOf;rw[List.drop_zero,List.take_left' (by rw[zA,hD.1,hD.2,hk]),hD.1,List.append_assoc,<-List.drop_drop];congr 1
 have:X=(S.drop i).take k:=by
  rw[<-hX];have hl:k=min (4096 - n) (S.drop i).length:=by rw[<-hk,<-hX,List.length_take]
  rw[hl,<-List.take_eq_take_min]
 rw[this];exact List.take_append_drop k _
def FillP(w':World)(gb gd gs i:Nat)(D S:List UInt8)(pE:Addr):Prop :=
 ∃wr' i' err' T',BufAt w' gb gd gs 0 wr' i' err' T' S/\restOf 0 wr' i' T' S=D++S.drop i/\T'.take D.length=D/\D.length<=wr'/\((err'=.nilIface/\i < i')\/(err'=eofV pE/\i'=S.length/\i=S.length/\wr'=D.length))
theorem c159(gb gd gs r wr i:Nat)(T S:List UInt8)(pE pF:Addr)(w:World)(h:BufAt w gb gd gs r wr i .nilIface T S)(hE:Errs w pE pF)(hroom:wr - r < 4096)(hS:S.length<=1099511627776)(h3:errTop pE pF < gb/\errTop pE pF < gd/\errTop pE pF < gs) :
  Calls Tryz.prog 159 #[.pointer (some ⟨gb,0,none⟩)] w fun e w'=>e=.returned (.tuple #[])/\FillP w' gb gd gs i ((T.take wr).drop r) S pE/\Gr (fun k=>k=gb\/k=gd\/k=gs) w w':=by
 have hle:=h.le;have hwl:=h.wle;have hmR:=mRdS;by_cases hr:r=0
 ·subst hr
  obtain⟨lb,ls,hb⟩:=h.blk;have p2:=hb.cell 2;have hX:=h;have HFIN:Hid (T.take wr=(T.take wr).drop 0/\((T.take wr).drop 0).length=wr):=⟨rfl,by rw[List.drop_zero,List.length_take,h.len];omega⟩;obtain⟨D,hD⟩:∃D,Hid ((T.take wr).drop 0=D):=⟨_,rfl⟩;rw[hD.out]at HFIN ⊢;have HEX:=zH hE;clear h hE hb;go_enter Tryz.func159,Tryz.ntmps159;go_upto_region 4 with fail
  obtain⟨lb1,ls1,hb1⟩:=hX.blk;have p0:=hb1.cell 0;have p1:=hb1.cell 1;have p3:=hb1.cell 3;have p4:=hb1.cell 4;have f3:=hb1.frozen 3;have f4:=hb1.frozen 4;have HX:=zH hX;have HB1:=zH hb1;have a1:¬((4096:Int)<=(wr:Int)):=by omega
  have a2:(0:Int)<=(wr:Int):=by omega
  have a3:(wr:Int)<=4096:=by omega
  have a4:¬(4096:Nat)=wr:=by omega
  have hrdc:Hid (∀j,j < 4096 - wr->(w.cell? ⟨gd,wr+j,none⟩).isSome=true):=fun j hj=>by
   rw[hX.buf.cell,List.getElem?_toArray,zG (by rw[byteVs_len,hX.len];omega)];rfl
  have hrdf:Hid (∀j,j < 4096 - wr->w.frozen? ⟨gd,wr+j,none⟩=false):=fun j hj=>hX.buf.frozen _
  clear hX hb1;go_quiet (fail)
  go_wp2;go_loopg [2] 0 (fun g v w'=>v=.int .i64 100/\∃m,w'=w.drewN m)
  case atStart=>exact⟨rfl,_,rfl⟩
  obtain⟨rfl,nm,rfl⟩:=hrel;by_cases hlt:i < S.length
  ·obtain⟨X,hXx⟩:∃X,Hid ((S.drop i).take (4096 - wr)=X):=⟨_,rfl⟩
   obtain⟨k,hk⟩:∃k,Hid (min (4096 - wr) (S.length - i)=k):=⟨_,rfl⟩;have hXk:Hid (X.length=k):=by unfold Hid;rw[<-hXx.out,<-hk.out,List.length_take,List.length_drop]
   have hkn:0 < k/\wr+k<=4096/\i+k<=S.length:=by have:=hk.out;omega
   have b1:¬((k:Int) < 0):=by omega
   have b2:(0:Int) < (k:Int):=by omega
   have b3:IntKind.i64.wrap ((wr:Int)+(k:Int))=((wr+k:Nat):Int):=by rw[IntWalk.i64_in _ (by omega)];omega
   go_wp2;refine wp_quiet_call 15 20 (by kernel_rfl) (by kernel_rfl) rfl ?_;simp only[List.take_succ_cons,List.take_zero,List.drop_succ_cons,List.drop_zero];repeat(quiet_step (fail))
   refine wpQuiet_nil ?_;intro _ hw';obtain⟨nq,hw''⟩:=hw';subst hw'';go_wp2_with (go_at_call 235;refine(c235y gs i gd wr (4096 - wr) (4096 - wr) S pE pF _ (HX.out.rd.drewN _) (HEX.out.drewN _) hrdc.out hrdf.out HX.out.nds hS hlt).mono ?_;rintro e w2⟨rfl,hh,hs2,hG2⟩;rw[hk.out]at hs2 ⊢;rw[hXx.out]at hh);refine callQ_normal ?_;repeat(quiet_step (fail))
   refine wpQuiet_nil ?_;intro _ hw';obtain⟨nq2,hw''⟩:=hw';subst hw'';have hb2:Blk w2 gb _ 231:=(hG2.block gb (show gb < (w.drewN _).heap.size from HB1.out.lt) (fun q=>q.elim HX.out.nbd HX.out.nbs)).trans HB1.out;clear p0 p1 p3 p4 f3 f4;have p3:=hb2.cell 3;have f3:=hb2.frozen 3;have HB2:=zH hb2;have HG2:=zH hG2;have HS2:=zH hs2;have HH:=zH hh;clear hb2 hG2 hs2 hh;go_wp2
   (try simp only[Exit.inBlock,Exit.then]);refine bodyPost_ret (results_none rfl _ _ _) rfl ?_
   have hbuf:Blk w2 gd (byteVs (T.take wr++X++T.drop (wr+k))).toArray 5:=by
    have h1:=(Blk.setCells (w:=w) (o:=wr) (X:=X) HX.out.buf (by rw[hXk.out,HX.out.len];omega));rw[hXk.out]at h1;exact(HH.out.trans (heap_setCells_congr (byteVs X) wr w _ rfl)).trans h1
   have hGf:Gr (fun k=>k=gb\/k=gd\/k=gs) w (World.setCell (World.drewN w2 nq2) ⟨gb,3,none⟩ (.int .i64 ((wr+k:Nat):Int))) :=
    gr_set0 ((((Gr.refl _ w).drw _).trans (HG2.out.mono fun _ _ q=>.inr q)).drw nq2) gb 3 _ (.inl rfl)
   refine⟨rfl,⟨wr+k,i+k,.nilIface,T.take wr++X++T.drop (wr+k),⟨⟨lb1,ls1,(Blk.set_ (w:=w2.drewN nq2) HB2.out 3 _).to (by simp)⟩,(Blk.setNe (w:=w2.drewN nq2) hbuf HX.out.nbd.symm),?_,?_,by omega,by omega,HX.out.nbd,HX.out.nbs,HX.out.nds⟩,?_,?_,?_,.inl ⟨rfl,by omega⟩⟩,hGf⟩
   ·have:=HX.out.len;have:=hXk.out;simp;omega
   ·exact(HS2.out.drewN nq2).gr (Gr.of_grown (grown_set _ gb 3 _)) (fun q=>HX.out.nbs (by injection q))
   ·exact fill_rest HX.out.len HFIN.out (by omega) hXx.out hXk.out
   ·rw[<-HFIN.out.1,List.append_assoc,List.take_append_of_le_length (by rw[List.length_take,HX.out.len];omega),List.take_of_length_le (by rw[List.length_take,HX.out.len];omega)]
   rw[<-HFIN.out.1,List.length_take];omega
  have hie:i=S.length:=by have:=HX.out.rd.1;omega
  go_wp2;refine wp_quiet_call 15 20 (by kernel_rfl) (by kernel_rfl) rfl ?_;simp only[List.take_succ_cons,List.take_zero,List.drop_succ_cons,List.drop_zero];repeat(quiet_step (fail))
  refine wpQuiet_nil ?_;intro _ hw';obtain⟨nq,hw''⟩:=hw';subst hw'';go_wp2_with (go_at_call 235;refine(c235n gs i gd wr (4096 - wr) (4096 - wr) S pE pF _ (HX.out.rd.drewN _) (HEX.out.drewN _) hrdc.out hrdf.out HX.out.nds hS hlt).mono ?_;rintro e w2⟨rfl,hG2⟩;unfold eofV);refine callQ_normal ?_;repeat(quiet_step (fail))
  refine wpQuiet_nil ?_;intro _ hw';obtain⟨nq2,hw''⟩:=hw';subst hw'';have hb2:Blk w2 gb _ 231:=(hG2.block gb (show gb < (w.drewN _).heap.size from HB1.out.lt)).trans HB1.out;clear p0 p1 p3 p4 f3 f4;have p3:=hb2.cell 3;have f3:=hb2.frozen 3;have p4:=hb2.cell 4;have f4:=hb2.frozen 4;have hw0:IntKind.i64.wrap ((wr:Int)+0)=(wr:Int):=by rw[Int.add_zero,IntWalk.i64_in _ (by omega)]
  have HB2:=zH hb2;have HG2:=zH hG2;clear hb2 hG2;go_wp2
  (try simp only[Exit.inBlock,Exit.then]);refine bodyPost_ret (results_none rfl _ _ _) rfl ?_
  have hGb:Gr (fun k=>k=gb\/k=gd\/k=gs) w (w2.drewN nq2):=(((Gr.refl _ w).drw _).trans (Gr.of_below HG2.out)).drw nq2;have hGf:Gr (fun k=>k=gb\/k=gd\/k=gs) w (World.setCell (World.setCell (World.drewN w2 nq2) ⟨gb,3,none⟩ (.int .i64 (wr:Int))) ⟨gb,4,none⟩ (.iface 235 (.pointer (some pE)))):=gr_set0 (gr_set0 hGb gb 3 _ (.inl rfl)) gb 4 _ (.inl rfl);have hGs:Gr (fun k=>k=gb) (w2.drewN nq2) (World.setCell (World.setCell (World.drewN w2 nq2) ⟨gb,3,none⟩ (.int .i64 (wr:Int))) ⟨gb,4,none⟩ (.iface 235 (.pointer (some pE)))):=gr_set0 (gr_set0 (Gr.refl (fun k=>k=gb) _) gb 3 _ rfl) gb 4 _ rfl;have hX2:BufAt (w2.drewN nq2) gb gd gs 0 wr i .nilIface T S:=HX.out.gr (Z:=fun _=>False) ((((Gr.refl _ w).drw _).trans (Gr.of_below HG2.out)).drw nq2) id id id;refine⟨rfl,⟨wr,i,eofV pE,T,⟨⟨lb1,ls1,((Blk.set_ (w:=w2.drewN nq2) HB2.out 3 _).set_ 4 _).to (by simp[eofV])⟩,(hGs.block gd hX2.buf.lt HX.out.nbd.symm).trans hX2.buf,HX.out.len,hX2.rd.gr hGs HX.out.nbs.symm,by omega,by omega,HX.out.nbd,HX.out.nbs,HX.out.nds⟩,?_,?_,?_,.inr ⟨rfl,hie,hie,HFIN.out.2.symm⟩⟩,hGf⟩
  ·rw[restOf,List.drop_zero,HFIN.out.1]
  ·rw[HFIN.out.2,HFIN.out.1]
  rw[HFIN.out.2];omega
 obtain⟨lb,ls,hb⟩:=h.blk;have p0:=hb.cell 0;have p2:=hb.cell 2;have p3:=hb.cell 3;have f2:=hb.frozen 2;have f3:=hb.frozen 3;obtain⟨D,hD⟩:∃D,Hid ((T.take wr).drop r=D):=⟨_,rfl⟩;obtain⟨n,hn⟩:∃n,Hid (n=wr - r):=⟨_,rfl⟩;have hDl:Hid (D.length=n):=by unfold Hid;rw[<-hD.out,hn.out,List.length_drop,List.length_take,h.len];omega
 have hDt:Hid (D.take 4096=D):=List.take_of_length_le (by have:=hDl.out;have:=hn.out;omega);have hRD:Hid (RdB w (.slice (sAd gd 0 r 4096) (wr - r) (4096 - r)) D):=by
  unfold Hid;rw[<-hD.out];exact RdB.sAd h.cell hle (by rw[h.len];exact hwl) (by rw[h.len];omega)
 have hsl:=slRun gd 0 4096 4096 r wr hle hwl;have hdc:Hid (∀j,j < 4096->(w.cell? ⟨gd,0+j,none⟩).isSome=true):=fun j hj=>by
  rw[h.buf.cell,List.getElem?_toArray,zG (by rw[byteVs_len,h.len];omega)];rfl
 have hdf:Hid (∀j,j < 4096->w.frozen? ⟨gd,0+j,none⟩=false):=fun j hj=>h.buf.frozen _
 have HH:=zH h;have HBB:=zH hb;have HE:=zH hE;have t0:(0:Int) < (r:Int):=by omega
 have e3:IntKind.i64.wrap ((wr:Int) - (r:Int))=(n:Int):=by have:=hn.out;rw[IntWalk.i64_in _ (by omega)];omega
 rw[hD.out];clear h hb hE;go_enter Tryz.func159,Tryz.ntmps159;go_upto_region 1 with fail
 generalize hbv:Value.slice (some ⟨gd,0,none⟩) 4096 4096=bv at p0 hsl
 refine wp_quiet_tail_lit 17 (by kernel_rfl) (by kernel_rfl) ?_;simp only[List.take_succ_cons,List.take_zero,List.drop_succ_cons,List.drop_zero];repeat(quiet_step (fail))
 refine wpQuiet_nil ?_;intro _ hw';obtain⟨nq,hw''⟩:=hw';subst hw'';refine wp_copyB rfl (.tmp 13) (.tmp 26) rfl gd 0 4096 4096 _ D hbv.symm rfl hRD.out D n hDt.out hDl.out hdc.out hdf.out ?_;have hBD:Hid (Blk ((w.drewN nq).setCells gd 0 (byteVs D)) gd (byteVs (D++T.drop n)).toArray 5):=by
  have h1:=Blk.setCells (w:=w.drewN nq) (o:=0) (X:=D) HH.out.buf (by rw[hDl.out,HH.out.len];have:=hn.out;omega);rw[List.take_zero,List.nil_append,Nat.zero_add,hDl.out]at h1;exact h1
 have hgs:=grown_sets gd (byteVs D) 0 (w.drewN nq);have hBG:Blk ((w.drewN nq).setCells gd 0 (byteVs D)) gb _ 231:=(hgs.block gb HBB.out.lt (fun q=>HH.out.nbd (Option.some.inj q))).trans HBB.out;have hSG:Hid (StrR ((w.drewN nq).setCells gd 0 (byteVs D)) gs i S):=(HH.out.rd.drewN nq).gr (Gr.of_grown hgs) (fun q=>HH.out.nds (by injection q));have hGG:Hid (Gr (fun k=>k=gb\/k=gd\/k=gs) w ((w.drewN nq).setCells gd 0 (byteVs D))):=((Gr.refl _ w).drw nq).trans ((Gr.of_grown hgs).mono fun _ _ q=>by injection q with q;exact .inr (.inl q.symm));clear p0 p2 p3 f2 f3 hgs hsl hdc hdf hRD;subst hbv;generalize (w.drewN nq).setCells gd 0 (byteVs D)=W1 at *
 have p2:=hBG.cell 2;have p3:=hBG.cell 3;have f2:=hBG.frozen 2;have f3:=hBG.frozen 3;have HBG:=zH hBG;clear hBG;go_wp2;refine wp_quiet_tail_lit 11 (by kernel_rfl) (by kernel_rfl) ?_;simp only[List.take_succ_cons,List.take_zero,List.drop_succ_cons,List.drop_zero];repeat(quiet_step (fail))
 refine wpQuiet_nil ?_;intro _ hw';obtain⟨nq1,hw''⟩:=hw';subst hw'';go_upto_region 4 with fail
 have hBG2:Blk (World.setCell (World.setCell (W1.drewN nq1) ⟨gb,3,none⟩ (.int .i64 (n:Int))) ⟨gb,2,none⟩ (.int .i64 0)) gb #[.slice (some ⟨gd,0,none⟩) 4096 4096,.iface 71 (.pointer (some ⟨gs,0,none⟩)),.int .i64 0,.int .i64 (n:Int),.nilIface,.int .i64 lb,.int .i64 ls] 231 :=
  ((Blk.set_ (w:=W1.drewN nq1) HBG.out 3 _).set_ 2 _).to (by simp)
 have hGs:Gr (fun k=>k=gb) (W1.drewN nq1) (World.setCell (World.setCell (W1.drewN nq1) ⟨gb,3,none⟩ (.int .i64 (n:Int))) ⟨gb,2,none⟩ (.int .i64 0)):=gr_set0 (gr_set0 (Gr.refl (fun k=>k=gb) _) gb 3 _ rfl) gb 2 _ rfl;have hBD2:=(hGs.block gd (show gd < (W1.drewN nq1).heap.size from hBD.out.lt) HH.out.nbd.symm).trans hBD.out;have hG1:=(hGG.out.drw nq1).trans (hGs.mono fun _ _ q=>.inl q);have hT1l:(D++T.drop n).length=4096:=by rw[zA,hDl.out,List.length_drop,HH.out.len];have:=hn.out;omega
 have hX:BufAt (World.setCell (World.setCell (W1.drewN nq1) ⟨gb,3,none⟩ (.int .i64 (n:Int))) ⟨gb,2,none⟩ (.int .i64 0)) gb gd gs 0 n i .nilIface (D++T.drop n) S :=
  ⟨⟨lb,ls,hBG2⟩,hBD2,hT1l,(hSG.out.drewN nq1).gr hGs HH.out.nbs.symm,by omega,by have:=hn.out;omega,HH.out.nbd,HH.out.nbs,HH.out.nds⟩
 have HFIN:Hid ((D++T.drop n).take n=D/\D.length=n):=⟨by rw[List.take_left' hDl.out],hDl.out⟩;have HEX:Hid (Errs (World.setCell (World.setCell (W1.drewN nq1) ⟨gb,3,none⟩ (.int .i64 (n:Int))) ⟨gb,2,none⟩ (.int .i64 0)) pE pF):=HE.out.gr hG1 (fun k hk q=>by omega);have HG1:=zH hG1;have hroom2:n < 4096:=by have:=hn.out;omega
 clear p2 p3 f2 f3 hBG2 hGs hBD2 hG1 e3 hroom HE HBG HBB hBD hSG hGG;generalize World.setCell (World.setCell (W1.drewN nq1) ⟨gb,3,none⟩ (.int .i64 (n:Int))) ⟨gb,2,none⟩ (.int .i64 0)=Wx at *
 generalize D++T.drop n=T1 at *
 clear hn HH;obtain⟨lb1,ls1,hb1⟩:=hX.blk;have p0:=hb1.cell 0;have p1:=hb1.cell 1;have p3:=hb1.cell 3;have p4:=hb1.cell 4;have f3:=hb1.frozen 3;have f4:=hb1.frozen 4;have HX:=zH hX;have HB1:=zH hb1;have a1:¬((4096:Int)<=(n:Int)):=by omega
 have a2:(0:Int)<=(n:Int):=by omega
 have a3:(n:Int)<=4096:=by omega
 have a4:¬(4096:Nat)=n:=by omega
 have hrdc:Hid (∀j,j < 4096 - n->(Wx.cell? ⟨gd,n+j,none⟩).isSome=true):=fun j hj=>by
  rw[hX.buf.cell,List.getElem?_toArray,zG (by rw[byteVs_len,hX.len];omega)];rfl
 have hrdf:Hid (∀j,j < 4096 - n->Wx.frozen? ⟨gd,n+j,none⟩=false):=fun j hj=>hX.buf.frozen _
 clear hX hb1;go_quiet (fail)
 go_wp2;go_loopg [2] 0 (fun g v w'=>v=.int .i64 100/\∃m,w'=Wx.drewN m)
 case atStart=>exact⟨rfl,_,rfl⟩
 obtain⟨rfl,nm,rfl⟩:=hrel;by_cases hlt:i < S.length
 ·obtain⟨X,hXx⟩:∃X,Hid ((S.drop i).take (4096 - n)=X):=⟨_,rfl⟩
  obtain⟨k,hk⟩:∃k,Hid (min (4096 - n) (S.length - i)=k):=⟨_,rfl⟩;have hXk:Hid (X.length=k):=by unfold Hid;rw[<-hXx.out,<-hk.out,List.length_take,List.length_drop]
  have hkn:0 < k/\n+k<=4096/\i+k<=S.length:=by have:=hk.out;omega
  have b1:¬((k:Int) < 0):=by omega
  have b2:(0:Int) < (k:Int):=by omega
  have b3:IntKind.i64.wrap ((n:Int)+(k:Int))=((n+k:Nat):Int):=by rw[IntWalk.i64_in _ (by omega)];omega
  go_wp2;refine wp_quiet_call 15 20 (by kernel_rfl) (by kernel_rfl) rfl ?_;simp only[List.take_succ_cons,List.take_zero,List.drop_succ_cons,List.drop_zero];repeat(quiet_step (fail))
  refine wpQuiet_nil ?_;intro _ hw';obtain⟨nq,hw''⟩:=hw';subst hw'';go_wp2_with (go_at_call 235;refine(c235y gs i gd n (4096 - n) (4096 - n) S pE pF _ (HX.out.rd.drewN _) (HEX.out.drewN _) hrdc.out hrdf.out HX.out.nds hS hlt).mono ?_;rintro e w2⟨rfl,hh,hs2,hG2⟩;rw[hk.out]at hs2 ⊢;rw[hXx.out]at hh);refine callQ_normal ?_;repeat(quiet_step (fail))
  refine wpQuiet_nil ?_;intro _ hw';obtain⟨nq2,hw''⟩:=hw';subst hw'';have hb2:Blk w2 gb _ 231:=(hG2.block gb (show gb < (Wx.drewN _).heap.size from HB1.out.lt) (fun q=>q.elim HX.out.nbd HX.out.nbs)).trans HB1.out;clear p0 p1 p3 p4 f3 f4;have p3:=hb2.cell 3;have f3:=hb2.frozen 3;have HB2:=zH hb2;have HG2:=zH hG2;have HS2:=zH hs2;have HH:=zH hh;clear hb2 hG2 hs2 hh;go_wp2
  (try simp only[Exit.inBlock,Exit.then]);refine bodyPost_ret (results_none rfl _ _ _) rfl ?_
  have hbuf:Blk w2 gd (byteVs (T1.take n++X++T1.drop (n+k))).toArray 5:=by
   have h1:=(Blk.setCells (w:=Wx) (o:=n) (X:=X) HX.out.buf (by rw[hXk.out,HX.out.len];omega));rw[hXk.out]at h1;exact(HH.out.trans (heap_setCells_congr (byteVs X) n Wx _ rfl)).trans h1
  have hGf:Gr (fun k=>k=gb\/k=gd\/k=gs) Wx (World.setCell (World.drewN w2 nq2) ⟨gb,3,none⟩ (.int .i64 ((n+k:Nat):Int))) :=
   gr_set0 ((((Gr.refl _ Wx).drw _).trans (HG2.out.mono fun _ _ q=>.inr q)).drw nq2) gb 3 _ (.inl rfl)
  refine⟨rfl,⟨n+k,i+k,.nilIface,T1.take n++X++T1.drop (n+k),⟨⟨lb1,ls1,(Blk.set_ (w:=w2.drewN nq2) HB2.out 3 _).to (by simp)⟩,(Blk.setNe (w:=w2.drewN nq2) hbuf HX.out.nbd.symm),?_,?_,by omega,by omega,HX.out.nbd,HX.out.nbs,HX.out.nds⟩,?_,?_,?_,.inl ⟨rfl,by omega⟩⟩,(HG1.out.trans hGf)⟩
  ·have:=HX.out.len;have:=hXk.out;simp;omega
  ·exact(HS2.out.drewN nq2).gr (Gr.of_grown (grown_set _ gb 3 _)) (fun q=>HX.out.nbs (by injection q))
  ·exact fill_rest HX.out.len HFIN.out (by omega) hXx.out hXk.out
  ·rw[<-HFIN.out.1,List.append_assoc,List.take_append_of_le_length (by rw[List.length_take,HX.out.len];omega),List.take_of_length_le (by rw[List.length_take,HX.out.len];omega)]
  rw[<-HFIN.out.1,List.length_take];omega
 have hie:i=S.length:=by have:=HX.out.rd.1;omega
 go_wp2;refine wp_quiet_call 15 20 (by kernel_rfl) (by kernel_rfl) rfl ?_;simp only[List.take_succ_cons,List.take_zero,List.drop_succ_cons,List.drop_zero];repeat(quiet_step (fail))
 refine wpQuiet_nil ?_;intro _ hw';obtain⟨nq,hw''⟩:=hw';subst hw'';go_wp2_with (go_at_call 235;refine(c235n gs i gd n (4096 - n) (4096 - n) S pE pF _ (HX.out.rd.drewN _) (HEX.out.drewN _) hrdc.out hrdf.out HX.out.nds hS hlt).mono ?_;rintro e w2⟨rfl,hG2⟩;unfold eofV);refine callQ_normal ?_;repeat(quiet_step (fail))
 refine wpQuiet_nil ?_;intro _ hw';obtain⟨nq2,hw''⟩:=hw';subst hw'';have hb2:Blk w2 gb _ 231:=(hG2.block gb (show gb < (Wx.drewN _).heap.size from HB1.out.lt)).trans HB1.out;clear p0 p1 p3 p4 f3 f4;have p3:=hb2.cell 3;have f3:=hb2.frozen 3;have p4:=hb2.cell 4;have f4:=hb2.frozen 4;have hw0:IntKind.i64.wrap ((n:Int)+0)=(n:Int):=by rw[Int.add_zero,IntWalk.i64_in _ (by omega)]
 have HB2:=zH hb2;have HG2:=zH hG2;clear hb2 hG2;go_wp2
 (try simp only[Exit.inBlock,Exit.then]);refine bodyPost_ret (results_none rfl _ _ _) rfl ?_
 have hGb:Gr (fun k=>k=gb\/k=gd\/k=gs) Wx (w2.drewN nq2):=(((Gr.refl _ Wx).drw _).trans (Gr.of_below HG2.out)).drw nq2;have hGf:Gr (fun k=>k=gb\/k=gd\/k=gs) Wx (World.setCell (World.setCell (World.drewN w2 nq2) ⟨gb,3,none⟩ (.int .i64 (n:Int))) ⟨gb,4,none⟩ (.iface 235 (.pointer (some pE)))):=gr_set0 (gr_set0 hGb gb 3 _ (.inl rfl)) gb 4 _ (.inl rfl);have hGs:Gr (fun k=>k=gb) (w2.drewN nq2) (World.setCell (World.setCell (World.drewN w2 nq2) ⟨gb,3,none⟩ (.int .i64 (n:Int))) ⟨gb,4,none⟩ (.iface 235 (.pointer (some pE)))):=gr_set0 (gr_set0 (Gr.refl (fun k=>k=gb) _) gb 3 _ rfl) gb 4 _ rfl;have hX2:BufAt (w2.drewN nq2) gb gd gs 0 n i .nilIface T1 S:=HX.out.gr (Z:=fun _=>False) ((((Gr.refl _ Wx).drw _).trans (Gr.of_below HG2.out)).drw nq2) id id id;refine⟨rfl,⟨n,i,eofV pE,T1,⟨⟨lb1,ls1,((Blk.set_ (w:=w2.drewN nq2) HB2.out 3 _).set_ 4 _).to (by simp[eofV])⟩,(hGs.block gd hX2.buf.lt HX.out.nbd.symm).trans hX2.buf,HX.out.len,hX2.rd.gr hGs HX.out.nbs.symm,by omega,by omega,HX.out.nbd,HX.out.nbs,HX.out.nds⟩,?_,?_,?_,.inr ⟨rfl,hie,hie,HFIN.out.2.symm⟩⟩,(HG1.out.trans hGf)⟩
 ·rw[restOf,List.drop_zero,HFIN.out.1]
 ·rw[HFIN.out.2,HFIN.out.1]
 rw[HFIN.out.2];omega
noncomputable def loop145(k:Nat):Code:=(((Tryz.f145.body.map loopsOf).getD [])[k]?).getD .skip
def errOk(err:Value)(i:Nat)(S:List UInt8)(pE:Addr):Prop:=err=.nilIface\/(err=eofV pE/\i=S.length)
def RSPost(w':World)(gb gd gs:Nat)(rest S:List UInt8)(pE pF:Addr)(lv ev:Value):Prop :=
 ∃o n c line r' wr' i' err' T',lv=.slice (some ⟨gd,o,none⟩) n c/\line.length=n/\n<=c/\n<=4096/\(∀(j:Nat) (x:UInt8),line[j]?=some x->w'.cell? ⟨gd,o+j,none⟩=some (byteV x)) /\
  BufAt w' gb gd gs r' wr' i' err' T' S/\errOk err' i' S pE /\
  ((cutF 10 rest=true/\line=cutA 10 rest++[10]/\ev=.nilIface/\restOf r' wr' i' T' S=cutZ 10 rest) \/
   (cutF 10 line=false/\n=4096/\ev=.iface 235 (.pointer (some pF))/\rest=line++S.drop i'/\r'=4096/\wr'=4096/\T'=line) \/
   (cutF 10 rest=false/\line=rest/\ev=eofV pE/\restOf r' wr' i' T' S=[]))
theorem BufAt.drewN{w:World}{gb gd gs r q i:Nat}{err:Value}{T S:List UInt8}(h:BufAt w gb gd gs r q i err T S)(n:Nat):BufAt (w.drewN n) gb gd gs r q i err T S:=⟨h.blk,h.buf,h.len,h.rd,h.le,h.wle,h.nbd,h.nbs,h.nds⟩
theorem BufAt.setR{w:World}{gb gd gs r q i m:Nat}{err:Value}{T S:List UInt8}(h:BufAt w gb gd gs r q i err T S)(hm:m<=q):BufAt (w.setCell ⟨gb,2,none⟩ (.int .i64 (m:Int))) gb gd gs m q i err T S:=by
 obtain⟨lb,ls,hb⟩:=h.blk;have hG:=grown_set w gb 2 (.int .i64 (m:Int));exact⟨⟨lb,ls,(hb.set_ 2 _).to (by simp)⟩,h.buf.setNe h.nbd.symm,h.len,h.rd.gr (Gr.of_grown hG) (fun q=>h.nbs (Option.some.inj q)),hm,h.wle,h.nbd,h.nbs,h.nds⟩
theorem rs_pure{D X:List UInt8}{sN k:Nat}(hnf:cutF 10 (D.take sN)=false)(hf:cutF 10 (D.drop sN)=true)(hk:(cutA 10 (D.drop sN)).length=k)(hs:sN<=D.length) :
  cutF 10 (D++X)=true/\D.take (sN+k+1)=cutA 10 (D++X)++[10]/\D.drop (sN+k+1)++X=cutZ 10 (D++X):=by
 obtain⟨a1,a2,a3⟩:=cut_appNo hnf (D.drop sN);rw[List.take_append_drop]at a1 a2 a3;rw[hf]at a1;obtain⟨b1,b2,b3⟩:=cut_appYes a1 X;have hj:=cut_join a1;have hl:(cutA 10 D).length=sN+k:=by rw[a2,zA,List.length_take,hk];omega
 refine⟨b1,?_,?_⟩
 ·rw[b2]
  conv=>lhs;rw[hj]
  rw[List.take_append,hl];simp[List.take_of_length_le,hl]
 rw[b3];congr 1
 conv=>lhs;rw[hj]
 rw[List.drop_append,hl];simp[List.drop_of_length_le,hl]
theorem rs_none{D:List UInt8}{sN:Nat}(hnf:cutF 10 (D.take sN)=false)(hf:cutF 10 (D.drop sN)=false):cutF 10 D=false:=by
 obtain⟨a1,_,_⟩:=cut_appNo hnf (D.drop sN);rw[List.take_append_drop,hf]at a1;exact a1
theorem seg_cell{w:World}{gd r q:Nat}{T D:List UInt8}(hc:∀(j:Nat) (x:UInt8),T[j]?=some x->w.cell? ⟨gd,0+j,none⟩=some (byteV x))(hD:(T.take q).drop r=D)(o:Nat)(ho:0 < D.length->o=r)(j:Nat)(x:UInt8)(hx:D[j]?=some x):w.cell? ⟨gd,o+j,none⟩=some (byteV x):=by
 have hj:=(List.getElem?_eq_some_iff.1 hx).1;rw[ho (by omega)];rw[<-hD,List.getElem?_drop,List.getElem?_take]at hx;split at hx
 ·have:=hc _ x hx;rwa [Nat.zero_add]at this
 cases hx
theorem l145(f2 f3 f7 f8 f9 f10 f11 f12 f13 f14 f15 f16 f17 f18 f19 f20 f21 f22 f23 f24 f25 f26 f27 f28 f29 f30 f31 f32 f33 f34 f35 f36 f37 f38 f39 f40 f41 f42 f43 f44 f45 f46 f47 f48 f49 f50 f51 f52 f53 f54 f55 f56 f57 f58 f59 f60 f61 f62 f63 f64 f65 f66 f67 f68 f69 f70 f71 f72 f73 f74 f75 f76 f77 f78 f79 f80 f81 f82 f83 f84 f85 f86 f87 f88 f89 f90 f91 f92 f93 f94 f95 f96 f97 f98 f99 f100 f101 f102 f103 f104 f105 f106 f107 f108 f109 f110 f111 f112 f113 f114 f115 f116 f117 f118 f119 f120 f121 f122 f123 f124 f125 f126 f127 f128 f129:Value)(Q:Exit->Act->World->Prop)(c:Code)(hc:c=loop145 0)(gb gd gs r0 q0 i0:Nat)(err:Value)(T S:List UInt8)(pE pF:Addr)(w:World)
  (h:BufAt w gb gd gs r0 q0 i0 err T S)(hok:errOk err i0 S pE)(hE:Errs w pE pF)(hS:S.length<=1099511627776)(h3:errTop pE pF < gb/\errTop pE pF < gd/\errTop pE pF < gs)
  (hexit:∀(lv ev:Value) (u6 u7 u9 u10 u11 u12 u13 u14 u15 u16 u17 u18 u19 u20 u21 u22 u23 u24 u25 u26 u27 u28 u29 u30 u31 u32 u33 u34 u35 u36 u37 u38 u39 u40 u41 u42 u43 u44 u45 u46 u47 u48 u49 u50 u51 u52 u53 u54 u55 u56 u57 u58 u59 u60 u61 u62 u63 u64 u65 u66 u67 u68 u69 u70 u71 u72 u73 u74 u75 u76 u77 u78 u79 u80 u81 u82 u83 u84 u85 u86 u87 u88 u89 u90 u91 u92 u93 u94 u95 u96 u97 u98 u99 u100 u101 u102 u103 u104 u105 u106 u107 u108 u109 u110 u111 u112 u113:Value) (w':World),RSPost w' gb gd gs (restOf r0 q0 i0 T S) S pE pF lv ev->Gr (fun k=>k=gb\/k=gd\/k=gs) w w'->Q (.exit 0) ⟨((.pointer (some ⟨gb,0,none⟩))::(.int .u8 10)::f2::f3::(lv)::(ev)::u6::u7::f8::u9::u10::u11::u12::u13::u14::u15::u16::u17::u18::u19::u20::u21::u22::u23::u24::u25::u26::u27::u28::u29::u30::u31::u32::u33::u34::u35::u36::u37::u38::u39::u40::u41::u42::u43::u44::u45::u46::u47::u48::u49::u50::u51::u52::u53::u54::u55::u56::u57::u58::u59::u60::u61::u62::u63::u64::u65::u66::u67::u68::u69::u70::u71::u72::u73::u74::u75::u76::u77::u78::u79::u80::u81::u82::u83::u84::u85::u86::u87::u88::u89::u90::u91::u92::u93::u94::u95::u96::u97::u98::u99::u100::u101::u102::u103::u104::u105::u106::u107::u108::u109::u110::u111::u112::u113::f114::f115::f116::f117::f118::f119::f120::f121::f122::f123::f124::f125::f126::f127::f128::f129::[]).toArray,[]⟩ w') :
  Code.wp Tryz.prog (Code.loop c) Q ⟨((.pointer (some ⟨gb,0,none⟩))::(.int .u8 10)::f2::f3::(.slice none 0 0)::(.nilIface)::(.int .i64 0)::f7::f8::f9::f10::f11::f12::f13::f14::f15::f16::f17::f18::f19::f20::f21::f22::f23::f24::f25::f26::f27::f28::f29::f30::f31::f32::f33::f34::f35::f36::f37::f38::f39::f40::f41::f42::f43::f44::f45::f46::f47::f48::f49::f50::f51::f52::f53::f54::f55::f56::f57::f58::f59::f60::f61::f62::f63::f64::f65::f66::f67::f68::f69::f70::f71::f72::f73::f74::f75::f76::f77::f78::f79::f80::f81::f82::f83::f84::f85::f86::f87::f88::f89::f90::f91::f92::f93::f94::f95::f96::f97::f98::f99::f100::f101::f102::f103::f104::f105::f106::f107::f108::f109::f110::f111::f112::f113::f114::f115::f116::f117::f118::f119::f120::f121::f122::f123::f124::f125::f126::f127::f128::f129::[]).toArray,[]⟩ w:=by
 subst hc;conv=>arg 2;arg 1;whnf
 have HEX:=zH hexit;have HE:=zH hE;obtain⟨rest,hrest⟩:∃rest,Hid (restOf r0 q0 i0 T S=rest):=⟨_,rfl⟩;rw[hrest.out]at HEX;have H0:=zH h;have HK:=zH hok;clear hexit hE h hok;go_loopg [5,6] (2*(S.length - i0)+1) (fun g v5 v w'=>∃(sN r1 q1 i1:Nat) (err1:Value) (T1:List UInt8),v5=.nilIface/\v=.int .i64 (sN:Int)/\Hid (BufAt w' gb gd gs r1 q1 i1 err1 T1 S/\errOk err1 i1 S pE/\restOf r1 q1 i1 T1 S=rest/\sN<=q1 - r1/\cutF 10 (((T1.take q1).drop r1).take sN)=false /\
  Gr (fun k=>k=gb\/k=gd\/k=gs) w w'/\(err1=.nilIface->2*(S.length - i1)+1<=g)/\2*(S.length - i1)<=g))
 case atStart=>exact⟨0,r0,q0,i0,err,T,rfl,rfl,H0.out,HK.out,hrest.out,Nat.zero_le _,rfl,Gr.refl _ _,fun _=>zR _,by omega⟩
 obtain⟨sN,r1,q1,i1,err1,T1,rfl,rfl,HI⟩:=hrel;obtain⟨hB,hok,hrs,hsN,hnf,hG,hm1,hm2⟩:=HI.out;have hle:=hB.le;have hwl:=hB.wle;have hilen:=hB.rd.1;obtain⟨lb,ls,hb⟩:=hB.blk;have p0:=hb.cell 0;have p2:=hb.cell 2;have p3:=hb.cell 3;have p4:=hb.cell 4;have f2:=hb.frozen 2;have f4:=hb.frozen 4;obtain⟨D,hD⟩:∃D,Hid ((T1.take q1).drop r1=D):=⟨_,rfl⟩;have hDl:Hid (D.length=q1 - r1):=by unfold Hid;rw[<-hD.out,List.length_drop,List.length_take,hB.len];omega
 have HRD:Hid (RdB wr (.slice (sAd gd 0 (r1+sN) 4096) (q1 - (r1+sN)) (4096 - (r1+sN))) (D.drop sN)):=by
  unfold Hid;rw[<-hD.out,List.drop_drop];exact RdB.sAd hB.cell (by omega) (by rw[hB.len];exact hwl) (by rw[hB.len];omega)
 rw[hD.out]at hnf;have hrest2:Hid (rest=D++S.drop i1):=by unfold Hid;rw[<-hrs,restOf,hD.out]
 have HB:=zH hB;have HBB:=zH hb;have HNF:=zH hnf;have HG:=zH hG;have HM:=zH (And.intro hm1 hm2);obtain⟨rs,hrs2⟩:∃rs,Hid (rs=r1+sN):=⟨_,rfl⟩;rw[<-hrs2.out]at HRD;have hrsb:rs<=q1:=by have:=hrs2.out;omega
 have hsl:=slRun gd 0 4096 4096 rs q1 hrsb hwl;have eA:IntKind.i64.wrap ((r1:Int)+(sN:Int))=(rs:Int):=by have:=hrs2.out;rw[IntWalk.i64_in _ (by omega)];omega
 have hHE:Hid (Errs wr pE pF):=HE.out.gr hG (fun k hk q=>by omega);clear hB hrs hnf hG hm1 hm2 hb HI;by_cases hf:cutF 10 (D.drop sN)=true
 ·obtain⟨k,hk⟩:∃k,Hid ((cutA 10 (D.drop sN)).length=k):=⟨_,rfl⟩
  have hidx:Hid (idx 10 (D.drop sN)=(k:Int)):=by unfold Hid;rw[idx_yes hf,hk.out]
  have hkD:sN+k+1<=q1 - r1:=by
   have h1:=cut_len 10 _ hf;rw[hk.out,List.length_drop,hDl.out]at h1;omega
  obtain⟨K,hK⟩:∃K,Hid (K=sN+k):=⟨_,rfl⟩;obtain⟨K1,hK1⟩:∃K1,Hid (K1=K+1):=⟨_,rfl⟩;obtain⟨m,hm⟩:∃m,Hid (m=r1+K1):=⟨_,rfl⟩;have hbd:K1<=q1 - r1:=by have:=hK.out;have:=hK1.out;omega
  have e1:IntKind.i64.wrap ((k:Int)+(sN:Int))=(K:Int):=by have:=hK.out;rw[IntWalk.i64_in _ (by omega)];omega
  have e2:IntKind.i64.wrap (IntKind.i64.wrap ((r1:Int)+(K:Int))+1)=(m:Int):=by have:=hm.out;have:=hK1.out;rw[IntWalk.i64_in ((r1:Int)+(K:Int)) (by omega),IntWalk.i64_in _ (by omega)];omega
  have e3:IntKind.i64.wrap ((K:Int)+1)=(K1:Int):=by have:=hK1.out;rw[IntWalk.i64_in _ (by omega)];omega
  have e4:IntKind.i64.wrap ((r1:Int)+(K1:Int))=(m:Int):=by have:=hm.out;rw[IntWalk.i64_in _ (by omega)];omega
  have hsl2:∀W,(Instr.slice 33 (.slice (some ⟨gd,0,none⟩) 4096 4096) (some (.int .i64 (r1:Int))) (some (.int .i64 (m:Int))) none).run Tryz.prog W=.ok (.slice (some ⟨gd,r1,none⟩) K1 (4096 - r1)) W:=fun W=>by
   have:=hm.out;rw[slRun gd 0 4096 4096 r1 m (by omega) (by omega)];unfold sAd;rw[if_neg (by omega),show m - r1=K1 by omega,Nat.zero_add]
  have t0:(0:Int)<=(k:Int):=by omega
  have HF:=zH hf;clear hf;generalize hbv:Value.slice (some ⟨gd,0,none⟩) 4096 4096=bv at p0 hsl hsl2
  go_wp2;refine wp_quiet_call 16 17 (by kernel_rfl) (by kernel_rfl) rfl ?_;simp only[List.take_succ_cons,List.take_zero,List.drop_succ_cons,List.drop_zero];repeat(quiet_step (fail))
  refine wpQuiet_nil ?_;intro _ hw';obtain⟨nq,hw''⟩:=hw';subst hw'';go_wp2_with (go_at_call 156;refine(c156 _ _ _ (D.drop sN) _ (HRD.out.drewN nq)).mono ?_;rintro e w2⟨rfl,rfl⟩;rw[hidx.out]);refine callQ_normal ?_;repeat(quiet_step (fail))
  refine wpQuiet_nil ?_;intro _ hw';obtain⟨nq2,hw''⟩:=hw';subst hw'';go_wp2;go_quiet (fail)
  subst hbv;go_wp2;have hP:=rs_pure (X:=S.drop i1) HNF.out HF.out hk.out (by rw[hDl.out];exact hsN);rw[<-hrest2.out,<-hK.out,<-hK1.out]at hP;refine HEX.out _ _ _ _ _ _ _ _ _ _ _ _ _ _ _ _ _ _ _ _ _ _ _ _ _ _ _ _ _ _ _ _ _ _ _ _ _ _ _ _ _ _ _ _ _ _ _ _ _ _ _ _ _ _ _ _ _ _ _ _ _ _ _ _ _ _ _ _ _ _ _ _ _ _ _ _ _ _ _ _ _ _ _ _ _ _ _ _ _ _ _ _ _ _ _ _ _ _ _ _ _ _ _ _ _ _ _ _ _ _ ⟨r1,K1,4096 - r1,D.take K1,m,q1,i1,err1,T1,rfl,by rw[List.length_take,hDl.out];omega,by omega,by omega,fun j x hx=>?_,(HB.out.drewN _).setR (by have:=hm.out;omega),hok,.inl ⟨hP.1,hP.2.1,rfl,?_⟩⟩ ?_
  ·refine(cell_setNe _ (fun q=>HB.out.nbd q.symm)).trans (seg_cell (w:=wr) HB.out.cell hD.out r1 (fun _=>rfl) j x ?_)
   rw[List.getElem?_take]at hx;split at hx
   ·exact hx
   cases hx
  ·rw[restOf,hm.out,<-List.drop_drop,hD.out];exact hP.2.2
  exact gr_set0 (HG.out.drw _) gb 2 _ (.inl rfl)
 have hf2:cutF 10 (D.drop sN)=false:=by simpa using hf
 have hidx:Hid (idx 10 (D.drop sN)=-1):=idx_no hf2;have HDF:=zH (rs_none HNF.out hf2);have HOK:=zH hok;clear hf hf2;rcases hok with he|⟨he,hie⟩
 ·subst he
  by_cases hfull:4096<=q1 - r1
  ·have hr0':Hid (r1=0):=by unfold Hid;omega
   have hq0':Hid (q1=4096):=by unfold Hid;omega
   have t1:(4096:Int)<=((q1 - r1:Nat):Int):=by omega
   have hgf:=hHE.out.full;have hDT:Hid (D=T1):=by unfold Hid;rw[<-hD.out,hr0'.out,hq0'.out,List.drop_zero,List.take_of_length_le (by rw[HB.out.len];exact zR _)]
   generalize hbv:Value.slice (some ⟨gd,0,none⟩) 4096 4096=bv at p0 hsl
   go_wp2;refine wp_quiet_call 16 17 (by kernel_rfl) (by kernel_rfl) rfl ?_;simp only[List.take_succ_cons,List.take_zero,List.drop_succ_cons,List.drop_zero];repeat(quiet_step (fail))
   refine wpQuiet_nil ?_;intro _ hw';obtain⟨nq,hw''⟩:=hw';subst hw'';go_wp2_with (go_at_call 156;refine(c156 _ _ _ (D.drop sN) _ (HRD.out.drewN nq)).mono ?_;rintro e w2⟨rfl,rfl⟩;rw[hidx.out]);refine callQ_normal ?_;repeat(quiet_step (fail))
   refine wpQuiet_nil ?_;intro _ hw';obtain⟨nq2,hw''⟩:=hw';subst hw'';subst hbv;go_wp2;go_quiet (refine quiet_add (c158 gb gd gs r1 q1 i1 .nilIface T1 S _ (HB.out.drewN _)))
   go_wp2;refine HEX.out _ _ _ _ _ _ _ _ _ _ _ _ _ _ _ _ _ _ _ _ _ _ _ _ _ _ _ _ _ _ _ _ _ _ _ _ _ _ _ _ _ _ _ _ _ _ _ _ _ _ _ _ _ _ _ _ _ _ _ _ _ _ _ _ _ _ _ _ _ _ _ _ _ _ _ _ _ _ _ _ _ _ _ _ _ _ _ _ _ _ _ _ _ _ _ _ _ _ _ _ _ _ _ _ _ _ _ _ _ _ ⟨0,4096,4096,D,4096,4096,i1,.nilIface,T1,rfl,by rw[hDl.out];omega,by omega,by omega,fun j x hx=>?_,?_,.inl rfl,.inr (.inl ⟨HDF.out,rfl,rfl,hrest2.out,rfl,rfl,hDT.out.symm⟩)⟩ ?_
   ·refine(cell_setNe _ (fun q=>HB.out.nbd q.symm)).trans (seg_cell (w:=wr) HB.out.cell hD.out 0 (fun _=>hr0'.out.symm) j x hx)
   ·have h1:=fun n=>(HB.out.drewN n).setR (zR q1)
    simp only[hq0'.out]at h1 ⊢;exact h1 _
   exact gr_set0 (HG.out.drw _) gb 2 _ (.inl rfl)
  have t1:¬((4096:Int)<=((q1 - r1:Nat):Int)):=by omega
  obtain⟨sD,hsD⟩:∃sD,Hid (sD=q1 - r1):=⟨_,rfl⟩;have e5:IntKind.i64.wrap ((q1:Int) - (r1:Int))=(sD:Int):=by have:=hsD.out;rw[IntWalk.i64_in _ (by omega)];omega
  generalize hbv:Value.slice (some ⟨gd,0,none⟩) 4096 4096=bv at p0 hsl
  go_wp2;refine wp_quiet_call 16 17 (by kernel_rfl) (by kernel_rfl) rfl ?_;simp only[List.take_succ_cons,List.take_zero,List.drop_succ_cons,List.drop_zero];repeat(quiet_step (fail))
  refine wpQuiet_nil ?_;intro _ hw';obtain⟨nq,hw''⟩:=hw';subst hw'';go_wp2_with (go_at_call 156;refine(c156 _ _ _ (D.drop sN) _ (HRD.out.drewN nq)).mono ?_;rintro e w2⟨rfl,rfl⟩;rw[hidx.out]);refine callQ_normal ?_;repeat(quiet_step (fail))
  refine wpQuiet_nil ?_;intro _ hw';obtain⟨nq2,hw''⟩:=hw';subst hw'';subst hbv;go_wp2;go_quiet (refine quiet_add (c158 gb gd gs r1 q1 i1 .nilIface T1 S _ (HB.out.drewN _)))
  go_wp2;go_quiet (fail)
  go_wp2_with (go_at_call 159;refine(c159 gb gd gs r1 q1 i1 T1 S pE pF _ (HB.out.drewN _) (hHE.out.drewN _) (by omega) hS h3).mono ?_;rintro e w3⟨rfl,hF3,hG3⟩);rw[hD.out]at hF3;obtain⟨q2,i2,err2,T2,hB2,hr2,ht2,hle2,hc2⟩:=hF3;have hG4:=(HG.out.drw _).trans hG3;have hm1:2*(S.length - i1)+1<=gk:=by first|exact HM.out.1 rfl|exact HM.out.1 trivial
  have hi2:=hB2.rd.1;have hnew:Hid (BufAt w3 gb gd gs 0 q2 i2 err2 T2 S/\errOk err2 i2 S pE/\restOf 0 q2 i2 T2 S=rest/\sD<=q2 - 0/\cutF 10 (((T2.take q2).drop 0).take sD)=false/\Gr (fun k=>k=gb\/k=gd\/k=gs) w w3/\(err2=.nilIface->2*(S.length - i2)+1<=gk - 1)/\2*(S.length - i2)<=gk - 1):=by
   have hsl2:sD=D.length:=by rw[hsD.out,hDl.out]
   refine⟨hB2,?_,by rw[hr2];exact hrest2.out.symm,by omega,?_,hG4,fun he=>?_,?_⟩
   ·rcases hc2 with⟨h,_⟩|⟨h,h2,_⟩
    ·exact .inl h
    exact .inr ⟨h,h2⟩
   ·rw[List.drop_zero,List.take_take,Nat.min_eq_left (by omega),hsl2,ht2];exact HDF.out
   ·rcases hc2 with⟨h,h2⟩|⟨h,h2,_⟩
    ·omega
    rw[h]at he;unfold eofV at he;cases he
   rcases hc2 with⟨h,h2⟩|⟨h,h2,_⟩
   ·omega
   omega
  have hgk:0 < gk:=by omega
  clear hB2 hr2 ht2 hle2 hc2 hG4 hm1 hG3 p0 p2 p3 p4 f2 f4;go_roundg (gk - 1)
  case measure=>omega
  case rel=>exact⟨sD,0,q2,i2,err2,T2,rfl,rfl,hnew⟩
 subst he;have hsl3:=slRun gd 0 4096 4096 r1 q1 hle hwl;unfold eofV at p4;generalize hbv:Value.slice (some ⟨gd,0,none⟩) 4096 4096=bv at p0 hsl hsl3
 go_wp2;refine wp_quiet_call 16 17 (by kernel_rfl) (by kernel_rfl) rfl ?_;simp only[List.take_succ_cons,List.take_zero,List.drop_succ_cons,List.drop_zero];repeat(quiet_step (fail))
 refine wpQuiet_nil ?_;intro _ hw';obtain⟨nq,hw''⟩:=hw';subst hw'';go_wp2_with (go_at_call 156;refine(c156 _ _ _ (D.drop sN) _ (HRD.out.drewN nq)).mono ?_;rintro e w2⟨rfl,rfl⟩;rw[hidx.out]);refine callQ_normal ?_;repeat(quiet_step (fail))
 refine wpQuiet_nil ?_;intro _ hw';obtain⟨nq2,hw''⟩:=hw';subst hw'';go_wp2;go_quiet (fail)
 subst hbv;go_wp2_with (go_at_call 157;refine(c157 gb gd gs q1 q1 i1 (eofV pE) T1 S _ ((HB.out.drewN _).setR (zR _))).mono ?_;rintro e w3⟨rfl,hB3,hG3⟩;unfold eofV);have hSn:S.drop i1=[]:=List.drop_eq_nil_of_le (by omega);have hrD:rest=D:=by rw[hrest2.out,hSn,List.append_nil]
 refine HEX.out _ _ _ _ _ _ _ _ _ _ _ _ _ _ _ _ _ _ _ _ _ _ _ _ _ _ _ _ _ _ _ _ _ _ _ _ _ _ _ _ _ _ _ _ _ _ _ _ _ _ _ _ _ _ _ _ _ _ _ _ _ _ _ _ _ _ _ _ _ _ _ _ _ _ _ _ _ _ _ _ _ _ _ _ _ _ _ _ _ _ _ _ _ _ _ _ _ _ _ _ _ _ _ _ _ _ _ _ _ _ ⟨if 4096=r1 then 0 else 0+r1,q1 - r1,4096 - r1,D,q1,q1,i1,.nilIface,T1,rfl,hDl.out,by omega,by omega,fun j x hx=>?_,hB3,.inl rfl,.inr (.inr ⟨by rw[hrD];exact HDF.out,hrD.symm,rfl,?_⟩)⟩ ?_
 ·exact seg_cell hB3.cell hD.out _ (fun hp=>by rw[hDl.out]at hp;rw[if_neg (by omega),Nat.zero_add]) j x hx
 ·rw[restOf,hSn,List.append_nil];exact List.drop_eq_nil_of_le (by rw[List.length_take];omega)
 exact(gr_set0 (HG.out.drw _) gb 2 _ (.inl rfl)).trans ((Gr.of_grown hG3).mono fun _ _ q=>.inl (Option.some.inj q).symm)
end Go.Proofs.YtnkihlpmmfeioaaGreatDoor
