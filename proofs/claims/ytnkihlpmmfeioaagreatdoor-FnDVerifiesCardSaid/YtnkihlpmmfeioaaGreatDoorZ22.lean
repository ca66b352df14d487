/- Part of the proof that laws.FnDVerifies answers true: A63,A64,P1,P2,P3 -/
import Derived.Test.YtnkihlpmmfeioaaGreatDoorZ21
set_option linter.unusedVariables false
set_option linter.unusedSimpArgs false
set_option maxRecDepth 1000000
set_option maxHeartbeats 16000000
namespace Go.Proofs.YtnkihlpmmfeioaaGreatDoor
open Go.RowKit
theorem crlf_conv(W:World)(s n c:Nat)(hs:W.heap.size=s):(convert 33 33 (.slice (some ⟨s,0,none⟩) n c)).run Tryz.prog (W.alloc (.cells #[.int .u8 13,.int .u8 10] 5))=.ok (.slice (some ⟨s,0,none⟩) n c) (W.alloc (.cells #[.int .u8 13,.int .u8 10] 5 (2,3))):=by
 subst hs;exact Lib.run_convert_bytes_const (P:=Tryz.prog) W 33 5 _ n c Tryz.underlying33 Tryz.underlying5
theorem crlf_rd(W:World)(s:Nat)(hs:W.heap.size=s):RdB (W.alloc (.cells #[.int .u8 13,.int .u8 10] 5 (2,3))) (.slice (some ⟨s,0,none⟩) 2 2) [13,10]:=⟨_,_,rfl,by decide,fun _=>⟨_,_,rfl,fun i x hx=>by
 subst hs
 match i,hx with
 |0,hx=>injection hx with hx;subst hx;simp only[World.cell?,World.alloc,Array.getElem?_push_size];rfl
 |1,hx=>injection hx with hx;subst hx;simp only[World.cell?,World.alloc,Array.getElem?_push_size];rfl⟩⟩
theorem crlf_dig{W:World}{g gc:Nat}{bv:Value}{lh:List UInt8}(h:DigAt W g bv lh)(u:Value)(hg:g < gc)(hb:bv.ownBlock≠some gc):DigAt ((W.setCell ⟨gc,1,none⟩ u).alloc (.cells #[.int .u8 13,.int .u8 10] 5 (2,3))) g bv lh:=by
 have h1:=h.gr (gr_set (S:=fun k=>k=gc) (Gr.refl _ W) gc 1 u rfl) (by omega) (fun k hk q=>hb (q ▸ hk));exact h1.gr (Gr.of_below (S:=fun _=>False) ((zB _ _).alloc (zR _) _)) (fun h=>h) (fun _ _ h=>h)
theorem crlf_gr{w W w5:World}{g gc:Nat}{bv u:Value}{o:Obj}(h:Gr (fun k=>g<=k) w W)(hg:g < gc)(h5:Gr (fun k=>k=g\/bv.ownBlock=some k) ((W.setCell ⟨gc,1,none⟩ u).alloc o) w5)(hb:∀k,bv.ownBlock=some k->g < k):Gr (fun k=>g<=k) w w5 :=
 ((gr_set h gc 1 u (by omega)).trans (Gr.of_below ((zB _ _).alloc (zR _) _))).trans (h5.mono fun k _ q=>q.elim (fun e=>by omega) (fun e=>by have:=hb k e;omega))
theorem c290(gc g:Nat)(cb bv:Value)(cr:Bool)(buf lh:List UInt8)(w:World)(h:SimpAt w gc g cb bv cr buf lh)(hbl:buf.length<=1073741824)(hlh:lh.length<=1073741824) :
  Calls Tryz.prog 290 #[.pointer (some ⟨gc,0,none⟩)] w fun e w'=>e=.returned .nilIface/\∃bv',DigAt w' g bv' ((if cr=true then lh++buf else lh)++[13,10])/\Gr (fun k=>g<=k) w w':=by
 have HH:=zH h;have p0:=h.blk.cell 0;have p1:=h.blk.cell 1;have f1:=h.blk.frozen 1;have hmW:=mWr;have hgc:=h.blk.lt;have HG0:=zH h.lt;have HNG:=zH h.ngc;have hcrb:=h.inv.crb;have hnone:=h.inv.none;have hcv:=fun(W:World) (C:Array Value) (n c:Nat)=>Lib.run_convert_bytes_const (P:=Tryz.prog) W 33 5 C n c Tryz.underlying33 Tryz.underlying5
 obtain⟨Ac,cc,rfl,_,_,hAc⟩:=h.own.slice;have HAc:=zH hAc;clear hAc;clear h;by_cases hz:buf.length=0
 ·have hcr:cr=false:=hnone (List.eq_nil_of_length_eq_zero hz)
  subst hcr;have hI0:Hid (decide (0 < buf.length)=false):=decide_eq_false (by omega);clear hnone hcrb hz;go_enter Tryz.func290,Tryz.ntmps290;go_wp2;have hI:decide (0 < buf.length)=false:=hI0.out;go_quiet (fail)
  have HY:Hid (DigAt (w.drewN nq) g bv lh):=HH.out.dig.drewN nq;have HGX:Hid (Gr (fun k=>g<=k) w (w.drewN nq)):=(Gr.refl _ w).drewN nq;have HBX:Hid (∀k,bv.ownBlock=some k->g < k):=fun k hk=>(HH.out.dig.row hk).1
  have hBK:Blk (w.drewN nq) gc #[.iface 176 (.pointer (some ⟨g,0,none⟩)),.slice Ac buf.length cc,.bool false] 364:=HH.out.blk;clear p0 p1 f1;generalize w.drewN nq=Wx at *
  have p0:=hBK.cell 0;have p1:=hBK.cell 1;have f1:=hBK.frozen 1;have hgx:=hBK.lt;clear hBK;clear hcv HAc;have hszx:(Wx.setCell ⟨gc,1,none⟩ (.slice none 0 0)).heap.size=Wx.heap.size:=World.size_setCell _ _ _;have HSX:=zH hszx;have hcv2:=fun(n c:Nat)=>crlf_conv (Wx.setCell ⟨gc,1,none⟩ (.slice none 0 0)) Wx.heap.size n c hszx
  clear hszx;go_wp2_with (go_at_call 112;refine(c112 g bv lh [13,10] _ _ _ _ (crlf_dig HY.out _ HG0.out HNG.out) (crlf_rd _ _ HSX.out) (by simp;omega)).mono ?_;rintro e w5⟨rfl,bv3,hd5,hG5,hl5⟩);go_ret
  exact⟨rfl,⟨bv3,by first|exact hd5|(rw[<-List.append_assoc];exact hd5)⟩,crlf_gr HGX.out HG0.out hG5 HBX.out⟩
 obtain⟨n1,hn1⟩:∃n1,n1=buf.length - 1:=⟨_,rfl⟩;have a1:IntKind.i64.wrap ((buf.length:Int) - 1)=(n1:Int):=by rw[IntWalk.i64_in _ (by omega)];omega
 obtain⟨x,hx⟩:∃x,buf[n1]?=some x:=⟨_,zG (by omega)⟩;obtain⟨g3,o3,rfl,hg3,_,hcl,_⟩:=HAc.out (by omega);have e1:=hcl n1 x hx;unfold byteV at e1;have hlast:crN cr buf=((x.toNat:Int) == 13):=by
  have hd:=last_drop hn1 hx;rw[show buf=buf.take n1++[x]from by rw[<-hd,List.take_append_drop],crN_last]
 have hcr:cr=((x.toNat:Int) == 13):=hcrb.symm.trans hlast;have HA:Hid ((0:Int) < (buf.length:Int)/\(n1:Int) < (buf.length:Int)/\(0:Int)<=(n1:Int)):=⟨by omega,by omega,by omega⟩;clear hnone hcrb hz hn1 hx hcl hlast;by_cases h13:(x.toNat:Int)=13
 ·have t1:((x.toNat:Int) == 13)=true:=zE h13
  rw[t1]at hcr;subst hcr;clear h13;go_enter Tryz.func290,Tryz.ntmps290;go_wp2;have a0:decide (0 < buf.length)=true:=decide_eq_true (by have:=HA.out.1;omega);have a0':=HA.out.1;have b1:=HA.out.2.1;have b0:=HA.out.2.2;go_quiet (fail)
  clear hcv;go_wp2;refine wp_quiet_call 10 15 (by kernel_rfl) (by kernel_rfl) rfl ?_;simp only[List.take_succ_cons,List.take_zero,List.drop_succ_cons,List.drop_zero];repeat(quiet_step (fail))
  refine wpQuiet_nil ?_;intro _ hw';obtain⟨nq,hw''⟩:=hw';subst hw'';go_wp2_with (go_at_call 112;refine(c112 g bv lh buf _ _ _ _ (HH.out.dig.drewN _) (HH.out.own.rdB.drewN _) (by omega)).mono ?_;rintro e w4⟨rfl,bv2,hd4,hG4,hl4⟩);refine callQ_normal ?_;repeat(quiet_step (fail))
  refine wpQuiet_nil ?_;intro _ hw';obtain⟨nq2,hw''⟩:=hw';subst hw'';have HY0:Hid (DigAt (w4.drewN nq2) g bv2 (lh++buf)):=hd4.drewN nq2;have HGX0:Hid (Gr (fun k=>g<=k) w (w4.drewN nq2)):=(((Gr.refl _ w).drewN _).trans (hG4.mono fun k _ q=>by
   have h1:=HH.out.lt;rcases q with q|q
   ·omega
   have:=(HH.out.dig.row q).1;omega)).drewN nq2
  have HBX0:Hid (∀k,bv2.ownBlock=some k->g < k):=fun k hk=>(hd4.row hk).1
  have HNG2:Hid (bv2.ownBlock≠some gc):=fun q=>by
   rcases hl4 with e|e
   ·exact HH.out.ngc (e ▸ q)
   rw[e]at q;injection q with q;have h1:gc < w.heap.size:=hgc;have h2:w.heap.size=gc:=q;omega
  have hBK0:Blk (w4.drewN nq2) gc #[.iface 176 (.pointer (some ⟨g,0,none⟩)),.slice (some ⟨g3,o3,none⟩) buf.length cc,.bool true] 364 :=
   (hG4.block gc hgc (fun q=>q.elim (fun e=>by have:=HH.out.lt;omega) HH.out.ngc)).trans HH.out.blk
  clear e1 a1 a0 a0' b1 b0 t1 p0 p1 f1 hd4 hG4 hl4 HNG HA hg3;clear HH;generalize w4.drewN nq2=Wx at *
  have HY:=HY0;have HGX:=HGX0;have HBX:=HBX0;have HNG:=HNG2;clear HY0 HGX0 HBX0 HNG2;have p0:=hBK0.cell 0;have p1:=hBK0.cell 1;have f1:=hBK0.frozen 1;have hgx:=hBK0.lt;clear hBK0;clear HAc;have hszx:(Wx.setCell ⟨gc,1,none⟩ (.slice none 0 0)).heap.size=Wx.heap.size:=World.size_setCell _ _ _;have HSX:=zH hszx;have hcv2:=fun(n c:Nat)=>crlf_conv (Wx.setCell ⟨gc,1,none⟩ (.slice none 0 0)) Wx.heap.size n c hszx
  clear hszx;go_wp2_with (go_at_call 112;refine(c112 g bv2 (lh++buf) [13,10] _ _ _ _ (crlf_dig HY.out _ HG0.out HNG.out) (crlf_rd _ _ HSX.out) (by simp;omega)).mono ?_;rintro e w5⟨rfl,bv3,hd5,hG5,hl5⟩);go_ret
  exact⟨rfl,⟨bv3,by first|exact hd5|(rw[<-List.append_assoc];exact hd5)⟩,crlf_gr HGX.out HG0.out hG5 HBX.out⟩
 have t1:((x.toNat:Int) == 13)=false:=zF h13;rw[t1]at hcr;subst hcr;clear h13;go_enter Tryz.func290,Tryz.ntmps290;go_wp2;have a0:decide (0 < buf.length)=true:=decide_eq_true (by have:=HA.out.1;omega);have a0':=HA.out.1;have b1:=HA.out.2.1;have b0:=HA.out.2.2;go_quiet (fail)
 clear e1 a1 a0 a0' b1 b0 t1;have HY:Hid (DigAt (w.drewN nq) g bv lh):=HH.out.dig.drewN nq;have HGX:Hid (Gr (fun k=>g<=k) w (w.drewN nq)):=(Gr.refl _ w).drewN nq;have HBX:Hid (∀k,bv.ownBlock=some k->g < k):=fun k hk=>(HH.out.dig.row hk).1
 have hBK:Blk (w.drewN nq) gc #[.iface 176 (.pointer (some ⟨g,0,none⟩)),.slice (some ⟨g3,o3,none⟩) buf.length cc,.bool false] 364:=HH.out.blk;clear p0 p1 f1;generalize w.drewN nq=Wx at *
 have p0:=hBK.cell 0;have p1:=hBK.cell 1;have f1:=hBK.frozen 1;have hgx:=hBK.lt;clear hBK;clear hcv HAc;have hszx:(Wx.setCell ⟨gc,1,none⟩ (.slice none 0 0)).heap.size=Wx.heap.size:=World.size_setCell _ _ _;have HSX:=zH hszx;have hcv2:=fun(n c:Nat)=>crlf_conv (Wx.setCell ⟨gc,1,none⟩ (.slice none 0 0)) Wx.heap.size n c hszx
 clear hszx;go_wp2_with (go_at_call 112;refine(c112 g bv lh [13,10] _ _ _ _ (crlf_dig HY.out _ HG0.out HNG.out) (crlf_rd _ _ HSX.out) (by simp;omega)).mono ?_;rintro e w5⟨rfl,bv3,hd5,hG5,hl5⟩);go_ret
 exact⟨rfl,⟨bv3,by first|exact hd5|(rw[<-List.append_assoc];exact hd5)⟩,crlf_gr HGX.out HG0.out hG5 HBX.out⟩
theorem mWrS(p:Addr)(w:World):(method 488 360 (.pointer (some p)) "Write").run Tryz.prog w=.ok (291,.pointer (some p)) w:=by kernel_rfl
theorem mClS(p:Addr)(w:World):(method 488 360 (.pointer (some p)) "Close").run Tryz.prog w=.ok (290,.pointer (some p)) w:=by kernel_rfl
theorem mWrR(p:Addr)(w:World):(method 488 365 (.pointer (some p)) "Write").run Tryz.prog w=.ok (294,.pointer (some p)) w:=by kernel_rfl
theorem mClR(p:Addr)(w:World):(method 488 365 (.pointer (some p)) "Close").run Tryz.prog w=.ok (293,.pointer (some p)) w:=by kernel_rfl
theorem relaxed_len : ∀(l:List UInt8) (ws:Bool) (b:List UInt8),(relaxed ws b l).length<=b.length+2*l.length:=by
 intro l;induction l with
 |nil=>intro ws b;simp[relaxed]
 |cons c l ih =>
  intro ws b;rw[relaxed];split
  ·have:=ih true b;simp;omega
  split
  ·have:=ih false (b++[c]);simp at this ⊢;omega
  have:=ih false [];cases ws <;> (simp at this ⊢;omega)
theorem relB_len : ∀(l e:List UInt8),(relB e l).length<=e.length+l.length:=by
 intro l;induction l with
 |nil=>intro e;simp[relB]
 |cons c l ih =>
  intro e;rw[relB];split
  ·have:=ih e;simp;omega
  split
  ·have:=ih (e++[c]);simp at this ⊢;omega
  have:=ih [];simp at this ⊢;omega
def WrS(w:World)(gc g:Nat)(L:List UInt8):Prop:=∃cb bv buf lh,SimpAt w gc g cb bv (crN false L) buf lh/\lh++buf=ended false L
def WrR(w:World)(gc g:Nat)(L:List UInt8):Prop:=∃cb bv,RelAt w gc g cb bv (relW false (ended false L)) (!(relaxed false [] (ended false L)).isEmpty) (crN false L) (relB [] (ended false L)) (relaxed false [] (ended false L))
theorem app_le{a b c:List UInt8}(h:a++b=c):a.length<=c.length/\b.length<=c.length:=by subst h;simp
theorem c291W(gc g:Nat)(v:Value)(L l:List UInt8)(w:World)(h:WrS w gc g L)(hv:RdB w v l)(hl:l.length<=100000000)(hL:L.length<=100000000) :
  Calls Tryz.prog 291 #[.pointer (some ⟨gc,0,none⟩),v] w fun e w'=>e=.returned (.tuple #[.int .i64 (l.length:Int),.nilIface])/\WrS w' gc g (L++l)/\Gr (fun k=>g<=k) w w':=by
 obtain⟨cb,bv,buf,lh,h,hb⟩:=h;have h1:=app_le hb;have h2:=endedLe false L;refine(c291 gc g cb bv v (crN false L) buf lh l w h hv (by omega) (by omega) (by omega)).mono ?_;rintro e w'⟨he,cb',bv',buf',lh',hS,hq,hG⟩;refine⟨he,⟨cb',bv',buf',lh',by rw[crN_app];exact hS,?_⟩,hG⟩;rw[hq,ended_app,<-hb,List.append_assoc]
theorem c294W(gc g:Nat)(v:Value)(L l:List UInt8)(w:World)(h:WrR w gc g L)(hv:RdB w v l)(hne:∀g' o n c,v=.slice (some ⟨g',o,none⟩) n c->g'≠gc)(hl:l.length<=100000000)(hL:L.length<=100000000) :
  Calls Tryz.prog 294 #[.pointer (some ⟨gc,0,none⟩),v] w fun e w'=>e=.returned (.tuple #[.int .i64 (l.length:Int),.nilIface])/\WrR w' gc g (L++l)/\Gr (fun k=>g<=k) w w':=by
 obtain⟨cb,bv,h⟩:=h;have h2:=endedLe false L;have h3:=relaxed_len (ended false L) false [];have h4:=relB_len (ended false L) [];simp only[List.length_nil]at h3 h4;refine(c294 gc g cb bv v _ _ _ _ _ l w h hv hne (by omega) (by omega) (by omega)).mono ?_;rintro e w'⟨he,cb',bv',hS,hG⟩;refine⟨he,⟨cb',bv',?_⟩,hG.mono fun k hk q=>?_⟩
 ·rw[ended_app,relW_app,relB_app,relaxed_app,crN_app]
  have:(!(relaxed false [] (ended false L)++relaxed (relW false (ended false L)) (relB [] (ended false L)) (ended (crN false L) l)).isEmpty)=(!(relaxed false [] (ended false L)).isEmpty || !(relaxed (relW false (ended false L)) (relB [] (ended false L)) (ended (crN false L) l)).isEmpty):=by
   cases relaxed false [] (ended false L) <;> simp
  rw[this];exact hS
 have:=h.lt;rcases q with q|q|q|q
 ·omega
 ·omega
 ·have:=(h.own.lt k q).1;omega
 have:=(h.dig.row q).1;omega
theorem c290W(gc g:Nat)(L:List UInt8)(w:World)(h:WrS w gc g L)(hL:L.length<=100000000) :
  Calls Tryz.prog 290 #[.pointer (some ⟨gc,0,none⟩)] w fun e w'=>e=.returned .nilIface/\∃bv',DigAt w' g bv' (bodyS (ended false L)++[13,10])/\Gr (fun k=>g<=k) w w':=by
 obtain⟨cb,bv,buf,lh,h,hb⟩:=h;have h1:=app_le hb;have h2:=endedLe false L;refine(c290 gc g cb bv _ buf lh w h (by omega) (by omega)).mono ?_;rintro e w'⟨he,bv',hd,hG⟩;rw[simp_close h.inv,hb]at hd;exact⟨he,bv',hd,hG⟩
theorem c293W(gc g:Nat)(L:List UInt8)(w:World)(h:WrR w gc g L)(hL:L.length<=100000000) :
  Calls Tryz.prog 293 #[.pointer (some ⟨gc,0,none⟩)] w fun e w'=>e=.returned .nilIface/\∃bv',DigAt w' g bv' (bodyR (ended false L))/\Gr (fun k=>g<=k) w w':=by
 obtain⟨cb,bv,h⟩:=h;have h2:=endedLe false L;have h3:=relaxed_len (ended false L) false [];simp only[List.length_nil]at h3;refine(c293 gc g cb bv _ _ _ _ _ w h (by omega)).mono ?_;rintro e w'⟨he,bv',hd,hG,_⟩;refine⟨he,bv',?_,hG.mono fun k hk q=>?_⟩
 ·unfold bodyR
  cases hr:relaxed false [] (ended false L)with
  |nil=>rw[hr]at hd;simpa using hd
  |cons x m=>rw[hr]at hd;simpa using hd
 rcases q with q|q
 ·omega
 have:=(h.dig.row q).1;omega
theorem WrS.gr{S:Nat->Prop}{w w':World}{gc g:Nat}{L:List UInt8}(h:WrS w gc g L)(hG:Gr S w w')(hS:∀k,g<=k->k < w.heap.size->¬S k):WrS w' gc g L:=by
 obtain⟨cb,bv,buf,lh,h,hb⟩:=h;have hlt:=h.lt;refine⟨cb,bv,buf,lh,⟨(hG.block gc h.blk.lt (hS gc (by omega) h.blk.lt)).trans h.blk,h.own.gr hG (fun k hk=>hS k (by have:=(h.own.lt k hk).1;omega) (h.own.lt k hk).2),h.dig.gr hG (hS g (zR _) h.dig.lt) (fun k hk=>hS k (by have:=(h.dig.row hk).1;omega) (h.dig.row hk).2),h.lt,h.ngc,h.dis,h.inv⟩,hb⟩
theorem WrR.gr{S:Nat->Prop}{w w':World}{gc g:Nat}{L:List UInt8}(h:WrR w gc g L)(hG:Gr S w w')(hS:∀k,g<=k->k < w.heap.size->¬S k):WrR w' gc g L:=by
 obtain⟨cb,bv,h⟩:=h;have hlt:=h.lt;exact⟨cb,bv,⟨(hG.block gc h.blk.lt (hS gc (by omega) h.blk.lt)).trans h.blk,h.own.gr hG (fun k hk=>hS k (by have:=(h.own.lt k hk).1;omega) (h.own.lt k hk).2),h.dig.gr hG (hS g (zR _) h.dig.lt) (fun k hk=>hS k (by have:=(h.dig.row hk).1;omega) (h.dig.row hk).2),h.lt,h.ngc,h.dis⟩⟩
def bodyTy(ty:Nat)(L:List UInt8):List UInt8:=if ty=360 then bodyS (ended false L)++[13,10]else bodyR (ended false L)
theorem WrS.lt{w:World}{gc g:Nat}{L:List UInt8}(h:WrS w gc g L):g < w.heap.size/\g < gc:=by obtain⟨_,_,_,_,h,_⟩:=h;exact⟨h.dig.lt,h.lt⟩
theorem WrR.lt{w:World}{gc g:Nat}{L:List UInt8}(h:WrR w gc g L):g < w.heap.size/\g < gc:=by obtain⟨_,_,h⟩:=h;exact⟨h.dig.lt,h.lt⟩
theorem bl_irr : ∀a:List UInt8,Op.bytesLess a a=false
 |[]=>rfl
 |x::l=>by simp[Op.bytesLess,bl_irr l]
theorem bl_trans : ∀a b c:List UInt8,Op.bytesLess a b=true->Op.bytesLess b c=true->Op.bytesLess a c=true
 |_,_,[],_,h=>by simp[Op.bytesLess]at h
 |_,[],_::_,h,_=>by simp[Op.bytesLess]at h
 |[],_::_,_::_,_,_=>rfl
 |x::a,y::b,z::c,h1,h2=>by
  simp only[Op.bytesLess,Bool.or_eq_true,decide_eq_true_eq,Bool.and_eq_true,beq_iff_eq]at *;rcases h1 with h1|⟨rfl,h1⟩
  ·rcases h2 with h2|⟨rfl,h2⟩
   ·exact .inl (UInt8.lt_trans h1 h2)
   exact .inl h1
  rcases h2 with h2|⟨rfl,h2⟩
  ·exact .inl h2
  exact .inr ⟨rfl,bl_trans a b c h1 h2⟩
theorem bl_tot : ∀a b:List UInt8,Op.bytesLess a b=false->a≠b->Op.bytesLess b a=true
 |[],[],_,h=>absurd rfl h
 |[],_::_,h,_=>by simp[Op.bytesLess]at h
 |_::_,[],_,_=>rfl
 |x::a,y::b,h,hne=>by
  simp only[Op.bytesLess,Bool.or_eq_true,decide_eq_true_eq,Bool.and_eq_true,beq_iff_eq,Bool.or_eq_false_iff,decide_eq_false_iff_not,Bool.and_eq_false_iff,beq_eq_false_iff_ne]at *;by_cases he:x=y
  ·subst he
   refine .inr ⟨rfl,bl_tot a b ?_ (fun q=>hne (by rw[q]))⟩;rcases h.2 with h2|h2
   ·exact absurd rfl h2
   exact h2
  refine .inl ?_;have h1:=h.1;rw[UInt8.lt_iff_toNat_lt]at h1 ⊢;have:x.toNat≠y.toNat:=fun q=>he (UInt8.toNat_inj.1 q)
  omega
def Asc(xs:List Pair):Prop:=xs.Pairwise fun x y=>Op.bytesLess x.1 y.1=true
theorem insAt_cons(t:List UInt8)(y:Pair)(l:List Pair):insAt t (y::l)=if Op.bytesLess y.1 t=true then insAt t l+1 else 0:=by
 unfold insAt;rw[List.takeWhile_cons];split <;> simp
theorem hasTag_gt{t:List UInt8}:∀{l:List Pair},(∀x∈l,Op.bytesLess t x.1=true)->hasTag t l=false
 |[],_=>rfl
 |x::l,h=>by
  rw[hasTag,if_neg,hasTag_gt fun y hy=>h y (by simp[hy])];intro q;have:=h x (by simp);rw[q,bl_irr]at this;cases this
theorem ins_has(t:List UInt8):∀xs:List Pair,Asc xs->((xs[insAt t xs]?).map Prod.fst=some t↔hasTag t xs=true):=by
 intro xs;induction xs with
 |nil=>intro _;simp[hasTag]
 |cons y l ih =>
  intro h;have h1:=List.pairwise_cons.1 h;rw[insAt_cons];split
  ·rename_i hy
   have hne:y.1≠t:=fun q=>by rw[q,bl_irr]at hy;cases hy
   rw[List.getElem?_cons_succ,ih h1.2,hasTag,if_neg hne]
  rename_i hy;rw[List.getElem?_cons_zero,hasTag];by_cases he:y.1=t
  ·simp[he]
  rw[if_neg he];have hty:=bl_tot y.1 t (by simpa using hy) he;rw[hasTag_gt fun x hx=>bl_trans _ _ _ hty (h1.1 x hx)];simp[he]
theorem hasTag_app(t:List UInt8)(a b:List Pair):hasTag t (a++b)=(hasTag t a || hasTag t b):=by
 induction a with
 |nil=>rfl
 |cons x l ih=>rw[List.cons_append,hasTag,hasTag,ih];split <;> simp
theorem valOf_app(t:List UInt8)(a b:List Pair):valOf t (a++b)=if hasTag t a=true then valOf t a else valOf t b:=by
 induction a with
 |nil=>rfl
 |cons x l ih=>rw[List.cons_append,valOf,hasTag,ih,valOf];split <;> simp
theorem has_ins(t:List UInt8)(x:Pair)(xs:List Pair)(k:Nat):hasTag t (xs.take k++x::xs.drop k)=if x.1=t then true else hasTag t xs:=by
 rw[hasTag_app,hasTag];conv=>rhs;rw[<-List.take_append_drop k xs,hasTag_app]
 split <;> simp
theorem val_ins(t:List UInt8)(x:Pair)(xs:List Pair)(k:Nat)(h:hasTag x.1 xs=false):valOf t (xs.take k++x::xs.drop k)=if x.1=t then x.2 else valOf t xs:=by
 rw[valOf_app,valOf];conv=>rhs;rw[<-List.take_append_drop k xs,valOf_app]
 by_cases he:x.1=t
 ·subst he
  rw[<-List.take_append_drop k xs,hasTag_app,Bool.or_eq_false_iff]at h;simp[h.1]
 simp[he]
theorem asc_ins(x:Pair):∀xs:List Pair,Asc xs->hasTag x.1 xs=false->Asc (xs.take (insAt x.1 xs)++x::xs.drop (insAt x.1 xs)):=by
 intro xs;induction xs with
 |nil=>intro _ _;simp[Asc]
 |cons y l ih =>
  intro h hx;have h1:=List.pairwise_cons.1 h;rw[hasTag]at hx;rw[insAt_cons];split at hx
  ·cases hx
  rename_i hne;split
  ·rename_i hy
   rw[List.take_succ_cons,List.drop_succ_cons,List.cons_append];refine List.pairwise_cons.2 ⟨fun z hz=>?_,ih h1.2 hx⟩;rcases List.mem_append.1 hz with hz|hz
   ·exact h1.1 z (List.mem_of_mem_take hz)
   rcases List.mem_cons.1 hz with rfl|hz
   ·exact hy
   exact h1.1 z (List.mem_of_mem_drop hz)
  rename_i hy;have hty:=bl_tot y.1 x.1 (by simpa using hy) hne;rw[List.take_zero,List.drop_zero,List.nil_append];refine List.pairwise_cons.2 ⟨fun z hz=>?_,h⟩;rcases List.mem_cons.1 hz with rfl|hz
  ·exact hty
  exact bl_trans _ _ _ hty (h1.1 z hz)
def Same(T P:List Pair):Prop:=∀t,hasTag t T=hasTag t P/\valOf t T=valOf t P
theorem pm_tags : ∀(parts:List (List UInt8)) (T P:List Pair),Asc T->Same T P ->
  (tagsM parts T=none/\pmM parts P=none)\/∃T' P',tagsM parts T=some T'/\pmM parts P=some P'/\Same T' P':=by
 intro parts;induction parts with
 |nil=>intro T P _ h;exact .inr ⟨T,P,rfl,rfl,h⟩
 |cons p l ih =>
  intro T P hT h;rw[tagsM,pmM];by_cases hf:cutF 61 p=true
  ·rw[if_pos hf,if_pos hf,insP]
   have h1:=ins_has (trim (cutA 61 p)) T hT;by_cases hh:hasTag (trim (cutA 61 p)) T=true
   ·rw[if_pos (h1.2 hh),if_pos (by rw[<-(h _).1];exact hh)]
    exact .inl ⟨rfl,rfl⟩
   rw[if_neg (fun q=>hh (h1.1 q)),if_neg (by rw[<-(h _).1];exact hh)];have hh':hasTag (trim (cutA 61 p)) T=false:=by simpa using hh
   refine ih _ _ (asc_ins (trim (cutA 61 p),trim (cutZ 61 p)) T hT hh') fun t=>⟨?_,?_⟩
   ·rw[has_ins,hasTag,(h t).1]
   rw[val_ins _ _ _ _ hh',valOf,(h t).2]
  rw[if_neg hf,if_neg hf];by_cases ht:trim p=[]
  ·rw[if_pos ht,if_pos ht];exact ih T P hT h
  rw[if_neg ht,if_neg ht];exact .inl ⟨rfl,rfl⟩
theorem keyM_same{T P:List Pair}(h:Same T P):keyM T=keyM P:=by
 have h1:∀t,hasTag t T=hasTag t P:=fun t=>(h t).1
 have h2:∀t,valOf t T=valOf t P:=fun t=>(h t).2
 have k1:kindOf T=kindOf P:=by unfold kindOf;rw[h1,h2]
 have k2:hashOf T=hashOf P:=by unfold hashOf;rw[h1,h2]
 have k3:servOf T=servOf P:=by unfold servOf;rw[h1,h2]
 unfold keyM;rw[h1 [118],h2 [118],h2 [112],h1 [112],k1,k2,k3]
theorem readM_pm(l:List UInt8):readM l=(pmM (split 59 l) []).bind keyM:=by
 unfold readM;rcases pm_tags (split 59 l) [] [] .nil (fun _=>⟨rfl,rfl⟩)with⟨h1,h2⟩|⟨T,P,h1,h2,h3⟩
 ·rw[h1,h2];rfl
 rw[h1,h2];exact keyM_same h3
theorem noCR_rm(l:List UInt8):noCR (rmB 32 l)=bare l:=by
 induction l with
 |nil=>rfl
 |cons x l ih =>
  rw[rmB,bare];by_cases h:(x.toNat:Int)=32
  ·rw[if_pos h,if_pos (.inl h),ih]
  rw[if_neg h,noCR_cons,ih];by_cases h2:(x.toNat:Int)=13\/(x.toNat:Int)=10
  ·rw[if_pos h2,if_pos (.inr h2)]
  rw[if_neg h2,if_neg (fun q=>q.elim h h2)]
def pk(p:List UInt8):Option (Option Pair) :=
 if cutF 61 p=true then some (some (trim (cutA 61 p),trim (cutZ 61 p)))else if trim p=[]then some none else none
def pmK : List (Option (Option Pair))->List Pair->Option (List Pair)
 |[],acc=>some acc
 |none::_,_=>none
 |some none::l,acc=>pmK l acc
 |some (some x)::l,acc=>if hasTag x.1 acc=true then none else pmK l (x::acc)
theorem pmM_pk : ∀(l:List (List UInt8)) (acc:List Pair),pmM l acc=pmK (l.map pk) acc:=by
 intro l;induction l with
 |nil=>intro acc;rfl
 |cons p l ih =>
  intro acc;rw[pmM,List.map_cons,pk];by_cases hf:cutF 61 p=true
  ·rw[if_pos hf,if_pos hf,pmK]
   split
   ·rfl
   exact ih _
  rw[if_neg hf,if_neg hf];by_cases ht:trim p=[]
  ·rw[if_pos ht,if_pos ht,pmK];exact ih _
  rw[if_neg ht,if_neg ht,pmK]
theorem blank_ne{c:UInt8}(h:blank c=true):¬(c.toNat:Int)=61/\¬(c.toNat:Int)=59/\¬(c.toNat:Int)=58/\¬(c.toNat:Int)=98:=by
 rw[blank_iff]at h;omega
theorem trim_blank{c:UInt8}(l:List UInt8)(h:blank c=true):trim (c::l)=trim l:=by
 unfold trim;rw[trimL,if_pos h]
theorem trimL_snoc(l:List UInt8)(c:UInt8):trimL (l++[c])=if trimL l=[]then trimL [c]else trimL l++[c]:=by
 induction l with
 |nil=>rfl
 |cons x l ih =>
  have e1:∀m,trimL (x::m)=if blank x=true then trimL m else x::m:=fun m=>rfl
  rw[List.cons_append,e1,e1];split
  ·exact ih
  simp
theorem trim_snoc{c:UInt8}(l:List UInt8)(h:blank c=true):trim (l++[c])=trim l:=by
 unfold trim;rw[trimL_snoc];split
 ·rename_i hl;rw[hl,trimL,if_pos h];rfl
 rw[trimR_snoc,if_pos h]
theorem pk_blank{c:UInt8}(l:List UInt8)(h:blank c=true):pk (c::l)=pk l:=by
 have hn:=(blank_ne h).1;unfold pk;rw[cutF,if_neg hn,cutA,if_neg hn,cutZ,if_neg hn,trim_blank _ h,trim_blank _ h]
theorem cutF_snoc{k:Int}{c:UInt8}(hc:¬(c.toNat:Int)=k)(l:List UInt8):cutF k (l++[c])=cutF k l:=by
 induction l with
 |nil=>simp[cutF,hc]
 |cons x l ih=>rw[List.cons_append,cutF,cutF,ih]
theorem cutA_snoc{k:Int}{c:UInt8}(l:List UInt8)(hf:cutF k l=true):cutA k (l++[c])=cutA k l:=by
 induction l with
 |nil=>simp[cutF]at hf
 |cons x l ih =>
  rw[List.cons_append,cutA,cutA];rw[cutF]at hf;split
  ·rfl
  rename_i hx;rw[if_neg hx]at hf;rw[ih hf]
theorem cutZ_snoc{k:Int}{c:UInt8}(l:List UInt8)(hf:cutF k l=true):cutZ k (l++[c])=cutZ k l++[c]:=by
 induction l with
 |nil=>simp[cutF]at hf
 |cons x l ih =>
  rw[List.cons_append,cutZ,cutZ];rw[cutF]at hf;split
  ·rfl
  rename_i hx;rw[if_neg hx]at hf;rw[ih hf]
theorem pk_snoc{c:UInt8}(l:List UInt8)(h:blank c=true):pk (l++[c])=pk l:=by
 have hn:=(blank_ne h).1;unfold pk;rw[cutF_snoc hn];split
 ·rename_i hf;rw[cutA_snoc l hf,cutZ_snoc l hf,trim_snoc _ h]
 rw[trim_snoc _ h]
theorem split_cons{k:Int}{c:UInt8}(hc:¬(c.toNat:Int)=k)(l:List UInt8):∃h t,split k l=h::t/\split k (c::l)=(c::h)::t:=by
 rw[split,if_neg hc];cases hs:split k l with
 |nil=>exact absurd hs (split_ne k l)
 |cons h t=>exact⟨h,t,rfl,rfl⟩
theorem pks_blank{c:UInt8}(l:List UInt8)(h:blank c=true):(split 59 (c::l)).map pk=(split 59 l).map pk:=by
 obtain⟨a,t,h1,h2⟩:=split_cons (k:=59) (blank_ne h).2.1 l;rw[h1,h2,List.map_cons,List.map_cons,pk_blank _ h]
theorem split_snoc{k:Int}{c:UInt8}(hc:¬(c.toNat:Int)=k)(l:List UInt8):∃ps p,split k l=ps++[p]/\split k (l++[c])=ps++[p++[c]]:=by
 induction l with
 |nil=>exact⟨[],[],rfl,by simp[split,hc]⟩
 |cons x l ih =>
  obtain⟨ps,p,h1,h2⟩:=ih;rw[List.cons_append,split,split,h1,h2];by_cases hx:(x.toNat:Int)=k
  ·exact⟨[]::ps,p,by rw[if_pos hx];rfl,by rw[if_pos hx];rfl⟩
  rw[if_neg hx,if_neg hx];cases ps with
  |nil=>exact⟨[],x::p,rfl,rfl⟩
  |cons h t=>exact⟨(x::h)::t,p,rfl,rfl⟩
theorem pks_snoc{c:UInt8}(l:List UInt8)(h:blank c=true):(split 59 (l++[c])).map pk=(split 59 l).map pk:=by
 obtain⟨ps,p,h1,h2⟩:=split_snoc (k:=59) (blank_ne h).2.1 l;rw[h1,h2,List.map_append,List.map_append,List.map_cons,List.map_cons,pk_snoc _ h]
theorem pks_trimL(l:List UInt8):(split 59 (trimL l)).map pk=(split 59 l).map pk:=by
 induction l with
 |nil=>rfl
 |cons c l ih =>
  rw[trimL];split
  ·rename_i h;rw[ih,pks_blank l h]
  rfl
theorem pks_trimR(l:List UInt8):(split 59 (trimR l)).map pk=(split 59 l).map pk:=by
 induction hn:l.length generalizing l with
 |zero=>rw[List.eq_nil_of_length_eq_zero hn];rfl
 |succ n ih =>
  obtain⟨m,x,rfl⟩:∃m x,l=m++[x]:=⟨l.dropLast,l.getLast (by intro q;rw[q]at hn;cases hn),(List.dropLast_concat_getLast _).symm⟩;rw[trimR_snoc];split
  ·rename_i h
   rw[ih m (by simp at hn;omega),pks_snoc m h]
  rfl
theorem pm_trim(l:List UInt8):pmM (split 59 (trim l)) []=pmM (split 59 l) []:=by
 rw[pmM_pk,pmM_pk,trim,pks_trimR,pks_trimL]
def emailL : List UInt8:=[101,109,97,105,108]
def fromL : List UInt8:=[102,114,111,109]
def dnstxtL : List UInt8:=[100,110,115,47,116,120,116]
def sha256L : List UInt8:=[115,104,97,50,53,54]
def domkeyL : List UInt8:=[46,95,100,111,109,97,105,110,107,101,121,46]
def reqd : List (List UInt8):=[[118],[97],[98],[98,104],[100],[104],[115]]
def domOf(T:List Pair):List UInt8:=strip (valOf [100] T)
def nameOf(T:List Pair):List UInt8:=strip (valOf [115] T)++(domkeyL++domOf T)
def identOf(T:List Pair):List UInt8:=if hasTag [105] T=true then strip (valOf [105] T)else 64::domOf T
def identOk(T:List Pair):Bool:=!hasTag [105] T || endsWith (identOf T) (64::domOf T) || endsWith (identOf T) (46::domOf T)
def keysOf(T:List Pair):List (List UInt8):=listOf (valOf [104] T)
def hasFrom(T:List Pair):Bool:=(keysOf T).any fun k=>lower k == fromL
def timeOf(t:List UInt8)(T:List Pair):Option Int:=if hasTag t T=true then whole (strip (valOf t T))else some 0
def algOf(T:List Pair):List UInt8:=strip (valOf [97] T)
def algOk(T:List Pair)(K:Key):Bool :=
 cutF 45 (algOf T) && (match K.hashes with|none=>true|some hs=>among (cutZ 45 (algOf T)) hs) && (cutZ 45 (algOf T) == sha256L) && (cutA 45 (algOf T) == K.kind) && (match K.services with|none=>true|some ss=>among emailL ss)
def bodyOf(form body:List UInt8):List UInt8:=if form=simpleL then bodyS (ended false body)++[13,10]else bodyR (ended false body)
def allOf(fields:List (List UInt8))(field:List UInt8)(T:List Pair):List UInt8 :=
 ((pickedN fields [] (keysOf T)).flatMap fun p=>if p=[]then[]else fieldOf (formA (valOf [99] T)) p)++without (fieldOf (formA (valOf [99] T)) (emptied field))
def sealedM(key hashed:List UInt8):List UInt8:=sha (key++hashed)
def judgeH(fields:List (List UInt8))(body field:List UInt8)(T:List Pair)(K:Key):Int :=
 match unb64 (strip (valOf [98,104] T)),unb64 (strip (valOf [98] T))with
 |some want,some sig=>if want=sha (bodyOf (formB (valOf [99] T)) body)then(if sig=sealedM K.bytes (sha (allOf fields field T))then 0 else 1)else 1
 |_,_=>2
def judgeK(fields:List (List UInt8))(body field:List UInt8)(T:List Pair)(K:Key):Int :=
 if algOk T K=false then 2
 else if(known (formA (valOf [99] T)) && known (formB (valOf [99] T)))=false then 2
 else if hasTag [108] T=true then 1
 else judgeH fields body field T K
def judgeA(fields:List (List UInt8))(body field:List UInt8)(recs:List Rec)(T:List Pair):Int :=
 if askC (nameOf T) recs=0 then(match readM (askT (nameOf T) recs)with|none=>2|some K=>judgeK fields body field T K)
 else askC (nameOf T) recs
def earlyOk(T:List Pair)(now:Int):Bool :=
 decide (valOf [118] T=[49]) && reqd.all (fun t=>hasTag t T) && identOk T && hasFrom T && (timeOf [116] T).isSome && (timeOf [120] T).isSome
  && !(hasTag [120] T && decide (now > (timeOf [120] T).getD 0)) && !(hasTag [113] T && !among dnstxtL (listOf (valOf [113] T)))
def judgeT(fields:List (List UInt8))(body field:List UInt8)(recs:List Rec)(now:Int)(T:List Pair):Int :=
 if earlyOk T now=true then judgeA fields body field recs T else 2
def judgeC(fields:List (List UInt8))(body field:List UInt8)(recs:List Rec)(now:Int):Int :=
 match pmM (split 59 (cutZ 58 field)) []with
 |none=>2
 |some T=>judgeT fields body field recs now T
theorem judgeT_same{T P:List Pair}(h:Same T P)(fields:List (List UInt8))(body field:List UInt8)(recs:List Rec)(now:Int):judgeT fields body field recs now T=judgeT fields body field recs now P:=by
 have h1:∀t,hasTag t T=hasTag t P:=fun t=>(h t).1
 have h2:∀t,valOf t T=valOf t P:=fun t=>(h t).2
 have d1:domOf T=domOf P:=by unfold domOf;rw[h2]
 have d2:nameOf T=nameOf P:=by unfold nameOf;rw[h2,d1]
 have d3:identOf T=identOf P:=by unfold identOf;rw[h1,h2,d1]
 have d4:identOk T=identOk P:=by unfold identOk;rw[h1,d3,d1]
 have d5:keysOf T=keysOf P:=by unfold keysOf;rw[h2]
 have d6:hasFrom T=hasFrom P:=by unfold hasFrom;rw[d5]
 have d7:∀t,timeOf t T=timeOf t P:=fun t=>by unfold timeOf;rw[h1,h2]
 have d8:algOf T=algOf P:=by unfold algOf;rw[h2]
 have d9:∀K,algOk T K=algOk P K:=fun K=>by unfold algOk;rw[d8]
 have d10:allOf fields field T=allOf fields field P:=by unfold allOf;rw[d5,h2]
 have d11:∀K,judgeH fields body field T K=judgeH fields body field P K:=fun K=>by unfold judgeH;rw[h2 [98,104],h2 [98],h2 [99],d10]
 have d12:∀K,judgeK fields body field T K=judgeK fields body field P K:=fun K=>by unfold judgeK;rw[d9,h2 [99],h1,d11]
 have d13:judgeA fields body field recs T=judgeA fields body field recs P:=by
  unfold judgeA;rw[d2];split
  ·split
   ·rfl
   exact d12 _
  rfl
 have d14:earlyOk T now=earlyOk P now:=by
  unfold earlyOk;rw[h2 [118],show(fun t=>hasTag t T)=(fun t=>hasTag t P)from funext h1,d4,d6,d7 [116],d7 [120],h1 [120],h1 [113],h2 [113]]
 unfold judgeT;rw[d14,d13]
theorem judgeC_tags(fields:List (List UInt8))(body field:List UInt8)(recs:List Rec)(now:Int) :
  judgeC fields body field recs now=(match tagsM (split 59 (cutZ 58 field)) []with|none=>2|some T=>judgeT fields body field recs now T):=by
 unfold judgeC;rcases pm_tags (split 59 (cutZ 58 field)) [] [] .nil (fun _=>⟨rfl,rfl⟩)with⟨h1,h2⟩|⟨T,P,h1,h2,h3⟩
 ·rw[h1,h2]
 rw[h1,h2];exact(judgeT_same h3 _ _ _ _ _).symm
theorem judgeC_trim(fields:List (List UInt8))(body field:List UInt8)(recs:List Rec)(now:Int) :
  judgeC fields body field recs now=(match pmM (split 59 (trim (cutZ 58 field))) []with|none=>2|some T=>judgeT fields body field recs now T):=by
 rw[pm_trim];rfl
end Go.Proofs.YtnkihlpmmfeioaaGreatDoor
