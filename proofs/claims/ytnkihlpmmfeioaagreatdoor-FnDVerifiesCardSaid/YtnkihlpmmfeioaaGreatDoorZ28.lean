/- Part of the proof that laws.FnDVerifies answers true: A74,A85,P9,A86 -/
import Derived.Test.YtnkihlpmmfeioaaGreatDoorZ27
set_option linter.unusedVariables false
set_option linter.unusedSimpArgs false
set_option maxRecDepth 1000000
set_option maxHeartbeats 16000000
namespace Go.Proofs.YtnkihlpmmfeioaaGreatDoor
open Go.RowKit
theorem c116(v:Value)(A:Option Addr)(n c:Nat)(hv:v=.slice A n c)(w:World):Calls Tryz.prog 116 #[v] w fun e w'=>e=.returned (.pointer (some ⟨w.heap.size,0,none⟩))/\w'=w.alloc (.cells #[v,.int .i64 0,.int .i64 (-1)] 251):=by
 subst hv;go_enter Tryz.func116,Tryz.ntmps116;go_wp2;go_ret
 exact⟨rfl,rfl⟩
theorem slZero(A:Option Addr)(n c:Nat)(hA:∀a,A=some a->a.spot=none)(W:World):(Instr.slice 33 (.slice A n c) (some (.int .i64 0)) none none).run Tryz.prog W=.ok (.slice A n c) W:=by
 have h:=run_slice_l (P:=Tryz.prog) W 33 A n c Tryz.underlying33 .i64 0 (by omega) (by omega);rw[show Tryz.prog.elem 33=5 from by kernel_rfl]at h;rw[h];obtain⟨i,hi',hz0,hz1,hz2⟩:=info_parts info5;cases A with
 |none=>simp[sizeOf,typeInfo,hi',hz1,Result.andThen,sliced]
 |some a =>
  have h2:=hA a rfl;obtain⟨b,o,s⟩:=a;simp only at h2;subst h2;have:(⟨b,o,none⟩:Addr).add 0=⟨b,o,none⟩:=by unfold Addr.add;split <;> simp_all
  simp[sizeOf,typeInfo,hi',hz1,Result.andThen,sliced,this]
def RdrAt(w:World)(Z:Nat->Prop)(g0 ty:Nat)(p:Value)(body:List UInt8):Prop :=
 (∃gb gd gs r q i err T S,ty=107/\p=.pointer (some ⟨gb,0,none⟩)/\BufAt w gb gd gs r q i err T S/\restOf r q i T S=body/\S.length<=20000000/\Z=(fun k=>k=gb\/k=gd\/k=gs)/\gb < g0/\gd < g0/\gs < g0) \/
 (∃gy A n c,∃pr:Int,ty=196/\p=.pointer (some ⟨gy,0,none⟩)/\Blk w gy #[.slice A n c,.int .i64 0,.int .i64 pr] 251/\RdB w (.slice A n c) body/\body.length<=20000000/\Z=(fun k=>k=gy)/\gy < g0/\∀a,A=some a->a.block < g0/\a.spot=none/\a.block≠gy)
theorem hasWT107(p:Value)(W:World):(Instr.typeAssert (.iface 107 p) 106 274 true).run Tryz.prog W=.ok (.tuple #[.iface 107 p,.bool true]) W:=run_typeAssert_hasB Tryz.underlying274 (by kernel_rfl) p 106 W
theorem mWT107(p:Addr)(w:World):(method 488 107 (.pointer (some p)) "WriteTo").run Tryz.prog w=.ok (244,.pointer (some p)) w:=by kernel_rfl
theorem hasWT196(p:Value)(W:World):(Instr.typeAssert (.iface 196 p) 106 274 true).run Tryz.prog W=.ok (.tuple #[.iface 196 p,.bool true]) W:=run_typeAssert_hasB Tryz.underlying274 (by kernel_rfl) p 106 W
theorem mWT196(p:Addr)(w:World):(method 488 196 (.pointer (some p)) "WriteTo").run Tryz.prog w=.ok (252,.pointer (some p)) w:=by kernel_rfl
theorem c252S(gy n c gc g:Nat)(A:Option Addr)(pr:Int)(S L:List UInt8)(w:World)(hb:Blk w gy #[.slice A n c,.int .i64 0,.int .i64 pr] 251)(hv:RdB w (.slice A n c) S)(hA:∀a,A=some a->a.block < g/\a.spot=none/\a.block≠gy)(hW:WrS w gc g L)(hlt:gy < g)(hL:L.length<=40000000)(hS:S.length<=50000000) :
  Calls Tryz.prog 252 #[.pointer (some ⟨gy,0,none⟩),.iface 360 (.pointer (some ⟨gc,0,none⟩))] w fun e w'=>∃m:Int,e=.returned (.tuple #[.int .i64 m,.nilIface])/\WrS w' gc g (L++S)/\Gr (fun k=>k=gy\/g<=k) w w':=by
 have p0:=hb.cell 0;have p1:=hb.cell 1;have p2:=hb.cell 2;have f2:=hb.frozen 2;have hn:n=S.length:=by obtain⟨A',c',he,_⟩:=hv;injection he
 have hnc:n<=c:=by obtain⟨A',c',he,h2,_⟩:=hv;injection he with _ e2 e3;omega
 have hgl:=hW.lt;have hmW:=mWrS;have HB:=zH hb;have HW:=zH hW;have HV:=zH hv;have hsl:=slZero A n c (fun a ha=>(hA a ha).2.1);have hG1:Hid (Gr (fun k=>k=gy) w (w.setCell ⟨gy,2,none⟩ (.int .i64 (-1)))):=gr_set0 (Gr.refl (fun k=>k=gy) w) gy 2 _ rfl;have hb1:Hid (Blk (w.setCell ⟨gy,2,none⟩ (.int .i64 (-1))) gy #[.slice A n c,.int .i64 0,.int .i64 (-1)] 251):=(HB.out.set_ 2 _).to (by simp);have hv1:Hid (RdB (w.setCell ⟨gy,2,none⟩ (.int .i64 (-1))) (.slice A n c) S):=hv.setNe (fun g' o n' c' q=>by injection q with q;exact(hA _ q).2.2);have hW1:Hid (WrS (w.setCell ⟨gy,2,none⟩ (.int .i64 (-1))) gc g L):=HW.out.gr hG1.out (fun k hk _ q=>by omega);have HA:=zH hA;clear hb hW hv hA;by_cases h0:n=0
 ·have a1:(n:Int)<=0:=by omega
  have hS0:Hid (S=[]):=List.eq_nil_of_length_eq_zero (by omega);have HN:=zH hn;clear h0 hn;go_enter Tryz.func252,Tryz.ntmps252;go_wp2;go_quiet (fail)
  go_wp2;go_ret2
  exact⟨_,rfl,by rw[hS0.out,List.append_nil];exact hW1.out.drewN nq,(hG1.out.drw nq).mono fun k _ q=>.inl q⟩
 have a1:¬((n:Int)<=0):=by omega
 have hw0:IntKind.i64.wrap (0+(n:Int))=(n:Int):=by rw[Int.zero_add,IntWalk.i64_in _ (by omega)]
 have b1:¬((n:Int) < (n:Int)):=by omega
 have hbne:((n:Int) != (n:Int))=false:=by simp
 have HN:=zH hn;clear h0 hn;go_enter Tryz.func252,Tryz.ntmps252;go_wp2;go_quiet (fail)
 go_wp2;generalize hvv:Value.slice A n c=vv at p0 hsl
 go_quiet (fail)
 subst hvv;go_upto_region 6 with(go_at_call 291;refine(c291W gc g _ L S _ (hW1.out.drewN _) (hv1.out.drewN _) (by omega) (by omega)).mono ?_;rintro e w2⟨rfl,hW2,hG2⟩;rw[<-HN.out])
 have hb2:=(hG2.block gy (show gy < (World.drewN (w.setCell ⟨gy,2,none⟩ (.int .i64 (-1))) _).heap.size from hb1.out.lt) (by omega)).trans hb1.out;clear p0 p1 p2 f2;have p1:=Blk.cell hb2 1;have f1:=Blk.frozen hb2 1;have HG3:Hid (Gr (fun k=>k=gy\/g<=k) w w2):=((hG1.out.drw _).mono fun k _ q=>.inl q).trans (hG2.mono fun k _ q=>.inr q);have HW2:=zH hW2;clear hb2 hG2 hW2;go_wp2;go_ret2
 exact⟨_,rfl,HW2.out.gr (gr_set0 (Z:=fun k=>k=gy) (Gr.refl _ _) gy 1 _ rfl) (fun k hk _ q=>by omega),gr_set0 HG3.out gy 1 _ (.inl rfl)⟩
theorem c139S(Z:Nat->Prop)(g0 ty gc g:Nat)(p:Value)(body L:List UInt8)(w:World)(h:RdrAt w Z g0 ty p body)(hW:WrS w gc g L)(hg:g0<=g)(hL:L.length<=40000000) :
  Calls Tryz.prog 139 #[.iface 360 (.pointer (some ⟨gc,0,none⟩)),.iface ty p,.slice none 0 0] w fun e w'=>∃n:Int,e=.returned (.tuple #[.int .i64 n,.nilIface])/\WrS w' gc g (L++body)/\Gr (fun k=>Z k\/g<=k) w w':=by
 rcases h with⟨gb,gd,gs,r,q,i,err,T,S,rfl,rfl,hB,rfl,hS,rfl,hb,hd,hs⟩|⟨gy,A,n,c,pr,rfl,rfl,hb,hv,hS,rfl,hy,hA⟩
 ·have hwt:=hasWT107
  have hm:=mWT107;have HB:=zH hB;have HW:=zH hW;clear hB hW;go_enter Tryz.func139,Tryz.ntmps139;go_wp2_with (go_at_call 244;refine(c244S gb gd gs r q i gc g err T S L _ HB.out HW.out (by omega) hL (by omega)).mono ?_;rintro e w2⟨m,rfl,hW2,hG2⟩);go_ret2
  exact⟨_,rfl,hW2,hG2.mono fun k _ q=>q.elim (fun q=>.inl (.inl q)) (fun q=>q.elim (fun q=>.inl (.inr (.inl q))) (fun q=>q.elim (fun q=>.inl (.inr (.inr q))) .inr))⟩
 have hwt:=hasWT196;have hm:=mWT196;have HB:=zH hb;have HV:=zH hv;have HW:=zH hW;have HA:=zH hA;clear hb hW hv hA;go_enter Tryz.func139,Tryz.ntmps139;go_wp2_with (go_at_call 252;refine(c252S gy n c gc g A pr body L _ HB.out HV.out (fun a ha=>⟨by have:=(HA.out a ha).1;omega,(HA.out a ha).2.1,(HA.out a ha).2.2⟩) HW.out (by omega) hL (by omega)).mono ?_;rintro e w2⟨m,rfl,hW2,hG2⟩);go_ret2
 exact⟨_,rfl,hW2,hG2⟩
theorem c106S(Z:Nat->Prop)(g0 ty gc g:Nat)(p:Value)(body L:List UInt8)(w:World)(h:RdrAt w Z g0 ty p body)(hW:WrS w gc g L)(hg:g0<=g)(hL:L.length<=40000000) :
  Calls Tryz.prog 106 #[.iface 360 (.pointer (some ⟨gc,0,none⟩)),.iface ty p] w fun e w'=>∃n:Int,e=.returned (.tuple #[.int .i64 n,.nilIface])/\WrS w' gc g (L++body)/\Gr (fun k=>Z k\/g<=k) w w':=by
 have H:=zH h;have HW:=zH hW;clear h hW;go_enter Tryz.func106,Tryz.ntmps106;go_wp2_with (go_at_call 139;refine(c139S Z g0 ty gc g p body L _ H.out HW.out hg hL).mono ?_;rintro e w2⟨m,rfl,hW2,hG2⟩);go_ret2
 exact⟨_,rfl,hW2,hG2⟩
theorem c252R(gy n c gc g:Nat)(A:Option Addr)(pr:Int)(S L:List UInt8)(w:World)(hb:Blk w gy #[.slice A n c,.int .i64 0,.int .i64 pr] 251)(hv:RdB w (.slice A n c) S)(hA:∀a,A=some a->a.block < g/\a.spot=none/\a.block≠gy)(hW:WrR w gc g L)(hlt:gy < g)(hL:L.length<=40000000)(hS:S.length<=50000000) :
  Calls Tryz.prog 252 #[.pointer (some ⟨gy,0,none⟩),.iface 365 (.pointer (some ⟨gc,0,none⟩))] w fun e w'=>∃m:Int,e=.returned (.tuple #[.int .i64 m,.nilIface])/\WrR w' gc g (L++S)/\Gr (fun k=>k=gy\/g<=k) w w':=by
 have p0:=hb.cell 0;have p1:=hb.cell 1;have p2:=hb.cell 2;have f2:=hb.frozen 2;have hn:n=S.length:=by obtain⟨A',c',he,_⟩:=hv;injection he
 have hnc:n<=c:=by obtain⟨A',c',he,h2,_⟩:=hv;injection he with _ e2 e3;omega
 have hgl:=hW.lt;have hmW:=mWrR;have HB:=zH hb;have HW:=zH hW;have HV:=zH hv;have hsl:=slZero A n c (fun a ha=>(hA a ha).2.1);have hG1:Hid (Gr (fun k=>k=gy) w (w.setCell ⟨gy,2,none⟩ (.int .i64 (-1)))):=gr_set0 (Gr.refl (fun k=>k=gy) w) gy 2 _ rfl;have hb1:Hid (Blk (w.setCell ⟨gy,2,none⟩ (.int .i64 (-1))) gy #[.slice A n c,.int .i64 0,.int .i64 (-1)] 251):=(HB.out.set_ 2 _).to (by simp);have hv1:Hid (RdB (w.setCell ⟨gy,2,none⟩ (.int .i64 (-1))) (.slice A n c) S):=hv.setNe (fun g' o n' c' q=>by injection q with q;exact(hA _ q).2.2);have hW1:Hid (WrR (w.setCell ⟨gy,2,none⟩ (.int .i64 (-1))) gc g L):=HW.out.gr hG1.out (fun k hk _ q=>by omega);have HA:=zH hA;clear hb hW hv hA;by_cases h0:n=0
 ·have a1:(n:Int)<=0:=by omega
  have hS0:Hid (S=[]):=List.eq_nil_of_length_eq_zero (by omega);have HN:=zH hn;clear h0 hn;go_enter Tryz.func252,Tryz.ntmps252;go_wp2;go_quiet (fail)
  go_wp2;go_ret2
  exact⟨_,rfl,by rw[hS0.out,List.append_nil];exact hW1.out.drewN nq,(hG1.out.drw nq).mono fun k _ q=>.inl q⟩
 have a1:¬((n:Int)<=0):=by omega
 have hw0:IntKind.i64.wrap (0+(n:Int))=(n:Int):=by rw[Int.zero_add,IntWalk.i64_in _ (by omega)]
 have b1:¬((n:Int) < (n:Int)):=by omega
 have hbne:((n:Int) != (n:Int))=false:=by simp
 have HN:=zH hn;clear h0 hn;go_enter Tryz.func252,Tryz.ntmps252;go_wp2;go_quiet (fail)
 go_wp2;generalize hvv:Value.slice A n c=vv at p0 hsl
 go_quiet (fail)
 subst hvv;go_upto_region 6 with(go_at_call 294;refine(c294W gc g _ L S _ (hW1.out.drewN _) (hv1.out.drewN _) (fun g' o n' c' q=>by injection q with q;have:=(HA.out _ q).1;simp only at this;have:=hgl.2;omega) (by omega) (by omega)).mono ?_;rintro e w2⟨rfl,hW2,hG2⟩;rw[<-HN.out])
 have hb2:=(hG2.block gy (show gy < (World.drewN (w.setCell ⟨gy,2,none⟩ (.int .i64 (-1))) _).heap.size from hb1.out.lt) (by omega)).trans hb1.out;clear p0 p1 p2 f2;have p1:=Blk.cell hb2 1;have f1:=Blk.frozen hb2 1;have HG3:Hid (Gr (fun k=>k=gy\/g<=k) w w2):=((hG1.out.drw _).mono fun k _ q=>.inl q).trans (hG2.mono fun k _ q=>.inr q);have HW2:=zH hW2;clear hb2 hG2 hW2;go_wp2;go_ret2
 exact⟨_,rfl,HW2.out.gr (gr_set0 (Z:=fun k=>k=gy) (Gr.refl _ _) gy 1 _ rfl) (fun k hk _ q=>by omega),gr_set0 HG3.out gy 1 _ (.inl rfl)⟩
theorem c139R(Z:Nat->Prop)(g0 ty gc g:Nat)(p:Value)(body L:List UInt8)(w:World)(h:RdrAt w Z g0 ty p body)(hW:WrR w gc g L)(hg:g0<=g)(hL:L.length<=40000000) :
  Calls Tryz.prog 139 #[.iface 365 (.pointer (some ⟨gc,0,none⟩)),.iface ty p,.slice none 0 0] w fun e w'=>∃n:Int,e=.returned (.tuple #[.int .i64 n,.nilIface])/\WrR w' gc g (L++body)/\Gr (fun k=>Z k\/g<=k) w w':=by
 rcases h with⟨gb,gd,gs,r,q,i,err,T,S,rfl,rfl,hB,rfl,hS,rfl,hb,hd,hs⟩|⟨gy,A,n,c,pr,rfl,rfl,hb,hv,hS,rfl,hy,hA⟩
 ·have hwt:=hasWT107
  have hm:=mWT107;have HB:=zH hB;have HW:=zH hW;clear hB hW;go_enter Tryz.func139,Tryz.ntmps139;go_wp2_with (go_at_call 244;refine(c244R gb gd gs r q i gc g err T S L _ HB.out HW.out (by omega) hL (by omega)).mono ?_;rintro e w2⟨m,rfl,hW2,hG2⟩);go_ret2
  exact⟨_,rfl,hW2,hG2.mono fun k _ q=>q.elim (fun q=>.inl (.inl q)) (fun q=>q.elim (fun q=>.inl (.inr (.inl q))) (fun q=>q.elim (fun q=>.inl (.inr (.inr q))) .inr))⟩
 have hwt:=hasWT196;have hm:=mWT196;have HB:=zH hb;have HV:=zH hv;have HW:=zH hW;have HA:=zH hA;clear hb hW hv hA;go_enter Tryz.func139,Tryz.ntmps139;go_wp2_with (go_at_call 252;refine(c252R gy n c gc g A pr body L _ HB.out HV.out (fun a ha=>⟨by have:=(HA.out a ha).1;omega,(HA.out a ha).2.1,(HA.out a ha).2.2⟩) HW.out (by omega) hL (by omega)).mono ?_;rintro e w2⟨m,rfl,hW2,hG2⟩);go_ret2
 exact⟨_,rfl,hW2,hG2⟩
theorem c106R(Z:Nat->Prop)(g0 ty gc g:Nat)(p:Value)(body L:List UInt8)(w:World)(h:RdrAt w Z g0 ty p body)(hW:WrR w gc g L)(hg:g0<=g)(hL:L.length<=40000000) :
  Calls Tryz.prog 106 #[.iface 365 (.pointer (some ⟨gc,0,none⟩)),.iface ty p] w fun e w'=>∃n:Int,e=.returned (.tuple #[.int .i64 n,.nilIface])/\WrR w' gc g (L++body)/\Gr (fun k=>Z k\/g<=k) w w':=by
 have H:=zH h;have HW:=zH hW;clear h hW;go_enter Tryz.func106,Tryz.ntmps106;go_wp2_with (go_at_call 139;refine(c139R Z g0 ty gc g p body L _ H.out HW.out hg hL).mono ?_;rintro e w2⟨m,rfl,hW2,hG2⟩);go_ret2
 exact⟨_,rfl,hW2,hG2⟩
theorem WrS.new(w:World)(g:Nat)(bv:Value)(hd:DigAt w g (.slice none 0 0) [])(hb:Below w.heap.size w w):WrS (w.alloc (.cells #[.iface 176 (.pointer (some ⟨g,0,none⟩)),.slice none 0 0,.bool false] 364)) w.heap.size g []:=by
 have hB:Below w.heap.size w (w.alloc (.cells #[.iface 176 (.pointer (some ⟨g,0,none⟩)),.slice none 0 0,.bool false] 364)):=(zB _ _).alloc (zR _) _;exact⟨.slice none 0 0,.slice none 0 0,[],[],⟨Blk.new w _ _,OwnB.nil _ _,hd.gr (S:=fun _=>False) (Gr.of_below hB) (fun q=>q) (fun _ _ q=>q),hd.lt,by simp[Value.ownBlock],by simp[Value.ownBlock],SimpI.zero⟩,rfl⟩
theorem WrR.new(w:World)(g:Nat)(bv:Value)(hd:DigAt w g (.slice none 0 0) [])(hb:Below w.heap.size w w):WrR (w.alloc (.cells #[.iface 176 (.pointer (some ⟨g,0,none⟩)),.slice none 0 0,.bool false,.bool false,.bool false] 367)) w.heap.size g []:=by
 have hB:Below w.heap.size w (w.alloc (.cells #[.iface 176 (.pointer (some ⟨g,0,none⟩)),.slice none 0 0,.bool false,.bool false,.bool false] 367)):=(zB _ _).alloc (zR _) _;exact⟨.slice none 0 0,.slice none 0 0,⟨Blk.new w _ _,OwnB.nil _ _,hd.gr (S:=fun _=>False) (Gr.of_below hB) (fun q=>q) (fun _ _ q=>q),hd.lt,by simp[Value.ownBlock],by simp[Value.ownBlock]⟩⟩
theorem body64_36(ct:Code)(h:ct=tlS B64 41):tlS B64 36=joinS 5 (tlS B64 36) ct:=by subst h;kernel_rfl
structure Kept(W:World)(g gq b3 b4:Nat)(hv xv kv sv wv:Value)(kd:ByteArray)(kb sg want:List UInt8)(fields keys:List (List UInt8)):Prop where
 row:RdS W hv fields
 keys:RdS W xv keys
 res:W.cell? ⟨gq,0,none⟩=some (.iface 82 (.agg #[.string kd,kv]))
 key:RdB W kv kb
 sig:OwnB W b3 sv sg
 want:OwnB W b4 wv want
 kr:KRow W
theorem rdr_keep{w w2:World}{Z:Nat->Prop}{g0 ty:Nat}{p:Value}{body:List UInt8}(h:RdrAt w Z g0 ty p body)(hb:Below g0 w w2):RdrAt w2 Z g0 ty p body:=by
 rcases h with⟨gb,gd,gs,r,q,i,err,T,S,h1,h2,h3,h4,h5,h6,h7,h8,h9⟩|⟨gy,A,n,c,pr,h1,h2,h3,h4,h5,h6,h7,h8⟩
 ·have hG:Gr (fun k=>g0<=k) w w2:=⟨hb.os,hb.tape,hb.output,hb.size,fun k hk hs=>hb.block k (by omega)⟩
  exact .inl ⟨gb,gd,gs,r,q,i,err,T,S,h1,h2,h3.gr hG (by omega) (by omega) (by omega),h4,h5,h6,h7,h8,h9⟩
 exact .inr ⟨gy,A,n,c,pr,h1,h2,h3.below hb h7,h4.below hb (fun g o n c he=>by injection he with he;exact(h8 _ he).1),h5,h6,h7,h8⟩
def BodTy(ty tw:Nat):Prop:=(ty=224/\tw=360)\/(ty=227/\tw=365)
theorem v7(F:Nat->Value)(ct:Code)(hct:ct=tlS B64 36)(R:Ending->World->Prop)(w:World)(Z:Nat->Prop)(g0 g tyr ty ty2 tw gq b3 b4 cH cK:Nat)(form:List UInt8)(AH AK:Option Addr)(hp hp2 pr kv sv wv:Value)(body L kb sg want field:List UInt8)(kd:ByteArray)(fields keys:List (List UInt8))(h0:F 0=.slice AH fields.length cH)(h1:F 1=.iface tyr pr)(h2:F 2=.string (B field))(h21:F 21=.slice AK keys.length cK)(h36:F 36=.pointer (some ⟨gq,0,none⟩))(h51:F 51=.iface ty hp)(h52:F 52=.iface ty2 hp2)(h55:F 55=wv)(h56:F 56=sv)(hbod:BodTy ty2 tw)
  (hform:CanTy ty form)(hg:Hid (w.heap.size=g))(hg0:g0<=g)(hrd:Hid (RdrAt w Z g0 tyr pr body))(hkept:Hid (∀W,Gr (fun k=>Z k\/g<=k) w W->Kept W g gq b3 b4 (.slice AH fields.length cH) (.slice AK keys.length cK) kv sv wv kd kb sg want fields keys))
  (hAH:Hid (∀a,AH=some a->a.block < g))(hAK:Hid (∀a,AK=some a->a.block < g))
  (hL:Hid ((pickedN fields [] keys).flatMap (fldW form)=L))(hkn:keys.length<=100000000)(hfn:fields.length<=1073741824)
  (hfl1:Hid (allLe 268435456 fields))(hfp1:Hid (∀f∈fields,plainL f))(hkl1:Hid (allLe 268435456 keys))(hkp:Hid (∀k∈keys,plainL k))
  (hgq:gq < g)(h6:6 < g)(hbl:Hid ((bodyTy tw body).length<=536870912))(hbl2:body.length<=20000000)
  (hfp:Hid (plainL field))(hfl:field.length<=268435456)(hem:Hid (plainL (emptied field)/\(emptied field).length<=268435456))(hfo:Hid ((fieldOf form (emptied field)).length<=1073741824))
  (hLl:Hid (L.length+(without (fieldOf form (emptied field))).length<=1073741824))(hkl:kb.length<=536870912)(hsha:Hid (∀l,(sha l).length<=536870912))
  (hR:∀(err:Value) (w':World),ErrIs err (if want=sha (bodyTy tw body)then(if sg=sha (kb++sha (L++without (fieldOf form (emptied field))))then 0 else 1)else 1)->Gr (fun k=>Z k\/g<=k) w w'->R (.returned (.tuple #[F 12,err])) w') :
  Code.wp Tryz.prog ct (bodyPost Tryz.prog Tryz.f64 R) ⟨frS 506 F,[]⟩ w:=by
 obtain⟨ct2,hct2⟩:∃ct2,Hid (ct2=tlS B64 41):=⟨_,rfl⟩;subst hct;rw[body64_36 ct2 hct2.out];conv=>arg 2;whnf
 simp only[joinS];rw[fr506,h0,h1,h2,h21,h36,h51,h52,h55,h56];clear h0 h1 h2 h21 h36 h51 h52 h55 h56;have HR:=zH hR;have HFO:=zH hform;have hmB:=mBodS hp2;have hmC:=mClS;have hmB2:=mBodR hp2;have hmC2:=mClR;obtain⟨bt,hbt⟩:∃bt,Hid (bodyTy tw body=bt):=⟨_,rfl⟩;rw[hbt.out]at HR hbl;obtain⟨hs,hhs⟩:∃hs,Hid (sha bt=hs):=⟨_,rfl⟩;rw[hhs.out]at HR;clear hR hform;rcases hbod with⟨rfl,rfl⟩|⟨rfl,rfl⟩ <;> by_cases hq:want=hs
 all_goals
  first|rw[if_pos hq]at HR|rw[if_neg hq]at HR
  obtain⟨bq,hbq⟩:∃bq,Hid ((hs == want)=bq):=⟨_,rfl⟩
  first|(have eb:bq=true:=hbq.out.symm.trans (zE hq.symm);subst eb)|(have eb:bq=false:=hbq.out.symm.trans (zF (fun q=>hq q.symm));subst eb)
  clear hq;go_wp2_with (first
   |(go_at_call 105;refine(c105 _).mono ?_;rintro e w1⟨rfl,hd1,hb1⟩;rw[hg.out]at hd1 hb1 ⊢;have hG1:Gr (fun k=>Z k\/g<=k) w w1:=Gr.of_below (by rw[hg.out];exact hb1);obtain⟨gc,hgc⟩:∃gc,Hid (w1.heap.size=gc):=⟨_,rfl⟩)
   |((first|(go_at_call 264;refine(c264 _ _ _ _).mono ?_;rintro e w2⟨rfl,hw2⟩;have hW2:=WrS.new w1 g .nilIface hd1 (zB _ _))|(go_at_call 266;refine(c266 _ _ _ _).mono ?_;rintro e w2⟨rfl,hw2⟩;have hW2:=WrR.new w1 g .nilIface hd1 (zB _ _)));rw[<-hw2,hgc.out]at hW2;have hB2:Below w1.heap.size w1 w2:=(by rw[hw2];exact(zB _ _).alloc (zR _) _);rw[hgc.out];have hG2:=hG1.trans (Gr.of_below (S:=fun k=>Z k\/g<=k) hB2);clear hw2)
   |(go_at_call 106;have hrk:=rdr_keep hrd.out ((hb1.trans (hB2.mono (by have:=hb1.size;have:=hg.out;omega))).mono hg0);(first|refine(c106S Z g0 tyr gc g pr body [] _ hrk hW2 hg0 (by simp)).mono ?_|refine(c106R Z g0 tyr gc g pr body [] _ hrk hW2 hg0 (by simp)).mono ?_);rintro e w3⟨nn,rfl,hW3,hG3'⟩;have hG3:=hG2.trans hG3';rw[List.nil_append]at hW3)
   |((first|(go_at_call 290;refine(c290W gc g body _ hW3 (by omega)).mono ?_)|(go_at_call 293;refine(c293W gc g body _ hW3 (by omega)).mono ?_));rintro e w4⟨rfl,bv4,hd4,hG4'⟩;have hG4:=hG3.trans (hG4'.mono fun k _ q=>Or.inr q);have hd4':DigAt w4 g bv4 bt:=by rw[<-hbt.out];exact hd4)
   |(go_at_call 108;refine(c108 g bv4 bt _ hd4' (by have:=hbl.out;omega) (hkept.out _ hG4).kr).mono ?_;rintro e w5⟨v5,rfl,ho5,hd5,hg5⟩;have hG5:Gr (fun k=>Z k\/g<=k) w w5:=hG4.trans ((Gr.of_grown hg5).mono fun k _ q=>Or.inr (by injection q with q;omega));rw[hhs.out]at ho5;have hb5:∀W,Below g w5 W->Gr (fun k=>Z k\/g<=k) w5 W:=fun W hb=>⟨hb.os,hb.tape,hb.output,hb.size,fun k hk q=>hb.block k (by omega)⟩;have HK5:Hid (∀W,Below g w5 W->Kept W g gq b3 b4 (.slice AH fields.length cH) (.slice AK keys.length cK) kv sv wv kd kb sg want fields keys):=fun W hb=>hkept.out W (hG5.trans (hb5 W hb)))
   |(go_at_call 107;refine(c107 _ _ hs want _ ho5.str (hkept.out _ hG5).want.str).mono ?_;rintro e w6⟨rfl,rfl⟩;rw[hbq.out]))
  first
   |(refine HR.out _ _ ?_ hG5;exact .inr (.inr (.inr ⟨_,rfl,rfl⟩)))
   |(refine useF 506 _ (by kernel_rfl) ?_;exact v8 _ ct2 hct2.out R w5 w5 ty g gq b3 cH cK form AH AK hp kv sv bv4 bt L kb sg field kd fields keys rfl rfl rfl rfl rfl rfl rfl HFO.out hd5 (zB _ _) (HK5.out _ (zB _ _)).row hAH (HK5.out _ (zB _ _)).keys hAK hL hkn hfn hfl1 hfp1 hkl1 hkp (HK5.out _ (zB _ _)).res hgq (fun W hb=>(HK5.out W hb).key) (fun W hb=>(HK5.out W hb).sig) (HK5.out _ (zB _ _)).kr h6 hfp hfl hem hfo hLl hkl hsha (fun err w' he hb=>HR.out _ _ he (hG5.trans (hb5 w' hb))))
theorem skipSc_sub(l:List UInt8):(skipSc l).Sublist l:=by
 induction l with
 |nil=>exact List.Sublist.refl _
 |cons c l ih =>
  unfold skipSc;split
  ·exact List.Sublist.refl _
  exact ih.cons _
theorem emptiedN_sub(n:Nat):∀l:List UInt8,(emptiedN n l).Sublist l:=by
 induction n with
 |zero=>intro l;exact List.nil_sublist _
 |succ n ih =>
  intro l;cases l with
  |nil=>exact List.nil_sublist _
  |cons c m =>
   rw[emptiedN];split
   ·split
    ·rename_i e m2 he
     split
     ·refine List.Sublist.cons_cons _ ?_
      have h:=takeBl_trimL m;rw[he]at h;have h2:(takeBl m++e::emptiedN n (skipSc m2)).Sublist (takeBl m++e::m2):=List.Sublist.append (List.Sublist.refl _) (((ih _).trans (skipSc_sub m2)).cons_cons _);rw[h]at h2;exact h2
     exact(ih m).cons_cons _
    exact(ih m).cons_cons _
   exact(ih m).cons_cons _
theorem emptied_sub(l:List UInt8):(emptied l).Sublist l:=emptiedN_sub _ l
theorem emptied_le(l:List UInt8):(emptied l).length<=l.length:=(emptied_sub l).length_le
theorem plain_emptied{l:List UInt8}(h:plainL l):plainL (emptied l):=fun c hc=>h c ((emptied_sub l).subset hc)
theorem wB_len(l:List W32):(l.flatMap wBytes).length=4*l.length:=by
 induction l with
 |nil=>rfl
 |cons x l ih=>rw[List.flatMap_cons,zA,ih];show 4+4*l.length=4*(l.length+1);omega
theorem sha_len(l:List UInt8):(sha l).length=32:=by
 unfold sha;rw[wB_len,compN_len];rfl
theorem fieldOf_le(form l:List UInt8):(fieldOf form l).length<=4*l.length+8:=by
 unfold fieldOf;split
 ·omega
 split
 ·have h1:=trim_le (lower (cutA 58 l));have h2:=cutA_le 58 l;have h3:=joinedLe false false (cutZ 58 l);have h4:=cutZ_le 58 l
  rw[lower_len]at h1;simp only[zA,List.length_cons,List.length_nil];omega
 have h1:=trim_le (lower l);rw[lower_len]at h1;simp only[zA,List.length_cons,List.length_nil];omega
theorem dropEnds_le(l:List UInt8):(dropEnds l).length<=l.length:=by
 induction l with
 |nil=>simp[dropEnds]
 |cons c l ih=>unfold dropEnds;split <;> simp <;> omega
theorem without_le(l:List UInt8):(without l).length<=l.length:=by
 unfold without;rw[List.length_reverse];have:=dropEnds_le l.reverse;rw[List.length_reverse]at this;exact this
theorem dropCRLF_le : ∀(n:Nat) (l:List UInt8),l.length<=n->(dropCRLF l).length<=l.length:=by
 intro n;induction n with
 |zero=>intro l h;rw[List.eq_nil_of_length_eq_zero (by omega:l.length=0)];simp[dropCRLF]
 |succ n ih =>
  intro l h;unfold dropCRLF;split
  ·split
   ·rename_i c d m _;have:=ih m (by simp at h;omega);simp;omega
   exact zR _
  exact zR _
theorem bodyS_le(l:List UInt8):(bodyS l).length<=l.length:=by
 unfold bodyS;rw[List.length_reverse];have:=dropCRLF_le _ l.reverse (zR _);rw[List.length_reverse]at this;exact this
theorem bodyTy_le(ty:Nat)(l:List UInt8):(bodyTy ty l).length<=4*l.length+2:=by
 unfold bodyTy;have h1:=endedLe false l;split
 ·have h2:=bodyS_le (ended false l);simp only[zA,List.length_cons,List.length_nil];omega
 have h2:=relaxed_len (ended false l) false [];unfold bodyR;split
 ·simp
 simp only[zA,List.length_cons,List.length_nil]at *;omega
structure Kept5(W:World)(gq:Nat)(hv xv kv:Value)(kd:ByteArray)(kb:List UInt8)(fields keys:List (List UInt8)):Prop where
 row:RdS W hv fields
 keys:RdS W xv keys
 res:W.cell? ⟨gq,0,none⟩=some (.iface 82 (.agg #[.string kd,kv]))
 key:RdB W kv kb
 kr:KRow W
theorem body64_31(ct:Code)(h:ct=tlS B64 36):tlS B64 31=joinS 5 (tlS B64 31) ct:=by subst h;kernel_rfl
theorem v6(F:Nat->Value)(ct:Code)(hct:ct=tlS B64 31)(R:Ending->World->Prop)(w:World)(Z:Nat->Prop)(g0 tyr ty ty2 tw gq mp nM cH cK:Nat)(form:List UInt8)(AH AK:Option Addr)(hp hp2 pr kv:Value)(body L kb field:List UInt8)(T:List Pair)(kd:ByteArray)(fields keys:List (List UInt8))(h0:F 0=.slice AH fields.length cH)(h1:F 1=.iface tyr pr)(h2:F 2=.string (B field))(h13:F 13=.map (some mp))(h21:F 21=.slice AK keys.length cK)(h36:F 36=.pointer (some ⟨gq,0,none⟩))(h51:F 51=.iface ty hp)(h52:F 52=.iface ty2 hp2)(hbod:BodTy ty2 tw)
  (hform:CanTy ty form)(hM:Hid (OwnM w mp nM T))(hT:Hid (∀t,(valOf t T).length<=1073741824/\plainL (valOf t T)))(hg0:g0<=w.heap.size)(hZ:Hid (∀k,Z k->k < g0))(hrd:Hid (RdrAt w Z g0 tyr pr body))(hkept:Hid (∀W,Gr (fun k=>Z k\/w.heap.size<=k) w W->Kept5 W gq (.slice AH fields.length cH) (.slice AK keys.length cK) kv kd kb fields keys))
  (hAH:Hid (∀a,AH=some a->a.block < w.heap.size))(hAK:Hid (∀a,AK=some a->a.block < w.heap.size))
  (hL:Hid ((pickedN fields [] keys).flatMap (fldW form)=L))(hkn:keys.length<=100000000)(hfn:fields.length<=1073741824)
  (hfl1:Hid (allLe 268435456 fields))(hfp1:Hid (∀f∈fields,plainL f))(hkl1:Hid (allLe 268435456 keys))(hkp:Hid (∀k∈keys,plainL k))
  (hgq:gq < w.heap.size)(h6:6 < w.heap.size)(hbl2:body.length<=20000000)
  (hfp:Hid (plainL field))(hfl:field.length<=100000000)(hLl:L.length<=500000000)(hkl:kb.length<=536870912)
  (hR:∀(err:Value) (w':World),ErrIs err (if hasTag [108] T=true then 1 else match unb64 (strip (valOf [98,104] T)),unb64 (strip (valOf [98] T))with
    |some want,some sg=>if want=sha (bodyTy tw body)then(if sg=sha (kb++sha (L++without (fieldOf form (emptied field))))then 0 else 1)else 1
    |_,_=>2)->Gr (fun k=>Z k\/w.heap.size<=k) w w'->R (.returned (.tuple #[F 12,err])) w') :
  Code.wp Tryz.prog ct (bodyPost Tryz.prog Tryz.f64 R) ⟨frS 506 F,[]⟩ w:=by
 obtain⟨ct2,hct2⟩:∃ct2,Hid (ct2=tlS B64 36):=⟨_,rfl⟩;subst hct;rw[body64_31 ct2 hct2.out];conv=>arg 2;whnf
 simp only[joinS];rw[fr506,h0,h1,h2,h13,h21,h36,h51,h52];clear h0 h1 h2 h13 h21 h36 h51 h52;have HR:=zH hR;have HFO:=zH hform;have hk108:(Instr.lookup 155 (.map (some mp)) (.string ⟨#[108]⟩) true).run Tryz.prog w=.ok (.tuple #[.string (B (valOf [108] T)),.bool (hasTag [108] T)]) w:=hM.out.look_ok ⟨#[108]⟩ (by decide);clear hR hform;by_cases h1:hasTag [108] T=true
 ·rw[if_pos h1]at HR
  rw[h1]at hk108;clear h1;go_wp2;refine HR.out _ _ ?_ (Gr.refl _ _);exact .inr (.inr (.inr ⟨_,rfl,rfl⟩))
 rw[if_neg h1]at HR;rw[Bool.not_eq_true _ |>.mp h1]at hk108;clear h1;have kbh:(Instr.lookup 155 (.map (some mp)) (.string ⟨#[98,104]⟩) false).run Tryz.prog w=.ok (.string (B (valOf [98,104] T))) w:=hM.out.look ⟨#[98,104]⟩ (by decide);have hme:=mErr;cases hu:unb64 (strip (valOf [98,104] T))with
 |none =>
  rw[hu]at HR;go_wp2_with (first
   |(go_at_call 104;refine(c104 (B (valOf [98,104] T)) _ (by rw[size_B];exact(hT.out _).1) (by rw[L_B];exact(hT.out _).2)).mono ?_;rintro e w1⟨v1,er1,rfl,hd1,hb1⟩;rw[L_B,hu]at hd1;obtain⟨m1,⟨ge,rfl,hce⟩,_⟩:=hd1)
   |(go_at_call 270;refine(c270 _ _ _ hce).mono ?_;rintro e w7⟨rfl,rfl⟩))
  refine HR.out _ _ ?_ (Gr.of_below hb1);exact .inr (.inl ⟨_,rfl,rfl⟩)
 |some want =>
  rw[hu]at HR;cases hu2:unb64 (strip (valOf [98] T))with
  |none =>
   rw[hu2]at HR;go_wp2_with (first
    |(go_at_call_of 104 (Value.string (B (valOf [98,104] T)));refine(c104 (B (valOf [98,104] T)) _ (by rw[size_B];exact(hT.out _).1) (by rw[L_B];exact(hT.out _).2)).mono ?_;rintro e w1⟨v1,er1,rfl,hd1,hb1⟩;rw[L_B,hu]at hd1;obtain⟨rfl,ho1⟩:=hd1;have kb2:=(hM.out.below hb1).look ⟨#[98]⟩ (by decide))
    |(go_at_call_of 104 (Value.string (B (valOf [98] T)));refine(c104 (B (valOf [98] T)) _ (by rw[size_B];exact(hT.out _).1) (by rw[L_B];exact(hT.out _).2)).mono ?_;rintro e w2⟨v2,er2,rfl,hd2,hb2⟩;rw[L_B,hu2]at hd2;obtain⟨m1,⟨ge,rfl,hce⟩,_⟩:=hd2;have hb12:=hb1.trans (hb2.mono hb1.size))
    |(go_at_call 270;refine(c270 _ _ _ hce).mono ?_;rintro e w7⟨rfl,rfl⟩))
   refine HR.out _ _ ?_ (Gr.of_below hb12);exact .inr (.inl ⟨_,rfl,rfl⟩)
  |some sg =>
   rw[hu2]at HR;go_wp2_with (first
    |(go_at_call_of 104 (Value.string (B (valOf [98,104] T)));refine(c104 (B (valOf [98,104] T)) _ (by rw[size_B];exact(hT.out _).1) (by rw[L_B];exact(hT.out _).2)).mono ?_;rintro e w1⟨v1,er1,rfl,hd1,hb1⟩;rw[L_B,hu]at hd1;obtain⟨rfl,ho1⟩:=hd1;have kb2:=(hM.out.below hb1).look ⟨#[98]⟩ (by decide))
    |(go_at_call_of 104 (Value.string (B (valOf [98] T)));refine(c104 (B (valOf [98] T)) _ (by rw[size_B];exact(hT.out _).1) (by rw[L_B];exact(hT.out _).2)).mono ?_;rintro e w2⟨v2,er2,rfl,hd2,hb2⟩;rw[L_B,hu2]at hd2;obtain⟨rfl,ho2⟩:=hd2;have hb12:=hb1.trans (hb2.mono hb1.size)))
   have hs1:=hb1.size;have hs2:=hb2.size;have hem:=zH (And.intro (plain_emptied hfp.out) (zT (zT (emptied_le field) hfl) (by decide:100000000<=268435456)));have he1:=emptied_le field;have hf1:=fieldOf_le form (emptied field);have hw1:=without_le (fieldOf form (emptied field));have hb1':=bodyTy_le tw body;refine useF 506 _ (by kernel_rfl) ?_;refine v7 _ ct2 hct2.out R w2 Z g0 w2.heap.size tyr ty ty2 tw gq w1.heap.size w.heap.size cH cK form AH AK hp hp2 pr kv v2 v1 body L kb sg want field kd fields keys rfl rfl rfl rfl rfl rfl rfl rfl rfl hbod HFO.out rfl (by omega) (rdr_keep hrd.out (hb12.mono hg0)) ?_ (fun a ha=>by have:=hAH.out a ha;omega) (fun a ha=>by have:=hAK.out a ha;omega) hL hkn hfn hfl1 hfp1 hkl1 hkp (by omega) (by omega) (by unfold Hid;omega) hbl2 hfp (by omega) hem (by unfold Hid;omega) (by unfold Hid;omega) hkl (fun l=>by rw[sha_len];decide) ?_
   ·intro W hG
    have hK:=hkept.out W ((Gr.of_below hb12).trans (hG.mono fun k _ q=>q.imp id (fun h=>by omega)));exact⟨hK.row,hK.keys,hK.res,hK.key,ho2.gr hG (fun k hk q=>by have:=(ho2.lt k hk);rcases q with q|q;(have:=hZ.out k q;omega);omega),(ho1.below hb2).gr hG (fun k hk q=>by have:=((ho1.below hb2).lt k hk);rcases q with q|q;(have:=hZ.out k q;omega);omega),hK.kr⟩
   intro err w' he hG;exact HR.out _ _ he ((Gr.of_below hb12).trans (hG.mono fun k _ q=>q.imp id (fun h=>by omega)))
end Go.Proofs.YtnkihlpmmfeioaaGreatDoor
