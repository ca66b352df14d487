/- Part of the proof that laws.FnDVerifies answers true: A76,A77 -/
import Derived.Lib.AppendZeros
import Derived.Test.YtnkihlpmmfeioaaGreatDoorZ34
set_option linter.unusedVariables false
set_option linter.unusedSimpArgs false
set_option maxRecDepth 1000000
set_option maxHeartbeats 16000000
namespace Go.Proofs.YtnkihlpmmfeioaaGreatDoor
open Go.RowKit
theorem c243y(gb gd gs r q i g o n c:Nat)(err:Value)(T S:List UInt8)(pE pF:Addr)(w:World)(h:BufAt w gb gd gs r q i err T S)(hok:errOk err i S pE)(hE:Errs w pE pF)(hS:S.length<=1099511627776)(h3:errTop pE pF < gb/\errTop pE pF < gd/\errTop pE pF < gs)
  (hn0:0 < n)(hc:∀j,j < n->(w.cell? ⟨g,o+j,none⟩).isSome=true)(hf:∀j,j < n->w.frozen? ⟨g,o+j,none⟩=false)(hg:g≠gb/\g≠gd/\g≠gs)(hgE:errTop pE pF < g)(hR:restOf r q i T S≠[]) :
  Calls Tryz.prog 243 #[.pointer (some ⟨gb,0,none⟩),.slice (some ⟨g,o,none⟩) n c] w fun e w'=>∃(k:Nat) (X:List UInt8),0 < k/\k<=n/\X.length=k/\e=.returned (.tuple #[.int .i64 (k:Int),.nilIface])/\w'.heap[g]?=(w.setCells g o (byteVs X)).heap[g]?/\Gr (fun k=>k=g\/k=gb\/k=gd\/k=gs) w w' /\
   ∃r' q' i' err' T',BufAt w' gb gd gs r' q' i' err' T' S/\errOk err' i' S pE/\restOf r q i T S=X++restOf r' q' i' T' S :=
 (c243 gb gd gs r q i g o n c err T S pE pF w h hok hE hS h3 hn0 hc hf hg hgE).mono fun e w' h=>h.elim id (fun h=>absurd h.1 hR)
theorem c243n(gb gd gs r q i g o n c:Nat)(err:Value)(T S:List UInt8)(pE pF:Addr)(w:World)(h:BufAt w gb gd gs r q i err T S)(hok:errOk err i S pE)(hE:Errs w pE pF)(hS:S.length<=1099511627776)(h3:errTop pE pF < gb/\errTop pE pF < gd/\errTop pE pF < gs)
  (hn0:0 < n)(hc:∀j,j < n->(w.cell? ⟨g,o+j,none⟩).isSome=true)(hf:∀j,j < n->w.frozen? ⟨g,o+j,none⟩=false)(hg:g≠gb/\g≠gd/\g≠gs)(hgE:errTop pE pF < g)(hR:restOf r q i T S=[]) :
  Calls Tryz.prog 243 #[.pointer (some ⟨gb,0,none⟩),.slice (some ⟨g,o,none⟩) n c] w fun e w'=>e=.returned (.tuple #[.int .i64 0,eofV pE])/\w'.heap[g]?=w.heap[g]?/\Gr (fun k=>k=g\/k=gb\/k=gd\/k=gs) w w'/\∃r' q' i' err' T',BufAt w' gb gd gs r' q' i' err' T' S/\errOk err' i' S pE/\restOf r' q' i' T' S=[] :=
 (c243 gb gd gs r q i g o n c err T S pE pF w h hok hE hS h3 hn0 hc hf hg hgE).mono fun e w' h=>h.elim (fun⟨k,X,h1,_,h2,_,_,_,_,_,_,_,_,_,_,h3⟩=>by
  rw[hR]at h3;have:=(List.append_eq_nil_iff.1 h3.symm).1;rw[this]at h2;simp at h2;omega) (fun h=>h.2)
theorem mRd107(p:Addr)(w:World):(method 488 107 (.pointer (some p)) "Read").run Tryz.prog w=.ok (243,.pointer (some p)) w:=by kernel_rfl
theorem na107(p:Addr)(W:World):(nilAhead 488 107 (.pointer (some p)) "Read").run Tryz.prog W=.ok (some false) W:=by kernel_rfl
theorem info33 : (Tryz.prog.info? 33).map (fun i=>(i.zero,i.size,i.bytes))=some (some (.slice none 0 0),1,24):=by kernel_rfl
theorem OwnB.fill{w w1:World}{base g o n c:Nat}{bs X:List UInt8}(h:OwnB w base (.slice (some ⟨g,o,none⟩) n c) bs)(hm:n+X.length<=c)(hh:w1.heap[g]?=(w.setCells g (o+n) (byteVs X)).heap[g]?)(hs:w.heap.size<=w1.heap.size) :
  OwnB w1 base (.slice (some ⟨g,o,none⟩) (n+X.length) c) (bs++X):=by
 rcases h with⟨he,_⟩|⟨g',off,cap,he,h1,h2,h3,h4,h5,h6,h7⟩
 ·cases he
 injection he with e1 e2 e3
 injection e1 with e1
 injection e1 with e1 e4
 subst e1 e2 e3 e4;refine .inr ⟨g,o,c,by rw[zA],h1,by omega,by rw[zA];exact hm,h4,fun k x hk=>?_,fun k hk=>?_,fun k hk=>?_⟩
 ·rw[World.cell?_of_block (a:=⟨g,o+k,none⟩) hh]
  by_cases hkl:k < bs.length
  ·rw[List.getElem?_append_left hkl]at hk
   rw[World.cell?_setCells_out g _ _ _ _ (fun _ _=>.inl (by simp;omega))];exact h5 k x hk
  rw[List.getElem?_append_right (by omega)]at hk;have hkm:=(List.getElem?_eq_some_iff.1 hk).1;have hin:=World.cell?_setCells_in g (byteVs X) (o+bs.length) w (fun j hj=>by rw[byteVs_len]at hj;rw[Nat.add_assoc];exact h6 _ (by omega)) (k - bs.length) (by rw[byteVs_len];omega);rw[show o+bs.length+(k - bs.length)=o+k by omega]at hin;rw[hin,<-byteVs_at hk,zG (by rw[byteVs_len];omega)]
 ·rw[World.cell?_of_block (a:=⟨g,o+k,none⟩) hh];exact World.isSome_setCells' g _ _ _ _ (h6 k hk)
 rw[World.frozen?_of_block (a:=⟨g,o+k,none⟩) hh,World.frozen?_setCells];exact h7 k hk
theorem OwnB.parts{w:World}{base g o n c:Nat}{bs:List UInt8}(h:OwnB w base (.slice (some ⟨g,o,none⟩) n c) bs) :
  base<=g/\g < w.heap.size/\n=bs.length/\n<=c/\c<=maxLen/\(∀i:Nat,i < c->(w.cell? ⟨g,o+i,none⟩).isSome=true)/\∀i:Nat,i < c->w.frozen? ⟨g,o+i,none⟩=false:=by
 rcases h with⟨he,_⟩|⟨g',off,cap,he,h1,h2,h3,h4,h5,h6,h7⟩
 ·cases he
 injection he with e1 e2 e3
 injection e1 with e1
 injection e1 with e1 e4
 subst e1 e2 e3 e4;exact⟨h1,h2,rfl,h3,h4,h6,h7⟩
theorem zapp(n:Nat)(h0:0 < n)(hn:n<=140737488355328)(ty:TypeId)(W:World)(base:Nat)(hb:base<=W.heap.size):∃cap W',n<=cap/\(Builtin.append_ #[33,3] ty #[.slice none 0 0,.int .i64 (n:Int)]).run Tryz.prog W=.ok (.slice (some ⟨W.heap.size,0,none⟩) n cap) W' /\
  OwnB W' base (.slice (some ⟨W.heap.size,0,none⟩) 0 cap) []/\Below W.heap.size W W'/\cap<=maxLen:=by
 obtain⟨i,hi,hz,hi1,hi2⟩:=info5';have hge:=grownCap_ge W n 0 5;have hcm:=grownCap_le_maxLen W n 0 5 (by simp only[maxLen];omega);have hr:=Lib.run_append_nil_zeros (P:=Tryz.prog) W 33 3 ty 5 i _ .i64 .i64 Tryz.underlying33 Tryz.underlying3 hi hz n h0 (by omega) (by omega) (by rw[hi2];omega);refine⟨_,_,hge,hr,?_,?_,hcm⟩
 ·refine OwnB.new W.drew base hb _ 5 [] 0 _ rfl (by simp) ?_ hcm (fun i c h=>by simp at h)
  simp only[Array.size_append,size_zeroCells];show _*1+_*1=_;omega
 exact(show Below W.heap.size W W.drew from⟨rfl,rfl,rfl,zR _,fun _ _=>rfl⟩).alloc (zR _) _
def ChAt(w:World)(bad:Nat->Prop)(vs:List Value)(CH:List (List UInt8)):Prop:=vs.length=CH.length/\∀(j:Nat) (l:List UInt8),CH[j]?=some l->∃A n c,vs[j]?=some (.slice A n c)/\RdB w (.slice A n c) l/\∀a,A=some a->a.block < w.heap.size/\¬bad a.block
theorem ChAt.nil(w:World)(bad:Nat->Prop):ChAt w bad [] []:=⟨rfl,fun j l h=>by cases h⟩
theorem RdB.gr{Z:Nat->Prop}{w w':World}{A:Option Addr}{n c:Nat}{l:List UInt8}(h:RdB w (.slice A n c) l)(hG:Gr Z w w')(hz:∀a,A=some a->¬Z a.block):RdB w' (.slice A n c) l:=by
 obtain⟨A',c',he,hc,h2⟩:=h;injection he with e1 e2 e3
 subst e1 e2 e3;refine⟨A,c,rfl,hc,fun hp=>?_⟩;obtain⟨g,off,rfl,h5⟩:=h2 hp;exact⟨g,off,rfl,fun i x hx=>(World.cell?_of_block (a:=⟨g,off+i,none⟩) (hG.block g (cell_lt (h5 i x hx)) (hz _ rfl))).trans (h5 i x hx)⟩
theorem ChAt.gr{Z bad bad':Nat->Prop}{w w':World}{vs:List Value}{CH:List (List UInt8)}(h:ChAt w bad vs CH)(hG:Gr Z w w')(hz:∀k,k < w.heap.size->Z k->bad k)(hb:∀k,k < w.heap.size->bad' k->bad k):ChAt w' bad' vs CH :=
 ⟨h.1,fun j l hl=>by
  obtain⟨A,n,c,h1,h2,h3⟩:=h.2 j l hl;exact⟨A,n,c,h1,h2.gr hG (fun a ha hq=>(h3 a ha).2 (hz _ (h3 a ha).1 hq)),fun a ha=>⟨zL (h3 a ha).1 hG.size,fun q=>(h3 a ha).2 (hb _ (h3 a ha).1 q)⟩⟩⟩
theorem ChAt.add{bad:Nat->Prop}{w:World}{vs:List Value}{CH:List (List UInt8)}{A:Option Addr}{n c:Nat}{l:List UInt8}(h:ChAt w bad vs CH)(hr:RdB w (.slice A n c) l)(ha:∀a,A=some a->a.block < w.heap.size/\¬bad a.block):ChAt w bad (vs++[.slice A n c]) (CH++[l]):=by
 refine⟨by simp[h.1],fun j m hm=>?_⟩;by_cases hj:j < CH.length
 ·rw[List.getElem?_append_left hj]at hm
  obtain⟨A',n',c',h1,h2,h3⟩:=h.2 j m hm;exact⟨A',n',c',by rw[List.getElem?_append_left (by rw[h.1];exact hj)];exact h1,h2,h3⟩
 rw[List.getElem?_append_right (by omega)]at hm;have hj0:j - CH.length=0:=by
  have:=(List.getElem?_eq_some_iff.1 hm).1;simp at this;omega
 rw[hj0]at hm;injection hm with hm
 subst hm;exact⟨A,n,c,by rw[List.getElem?_append_right (by rw[h.1];omega),h.1,hj0];rfl,hr,ha⟩
theorem Own.gr2{S:Nat->Prop}{w w':World}{base:Nat}{e:TypeId}{v:Value}{xs:List Value}(h:Own w base e v xs)(hG:Gr S w w')(hS:∀k,v.ownBlock=some k->¬S k):Own w' base e v xs:=by
 obtain⟨h1,h2⟩:=h;rcases h2 with h2|⟨g,cap,cur,r1,r2,r3,r4⟩
 ·exact⟨h1,.inl h2⟩
 exact⟨h1,.inr ⟨g,cap,cur,r1,r2,(hG.block g (Array.getElem?_eq_some_iff.1 r3).1 (hS g (by rw[r1];rfl))).trans r3,r4⟩⟩
theorem c115(gb gd gs r q i:Nat)(err:Value)(T S:List UInt8)(pE pF:Addr)(w:World)(h:BufAt w gb gd gs r q i err T S)(hok:errOk err i S pE)(hE:Errs w pE pF)(hS:S.length<=1099511627776)(h3:errTop pE pF < gb/\errTop pE pF < gd/\errTop pE pF < gs)
  (hrl:(restOf r q i T S).length<=268435456) :
  Calls Tryz.prog 115 #[.iface 107 (.pointer (some ⟨gb,0,none⟩))] w fun e w'=>∃v,e=.returned (.tuple #[v,.nilIface])/\OwnB w' w.heap.size v (restOf r q i T S)/\Gr (fun k=>k=gb\/k=gd\/k=gs) w w':=by
 obtain⟨rest,hrest⟩:∃rest,Hid (restOf r q i T S=rest):=⟨_,rfl⟩;rw[hrest.out]at hrl ⊢;have HLT:Hid (gb < w.heap.size/\gd < w.heap.size/\gs < w.heap.size):=by obtain⟨lb,ls,hb⟩:=h.blk;exact⟨hb.lt,h.buf.lt,h.rd.lt⟩
 have H:=zH h;have HE:=zH hE;have HK:=zH hok;have hmR:=mRd107;have hna:=na107;have hmk:(Instr.makeSlice 33 (.int .i64 0) (.int .i64 512)).run Tryz.prog w=.ok (.slice (some ⟨w.heap.size,0,none⟩) 0 512) (w.alloc (.cells (madeCells #[.int .u8 0] 512) 5)):=make_bytes 512 (by omega) w;have hmk2:∀W:World,(Instr.makeSlice 249 (.int .i64 0) (.int .i64 4)).run Tryz.prog W=.ok (.slice (some ⟨W.heap.size,0,none⟩) 0 4) (W.alloc (.cells #[.slice none 0 0,.slice none 0 0,.slice none 0 0,.slice none 0 0] 33)):=fun W=>by kernel_rfl
 have hO1:Hid (OwnB ((w.alloc (.cells (madeCells #[.int .u8 0] 512) 5)).alloc (.cells #[.slice none 0 0,.slice none 0 0,.slice none 0 0,.slice none 0 0] 33)) w.heap.size (.slice (some ⟨w.heap.size,0,none⟩) 0 512) []):=(own_made 512 (by omega) w w.heap.size (zR _)).alloc _;have hO2:Hid (Own ((w.alloc (.cells (madeCells #[.int .u8 0] 512) 5)).alloc (.cells #[.slice none 0 0,.slice none 0 0,.slice none 0 0,.slice none 0 0] 33)) w.heap.size 33 (.slice (some ⟨w.heap.size+1,0,none⟩) 0 4) []):=by
  refine⟨rfl,.inr ⟨w.heap.size+1,4,#[.slice none 0 0,.slice none 0 0,.slice none 0 0,.slice none 0 0],rfl,by omega,?_,by simp,by simp[maxLen],by simp,by simp⟩⟩;have:=heap_alloc_new (w.alloc (.cells (madeCells #[.int .u8 0] 512) 5)) (.cells #[.slice none 0 0,.slice none 0 0,.slice none 0 0,.slice none 0 0] 33)
  simpa using this
 have hG0:Hid (Below w.heap.size w ((w.alloc (.cells (madeCells #[.int .u8 0] 512) 5)).alloc (.cells #[.slice none 0 0,.slice none 0 0,.slice none 0 0,.slice none 0 0] 33))):=((zB _ w).alloc (zR _) _).alloc (by simp) _;clear h hE hok;go_enter Tryz.func115,Tryz.ntmps115;go_wp2;clear hmk hmk2;go_loopg [4,5,6,7] rest.length (fun g v4 v5 v6 v7 w'=>∃(gB o n c nx fs:Nat) (bs:List UInt8) (vs:List Value) (CH:List (List UInt8)) (r1 q1 i1:Nat) (err1:Value) (T1:List UInt8) (cv:Value),
  v4=.slice (some ⟨gB,o,none⟩) n c/\v5=.int .i64 (nx:Int)/\v6=cv/\v7=.int .i64 (fs:Int)/\Hid (OwnB w' w.heap.size (.slice (some ⟨gB,o,none⟩) n c) bs/\Own w' w.heap.size 33 cv vs/\ChAt w' (fun k=>k=gb\/k=gd\/k=gs\/cv.ownBlock=some k\/k=gB) vs CH/\cv.ownBlock≠some gB/\BufAt w' gb gd gs r1 q1 i1 err1 T1 S/\errOk err1 i1 S pE /\
   rest=CH.flatten++(bs++restOf r1 q1 i1 T1 S)/\fs=CH.flatten.length/\256<=nx/\nx<=c+c / 2/\n < c/\256<=c/\nx<=4*rest.length+1024/\vs.length<=fs/\Gr (fun k=>k=gb\/k=gd\/k=gs) w w'/\(restOf r1 q1 i1 T1 S).length<=g))
 case atStart =>
  refine⟨w.heap.size,0,0,512,256,0,[],[],[],r,q,i,err,T,_,rfl,rfl,rfl,rfl,hO1.out,hO2.out,ChAt.nil _ _,?_,H.out.gr (Z:=fun _=>False) (Gr.of_below hG0.out) id id id,HK.out,by rw[hrest.out];rfl,rfl,by omega,by omega,by omega,by omega,by omega,by simp,Gr.of_below hG0.out,by rw[hrest.out];exact zR _⟩;intro q;simp[Value.ownBlock]at q
 obtain⟨gB,o,n,c,nx,fs,bs,vs,CH,r1,q1,i1,err1,T1,cv,rfl,rfl,rfl,rfl,HI⟩:=hrel;obtain⟨wo,hwo⟩:∃wo:World,wo=wr:=⟨_,rfl⟩;rw[<-hwo]at HI ⊢;clear hwo;obtain⟨hO,hCo,hCh,hcg,hB,hok,hrs,hfs,hx1,hx2,hnc,hc256,hx3,hvl,hG,hm⟩:=HI.out;have hP:=hO.parts;obtain⟨R,hR⟩:∃R,Hid (restOf r1 q1 i1 T1 S=R):=⟨_,rfl⟩;rw[hR.out]at hrs hm;have hle:=congrArg List.length hrs;rw[zA,zA,<-hfs,<-hP.2.2.1]at hle;have hE1:=HE.out.gr hG (fun k hk q=>by omega);have HNE:Hid (gB≠gb/\gB≠gd/\gB≠gs):=by have:=HLT.out;have:=hP.1;exact⟨by omega,by omega,by omega⟩
 have HGE:Hid (errTop pE pF < gB):=by have:=HLT.out;have:=hP.1;unfold Hid;omega
 have hroom:0 < c - n:=by omega
 have hcells:Hid (∀j,j < c - n->(wo.cell? ⟨gB,o+n+j,none⟩).isSome=true):=fun j hj=>by rw[Nat.add_assoc];exact hP.2.2.2.2.2.1 _ (by omega)
 have hfroz:Hid (∀j,j < c - n->wo.frozen? ⟨gB,o+n+j,none⟩=false):=fun j hj=>by rw[Nat.add_assoc];exact hP.2.2.2.2.2.2 _ (by omega)
 have HO:=zH hO;have HCO:=zH hCo;have HCH:=zH hCh;have HCG:=zH hcg;have HB:=zH hB;have HRS:=zH hrs;have HFS:=zH hfs;have HG:=zH hG;have HPP:=zH hP;clear hO hCo hCh hcg hB hrs hfs hG HI hP;have a1:(0:Int)<=(n:Int):=by omega
 have a2:(n:Int)<=(c:Int):=by omega
 have a3:¬c=n:=by omega
 by_cases hR0:R=[]
 ·have hRR:restOf r1 q1 i1 T1 S=[]:=by rw[hR.out];exact hR0
  have hRz:Hid (R=[]):=hR0;clear hR0;have hqS:=eqSame pE;go_wp2;refine wp_quiet_call 10 15 (by kernel_rfl) (by kernel_rfl) rfl ?_;simp only[List.take_succ_cons,List.take_zero,List.drop_succ_cons,List.drop_zero];repeat(quiet_step (fail))
  refine wpQuiet_nil ?_;intro _ hw';obtain⟨nq,hw''⟩:=hw';subst hw'';go_wp2_with (go_at_call 243;refine(c243n gb gd gs r1 q1 i1 gB (o+n) (c - n) (c - n) err1 T1 S pE pF _ (HB.out.drewN _) hok (hE1.drewN _) hS h3 hroom hcells.out hfroz.out HNE.out HGE.out hRR).mono ?_;rintro e w1⟨rfl,hh,hG1,hst⟩;unfold eofV);refine callQ_normal ?_;repeat(quiet_step (fail))
  refine wpQuiet_nil ?_;intro _ hw';obtain⟨nq2,hw''⟩:=hw';subst hw'';obtain⟨r',q',i',err',T',hB1,hok1,hrs1⟩:=hst;have hcM:=HPP.out.2.2.2.2.1;unfold maxLen at hcM;have e1:IntKind.i64.wrap ((n:Int)+0)=(n:Int):=by rw[Int.add_zero,IntWalk.i64_in _ (by omega)]
  have hG1o:Gr (fun k=>k=gB\/k=gb\/k=gd\/k=gs) wo w1:=((Gr.refl _ wo).drw _).trans hG1;have hgbb:=HPP.out.1;have hltb:=HLT.out;have HG1:Hid (Gr (fun k=>k=gb\/k=gd\/k=gs) w w1):=HG.out.then hG1o (fun k hk q=>q.elim (fun q=>by omega) id);have HO1:Hid (OwnB w1 w.heap.size (.slice (some ⟨gB,o,none⟩) n c) bs):=by
   have h9:=HO.out.fill (X:=[]) (w1:=w1) (by simp;omega) hh hG1.size;unfold Hid;simpa using h9
  have HCO1:Hid (Own w1 w.heap.size 33 u6 vs):=HCO.out.gr2 hG1o (fun k hk q=>by
   have h1:=(World.ownsRow.lt HCO.out k hk).1;rcases q with q|q
   ·exact HCG.out (q ▸ hk)
   omega)
  have HCH1:Hid (ChAt w1 (fun k=>k=gb\/k=gd\/k=gs\/u6.ownBlock=some k\/k=gB) vs CH):=HCH.out.gr hG1o (fun k _ q=>by
   rcases q with q|q|q|q
   ·exact .inr (.inr (.inr (.inr q)))
   ·exact .inl q
   ·exact .inr (.inl q)
   exact .inr (.inr (.inl q))) (fun k _ q=>q)
  have e0:=(hE1.gr hG1o (fun k hk q=>by have:=HGE.out;omega)).eof;have HRS1:Hid (rest=CH.flatten++bs):=by unfold Hid;rw[HRS.out,hRz.out,List.append_nil]
  have hwl:w.heap.size<=w1.heap.size:=HG1.out.size;obtain⟨A6,c6,hv6,hc6,hA6⟩:=HCO1.out.slice;have HC6:=zH (And.intro hc6 hA6);clear hh hG1 hG1o hB1 hrs1 hcells hfroz hc6 hA6 hE1;subst hv6;by_cases hv0:vs.length=0
  ·have z1:((vs.length:Int) == 0)=true:=by rw[hv0];rfl
   have hCH0:Hid (CH=[]):=List.eq_nil_of_length_eq_zero (by rw[<-HCH1.out.1];exact hv0);clear hv0;go_wp2;go_ret2
   exact⟨_,rfl,by rw[HRS1.out,hCH0.out];exact HO1.out,HG1.out.drw _⟩
  have z1:((vs.length:Int) == 0)=false:=zF (by omega);obtain⟨tot,htot⟩:∃tot:Nat,Hid (tot=fs+n):=⟨_,rfl⟩;have e4:IntKind.i64.wrap ((fs:Int)+(n:Int))=(tot:Int):=by have:=htot.out;rw[IntWalk.i64_in _ (by omega)];omega
  have htp:0 < tot:=by have:=htot.out;omega
  have htl:Hid (rest.length=tot):=by unfold Hid;rw[HRS1.out,zA,<-HFS.out,<-HPP.out.2.2.1];exact htot.out.symm
  obtain⟨cap,W3,hcap,hz,hO3,hb4,hcm⟩:=zapp tot htp (by have:=htl.out;omega) 33 (w1.drewN nq2) w1.heap.size (zR _);have hb4':Below w1.heap.size w1 W3:=((below_drewN (zB _ w1) nq2).trans hb4);have HO3:=zH hO3;have HC4:Hid (Own W3 w.heap.size 33 (.slice A6 vs.length c6) vs):=HCO1.out.below hb4';have HH4:Hid (ChAt W3 (fun k=>w1.heap.size<=k) vs CH):=HCH1.out.gr (Gr.of_below (S:=fun _=>False) hb4') (fun _ _ q=>q.elim) (fun k hk q=>absurd q (by omega));have HOb:Hid (OwnB W3 w.heap.size (.slice (some ⟨gB,o,none⟩) n c) bs):=HO1.out.below hb4';have HG4:Hid (Gr (fun k=>k=gb\/k=gd\/k=gs) w W3):=HG1.out.trans (Gr.of_below hb4');have hcvl:Hid (∀k,(Value.slice A6 vs.length c6).ownBlock=some k->k < w1.heap.size):=fun k hk=>(World.ownsRow.lt HCO1.out k hk).2
  have hgBl:gB < w1.heap.size:=HO1.out.parts.2.1;have hws3:w1.heap.size<=W3.heap.size:=hb4'.size;have hfl:Hid (CH.flatten.length<=268435456):=by unfold Hid;rw[<-HFS.out];omega
  clear hb4 hb4' hO3 hv0;go_wp2_with (at_builtin;refine Lib.wpList_append_run _ rfl (.const (.slice none 0 0)) (.tmp 49) 33 3 rfl _ _ rfl rfl _ _ hz ?_);go_loopg [10,54] vs.length (fun g v v54 W=>∃j:Nat,v54=.int .i64 (j:Int)/\g+j=vs.length/\Hid (OwnB W w1.heap.size v (CH.take j).flatten/\Own W w.heap.size 33 (.slice A6 vs.length c6) vs/\ChAt W (fun k=>w1.heap.size<=k) vs CH/\OwnB W w.heap.size (.slice (some ⟨gB,o,none⟩) n c) bs/\Gr (fun k=>k=gb\/k=gd\/k=gs) w W/\w1.heap.size<=W.heap.size))
  case atStart=>exact⟨0,rfl,rfl,HO3.out,HC4.out,HH4.out,HOb.out,HG4.out,hws3⟩
  obtain⟨j,rfl,hgj,HI2⟩:=hrel;obtain⟨wq,hwq⟩:∃wq:World,wq=wr:=⟨_,rfl⟩;rw[<-hwq]at HI2 ⊢;clear hwq;obtain⟨hF,hC5,hH5,hb5,hG5,hs5⟩:=HI2.out;have hCl:=hH5.1;by_cases hj:j < vs.length
  ·obtain⟨l,hl⟩:∃l,CH[j]?=some l:=⟨_,zG (by omega)⟩
   obtain⟨A7,n7,c7,h71,h72,h73⟩:=hH5.2 j l hl;obtain⟨g6,cap6,hv6,_,_,_,hcell,_⟩:=Own.rowFacts hC5 (by omega);injection hv6 with hv61 hv60 hv62
   have hck:=hcell j _ h71;have hlj:((CH.take j).flatten++l)=(CH.take (j+1)).flatten:=by
    rw[List.take_succ_eq_append_getElem (by omega),List.flatten_append];have:CH[j]=l:=by have:=zG (show j < CH.length by omega);rw[this]at hl;injection hl
    simp[this]
   have hlen2:((CH.take j).flatten).length+l.length<=CH.flatten.length:=by
    have h8:((CH.take (j+1)).flatten).length<=CH.flatten.length:=by
     conv=>rhs;rw[<-List.take_append_drop (j+1) CH]
     rw[List.flatten_append,zA];omega
    rw[<-hlj,zA]at h8;exact h8
   have hfl2:=hfl.out;have q1':(j:Int) < (vs.length:Int):=by omega
   have q2:(0:Int)<=(j:Int):=by omega
   have q3:IntKind.i64.wrap ((j:Int)+1)=((j+1:Nat):Int):=by rw[IntWalk.i64_in _ (by omega)];omega
   have HF5:=zH hF;have HR7:=zH h72;have HLJ:=zH hlj;have HALL:=zH (And.intro hC5 (And.intro hH5 (And.intro hb5 hG5)));subst hv61 hv62;clear hv60;clear hF h71 h72 h73 hlj hcell hl hC5 hH5 hb5 hG5 HI2 hCl;go_wp2_with (at_builtin;refine wp_appB rfl (.tmp 58) (.tmp 59) rfl rfl rfl HF5.out (Src.bytes HR7.out) (by omega) hs5 ?_;intro v2 w2 hO2 hg2 hb2 hl2;rw[HLJ.out]at hO2;have HO2:=zH hO2;have HG2:=zH hg2;clear hO2 hg2 hb2 hl2);have hoF:=fun k q=>(HF5.out.lt k q).1
   have hG9:=Gr.of_grown HG2.out;have hnew:Hid (OwnB w2 w1.heap.size v2 (CH.take (j+1)).flatten/\Own w2 w.heap.size 33 (.slice (some ⟨g6,0,none⟩) vs.length c6) vs/\ChAt w2 (fun k=>w1.heap.size<=k) vs CH/\OwnB w2 w.heap.size (.slice (some ⟨gB,o,none⟩) n c) bs/\Gr (fun k=>k=gb\/k=gd\/k=gs) w w2/\w1.heap.size<=w2.heap.size) :=
    ⟨HO2.out,HALL.out.1.gr2 hG9 (fun k hk q=>by have h1:=hcvl.out k hk;have h2:=hoF k q;omega),HALL.out.2.1.gr hG9 (fun k _ q=>hoF k q) (fun _ _ q=>q),HALL.out.2.2.1.gr hG9 (fun k hk q=>by have h2:=hoF k q;injection hk with hk;have h9:gB=k:=hk;omega),
     HALL.out.2.2.2.then hG9 (fun k hk q=>absurd (hoF k q) (by omega)),zT hs5 HG2.out.size⟩
   clear hoF hG9;go_roundg (gk - 1)
   case measure=>omega
   case rel=>exact⟨j+1,rfl,by omega,hnew⟩
  have hjv:j=vs.length:=by omega
  have q1':¬((j:Int) < (vs.length:Int)):=by omega
  have htk:CH.take j=CH:=List.take_of_length_le (by omega);rw[htk]at hF;have HF5:=zH hF;have HB5:=zH hb5;have HG5:=zH hG5;have hfl2:=hfl.out;have hbn:bs.length<=268435456:=by rw[<-HPP.out.2.2.1];omega
  clear hF hb5 hG5 hC5 hH5 HI2 htk hjv hCl;go_wp2_with (at_builtin;refine wp_appB rfl (.tmp 62) (.tmp 63) rfl rfl rfl HF5.out (Src.bytes HB5.out.rdB) (by omega) hs5 ?_;intro v2 w2 hO2 hg2 hb2 hl2;have HO2:=zH hO2;have HG2:=zH hg2;clear hO2 hg2 hb2 hl2);go_ret2
  exact⟨_,rfl,by rw[HRS1.out];exact HO2.out.mono hwl,HG5.out.then (Gr.of_grown HG2.out) (fun k hk q=>absurd (HF5.out.lt k q).1 (by omega))⟩
 have hRR:restOf r1 q1 i1 T1 S≠[]:=by rw[hR.out];exact hR0
 go_wp2;refine wp_quiet_call 10 15 (by kernel_rfl) (by kernel_rfl) rfl ?_;simp only[List.take_succ_cons,List.take_zero,List.drop_succ_cons,List.drop_zero];repeat(quiet_step (fail))
 refine wpQuiet_nil ?_;intro _ hw';obtain⟨nq,hw''⟩:=hw';subst hw'';go_wp2_with (go_at_call 243;refine(c243y gb gd gs r1 q1 i1 gB (o+n) (c - n) (c - n) err1 T1 S pE pF _ (HB.out.drewN _) hok (hE1.drewN _) hS h3 hroom hcells.out hfroz.out HNE.out HGE.out hRR).mono ?_;rintro e w1⟨k,X,hk0,hkn,hXk,rfl,hh,hG1,hst⟩);refine callQ_normal ?_;repeat(quiet_step (fail))
 refine wpQuiet_nil ?_;intro _ hw';obtain⟨nq2,hw''⟩:=hw';subst hw'';obtain⟨r',q',i',err',T',hB1,hok1,hrs1⟩:=hst;rw[hR.out]at hrs1;obtain⟨m,hm'⟩:∃m:Nat,Hid (m=n+k):=⟨_,rfl⟩;have hmc:m<=c:=by have:=hm'.out;omega
 have e1:IntKind.i64.wrap ((n:Int)+(k:Int))=(m:Int):=by have:=hm'.out;have:=HPP.out.2.2.2.2.1;unfold maxLen at this;rw[IntWalk.i64_in _ (by omega)];omega
 have b1:(0:Int)<=(m:Int):=by omega
 have b2:(m:Int)<=(c:Int):=by omega
 have HO1:Hid (OwnB w1 w.heap.size (.slice (some ⟨gB,o,none⟩) m c) (bs++X)):=by
  unfold Hid;rw[hm'.out,<-hXk];exact HO.out.fill (by rw[hXk];omega) (hh.trans (heap_setCells_congr (byteVs X) (o+n) wo _ rfl)) hG1.size
 have hG1o:Gr (fun k=>k=gB\/k=gb\/k=gd\/k=gs) wo w1:=((Gr.refl _ wo).drw _).trans hG1;have hgbb:=HPP.out.1;have HG1:Hid (Gr (fun k=>k=gb\/k=gd\/k=gs) w w1):=HG.out.then hG1o (fun k hk q=>q.elim (fun q=>by omega) id);have hltb:=HLT.out;have HCO1:Hid (Own w1 w.heap.size 33 u6 vs):=HCO.out.gr2 hG1o (fun k hk q=>by
  have h1:=(World.ownsRow.lt HCO.out k hk).1;rcases q with q|q
  ·exact HCG.out (q ▸ hk)
  omega)
 have HCH1:Hid (ChAt w1 (fun k=>k=gb\/k=gd\/k=gs\/u6.ownBlock=some k\/k=gB) vs CH):=HCH.out.gr hG1o (fun k _ q=>by
  rcases q with q|q|q|q
  ·exact .inr (.inr (.inr (.inr q)))
  ·exact .inl q
  ·exact .inr (.inl q)
  exact .inr (.inr (.inl q))) (fun k _ q=>q)
 have hRl:=congrArg List.length hrs1;rw[zA,hXk]at hRl;have HB1:=zH hB1;have HRS1:Hid (rest=CH.flatten++((bs++X)++restOf r' q' i' T' S)):=by unfold Hid;rw[HRS.out,hrs1];simp
 clear hh hG1 hG1o hB1 hrs1 hcells hfroz;obtain⟨d,hd⟩:∃d:Nat,Hid (d=c - m):=⟨_,rfl⟩;obtain⟨s16,hs16⟩:∃s16:Nat,Hid (s16=c / 16):=⟨_,rfl⟩;have hcM:=HPP.out.2.2.2.2.1;unfold maxLen at hcM;have e2:IntKind.i64.wrap ((c:Int) - (m:Int))=(d:Int):=by have:=hd.out;rw[IntWalk.i64_in _ (by omega)];omega
 have e3:IntKind.i64.wrap ((c:Int) / 16)=(s16:Int):=by have:=hs16.out;rw[IntWalk.i64_in _ (by omega)];omega
 have hwl:w.heap.size<=w1.heap.size:=HG1.out.size;have hfsb:fs+m<=rest.length:=by have:=hm'.out;omega
 have hmk:0 < m:=by have:=hm'.out;omega
 by_cases hsm:d < s16
 ·have z1:(d:Int) < (s16:Int):=by omega
  obtain⟨nx2,hnx2⟩:∃nx2:Nat,Hid (nx2=nx+nx / 2):=⟨_,rfl⟩;obtain⟨fs2,hfs2⟩:∃fs2:Nat,Hid (fs2=fs+m):=⟨_,rfl⟩;have e4:IntKind.i64.wrap ((fs:Int)+(m:Int))=(fs2:Int):=by have:=hfs2.out;rw[IntWalk.i64_in _ (by omega)];omega
  have e5:IntKind.i64.wrap ((nx:Int)+IntKind.i64.wrap ((nx:Int) / 2))=(nx2:Int):=by have:=hnx2.out;rw[IntWalk.i64_in ((nx:Int) / 2) (by omega),IntWalk.i64_in _ (by omega)];omega
  have hvl2:(vs.length+1)*24<=140737488355328:=by omega
  go_wp2_with (first
   |(at_builtin;refine wp_app1 (w:=w1.drewN nq2) Tryz.underlying249 info33 rfl rfl (.tmp 76) (.tmp 78) rfl rfl (HCO1.out.drewN nq2) hwl (.slice (some ⟨gB,o,none⟩) m c) rfl rfl hvl2 (by decide) ?_;intro v2 w2 ho2 hg2 hb3 hl2;have hw12:w1.heap.size<=w2.heap.size:=hg2.size;obtain⟨cap,W3,hcap,hz,hO3,hb4,hcm⟩:=zapp nx (by omega) (by omega) 33 w2 w.heap.size (zT hwl hw12);have HO2:=zH ho2;have HG2:Hid (World.grownBy (w1.drewN nq2) w2 u6.ownBlock):=hg2;have HL2:Hid (v2.ownBlock=u6.ownBlock\/v2.ownBlock=some (w1.heap.size+1)):=hl2;have HB4:=zH hb4;have HO3:=zH hO3;clear ho2 hg2 hl2 hb3 hb4 hO3)
   |(at_builtin;refine Lib.wpList_append_run _ rfl (.const (.slice none 0 0)) (.tmp 84) 33 3 rfl _ _ rfl rfl _ _ hz ?_))
  have hof6:∀k,u6.ownBlock=some k->w.heap.size<=k:=fun k hk=>(World.ownsRow.lt HCO1.out k hk).1
  have hv2:∀k,v2.ownBlock=some k->k < w1.heap.size->u6.ownBlock=some k:=fun k hk hlt=>by
   rcases HL2.out with e|e
   ·rw[<-e];exact hk
   rw[e]at hk;injection hk with hk;have h9:w1.heap.size+1=k:=hk;omega
  have hgB1:gB < w1.heap.size:=HO1.out.parts.2.1;have hne6:u6.ownBlock≠some gB:=HCG.out;have hC2:ChAt w2 (fun k=>k=gb\/k=gd\/k=gs\/v2.ownBlock=some k\/k=w2.heap.size) vs CH :=
   HCH1.out.gr (((Gr.refl _ w1).drw nq2).trans (Gr.of_grown HG2.out)) (fun k _ q=>.inr (.inr (.inr (.inl q)))) (fun k hk q=>by
    rcases q with q|q|q|q|q
    ·exact .inl q
    ·exact .inr (.inl q)
    ·exact .inr (.inr (.inl q))
    ·exact .inr (.inr (.inr (.inl (hv2 k q hk))))
    omega)
  have hrd2:RdB w2 (.slice (some ⟨gB,o,none⟩) m c) (bs++X):=RdB.gr HO1.out.rdB (((Gr.refl _ w1).drw nq2).trans (Gr.of_grown HG2.out)) (fun a ha q=>by injection ha with ha;subst ha;exact hne6 q);have hC3:=hC2.add hrd2 (fun a ha=>by
   injection ha with ha;subst ha
   refine⟨zL hgB1 hw12,fun q=>?_⟩;rcases q with q|q|q|q|q
   ·exact HNE.out.1 q
   ·exact HNE.out.2.1 q
   ·exact HNE.out.2.2 q
   ·exact hne6 (hv2 gB q hgB1)
   have h9:gB=w2.heap.size:=q;omega)
  have hC4:=hC3.gr (Gr.of_below (S:=fun _=>False) HB4.out) (fun _ _ q=>q.elim) (fun k _ q=>q);have hBf:BufAt W3 gb gd gs r' q' i' err' T' S:=((HB1.out.drewN nq2).gr (Gr.of_grown HG2.out) (fun q=>by have:=hof6 _ q;omega) (fun q=>by have:=hof6 _ q;omega) (fun q=>by have:=hof6 _ q;omega)).below HB4.out;have hGf:Gr (fun k=>k=gb\/k=gd\/k=gs) w W3:=((HG1.out.drw nq2).then (Gr.of_grown HG2.out) (fun k hk q=>absurd (hof6 k q) (by omega))).trans (Gr.of_below HB4.out);have hnew:Hid (OwnB W3 w.heap.size (.slice (some ⟨w2.heap.size,0,none⟩) 0 cap) []/\Own W3 w.heap.size 33 v2 (vs++[.slice (some ⟨gB,o,none⟩) m c])/\ChAt W3 (fun k=>k=gb\/k=gd\/k=gs\/v2.ownBlock=some k\/k=w2.heap.size) (vs++[.slice (some ⟨gB,o,none⟩) m c]) (CH++[bs++X])/\v2.ownBlock≠some w2.heap.size/\BufAt W3 gb gd gs r' q' i' err' T' S/\errOk err' i' S pE /\
    rest=(CH++[bs++X]).flatten++([]++restOf r' q' i' T' S)/\fs2=(CH++[bs++X]).flatten.length/\256<=nx2/\nx2<=cap+cap / 2/\0 < cap/\256<=cap/\nx2<=4*rest.length+1024/\(vs++[Value.slice (some ⟨gB,o,none⟩) m c]).length<=fs2/\Gr (fun k=>k=gb\/k=gd\/k=gs) w W3/\(restOf r' q' i' T' S).length<=(restOf r' q' i' T' S).length):=by
   have hbl:(bs++X).length=m:=by rw[zA,hXk,hm'.out,<-HPP.out.2.2.1]
   have h1:=hnx2.out;have h2:=hd.out;have h3:=hs16.out;have h4:=hfs2.out;have h5:=hm'.out;refine⟨HO3.out,HO2.out.below HB4.out,hC4,fun q=>?_,hBf,hok1,?_,?_,by omega,by omega,by omega,by omega,by omega,?_,hGf,zR _⟩
   ·have:=(World.ownsRow.lt HO2.out _ q).2;omega
   ·rw[HRS1.out];simp
   ·rw[h4,HFS.out,List.flatten_append,zA];simp at hbl ⊢;omega
   rw[zA,List.length_singleton];omega
  clear hC2 hC3 hC4 hrd2 hBf hGf hv2 hof6;go_roundg (restOf r' q' i' T' S).length
  case measure=>omega
  case rel=>exact⟨w2.heap.size,0,0,cap,nx2,fs2,[],_,_,r',q',i',err',T',v2,rfl,int_eq (by have:=hnx2.out;omega),rfl,(by first|rfl|exact int_eq (by have:=hfs2.out;omega)),hnew⟩
 have z1:¬((d:Int) < (s16:Int)):=by omega
 have h1:=hd.out;have h2:=hs16.out;have hnew:Hid (OwnB (w1.drewN nq2) w.heap.size (.slice (some ⟨gB,o,none⟩) m c) (bs++X)/\Own (w1.drewN nq2) w.heap.size 33 u6 vs/\ChAt (w1.drewN nq2) (fun k=>k=gb\/k=gd\/k=gs\/u6.ownBlock=some k\/k=gB) vs CH/\u6.ownBlock≠some gB/\BufAt (w1.drewN nq2) gb gd gs r' q' i' err' T' S/\errOk err' i' S pE /\
   rest=CH.flatten++((bs++X)++restOf r' q' i' T' S)/\fs=CH.flatten.length/\256<=nx/\nx<=c+c / 2/\m < c/\256<=c/\nx<=4*rest.length+1024/\vs.length<=fs/\Gr (fun k=>k=gb\/k=gd\/k=gs) w (w1.drewN nq2)/\(restOf r' q' i' T' S).length<=(restOf r' q' i' T' S).length) :=
  ⟨HO1.out,HCO1.out,HCH1.out.gr ((Gr.refl (fun _=>False) w1).drw nq2) (fun _ _ q=>q.elim) (fun _ _ q=>q),HCG.out,HB1.out.drewN nq2,hok1,HRS1.out,HFS.out,hx1,hx2,by omega,hc256,hx3,hvl,HG1.out.drw nq2,zR _⟩
 clear h1 h2;go_wp2;go_roundg (restOf r' q' i' T' S).length
 case measure=>omega
 case rel=>exact⟨gB,o,m,c,nx,fs,bs++X,vs,CH,r',q',i',err',T',_,rfl,rfl,rfl,rfl,hnew⟩
end Go.Proofs.YtnkihlpmmfeioaaGreatDoor
