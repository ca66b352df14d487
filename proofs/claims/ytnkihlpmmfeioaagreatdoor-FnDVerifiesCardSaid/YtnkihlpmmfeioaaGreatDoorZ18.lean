/- Part of the proof that laws.FnDVerifies answers true: A48,A49,A57 -/
import Derived.Test.YtnkihlpmmfeioaaGreatDoorZ14
import Derived.Test.YtnkihlpmmfeioaaGreatDoorZ17
set_option linter.unusedVariables false
set_option linter.unusedSimpArgs false
set_option maxRecDepth 1000000
set_option maxHeartbeats 16000000
namespace Go.Proofs.YtnkihlpmmfeioaaGreatDoor
open Go.RowKit
structure Gr(S:Nat->Prop)(w w':World):Prop where
 os:w'.os=w.os
 tape:w'.tape=w.tape
 output:w'.output=w.output
 size:w.heap.size<=w'.heap.size
 block:∀k,k < w.heap.size->¬S k->w'.heap[k]?=w.heap[k]?
theorem Gr.refl(S:Nat->Prop)(w:World):Gr S w w:=⟨rfl,rfl,rfl,zR _,fun _ _ _=>rfl⟩
theorem Gr.trans{S:Nat->Prop}{a b c:World}(h:Gr S a b)(k:Gr S b c):Gr S a c :=
 ⟨k.os.trans h.os,k.tape.trans h.tape,k.output.trans h.output,zT h.size k.size,fun i hi hs=>(k.block i (zL hi h.size) hs).trans (h.block i hi hs)⟩
theorem Gr.mono{S T:Nat->Prop}{a b:World}(h:Gr S a b)(hs:∀k,k < a.heap.size->S k->T k):Gr T a b:=⟨h.os,h.tape,h.output,h.size,fun k hk ht=>h.block k hk fun q=>ht (hs k hk q)⟩
theorem Gr.of_grown{a b:World}{r:Option Nat}(h:a.grownBy b r):Gr (fun k=>r=some k) a b:=⟨h.os,h.tape,h.output,h.size,fun k hk hs=>h.block k hk fun q=>hs q.symm⟩
theorem Gr.of_below{S:Nat->Prop}{a b:World}(h:Below a.heap.size a b):Gr S a b:=⟨h.os,h.tape,h.output,h.size,fun k hk _=>h.block k hk⟩
theorem Gr.below{S:Nat->Prop}{a b:World}{B0:Nat}(h:Gr S a b)(hB:B0<=a.heap.size)(hs:∀k,k < B0->¬S k):Below B0 a b:=⟨h.os,h.tape,h.output,h.size,fun k hk=>h.block k (zL hk hB) (hs k hk)⟩
theorem Gr.then{S T:Nat->Prop}{a b c:World}(h:Gr S a b)(k:Gr T b c)(hs:∀k,k < a.heap.size->T k->S k):Gr S a c :=
 ⟨k.os.trans h.os,k.tape.trans h.tape,k.output.trans h.output,zT h.size k.size,fun i hi hS=>(k.block i (zL hi h.size) fun q=>hS (hs i hi q)).trans (h.block i hi hS)⟩
theorem OwnB.gr{S:Nat->Prop}{w w':World}{base:Nat}{v:Value}{l:List UInt8}(h:OwnB w base v l)(hg:Gr S w w')(hne:∀k,v.ownBlock=some k->¬S k):OwnB w' base v l:=by
 rcases h with h|⟨g,off,cap,rfl,h1,h2,h3,h4,h5,h6,h7⟩
 ·exact .inl h
 have hb:w'.heap[g]?=w.heap[g]?:=hg.block g h2 (hne g rfl);have hs:=hg.size;exact .inr ⟨g,off,cap,rfl,h1,by omega,h3,h4,fun i c hc=>(World.cell?_of_block (a:=⟨g,off+i,none⟩) hb).trans (h5 i c hc),fun i hi=>by rw[World.cell?_of_block (a:=⟨g,off+i,none⟩) hb];exact h6 i hi,
  fun i hi=>(World.frozen?_of_block (a:=⟨g,off+i,none⟩) hb).trans (h7 i hi)⟩
def DigAt(w:World)(g:Nat)(bv:Value)(l:List UInt8):Prop:=∃st:List W32,st.length=8/\Blk w g (digC st bv) 243/\OwnB w (g+1) bv l
theorem c105(w:World):Calls Tryz.prog 105 #[] w fun e w'=>e=.returned (.pointer (some ⟨w.heap.size,0,none⟩))/\DigAt w' w.heap.size (.slice none 0 0) []/\Below w.heap.size w w':=by
 go_enter Tryz.func105,Tryz.ntmps105;go_wp2;go_ret
 exact⟨rfl,⟨[0#32,0#32,0#32,0#32,0#32,0#32,0#32,0#32],rfl,(Blk.new w _ _).to (by rw[digC8];rfl),OwnB.nil _ _⟩,(zB _ _).alloc (zR _) _⟩
theorem digC_at(st:List W32)(bv:Value)(h:st.length=8):(digC st bv)[8]?=some bv:=by
 unfold digC;rw[List.getElem?_toArray,List.getElem?_append_right (by rw[wCells_len,h];exact zR _),wCells_len,h];rfl
theorem digC_set(st:List W32)(bv u:Value)(h:st.length=8):(digC st bv).setIfInBounds 8 u=digC st u:=by
 obtain⟨x0,x1,x2,x3,x4,x5,x6,x7,rfl⟩:=eight h;rw[digC8,digC8];simp
theorem c109(g:Nat)(bv:Value)(l:List UInt8)(w:World)(h:DigAt w g bv l):Calls Tryz.prog 109 #[.pointer (some ⟨g,0,none⟩)] w fun e w'=>e=.returned (.tuple #[])/\DigAt w' g (.slice none 0 0) []/\w.grownBy w' (some g):=by
 obtain⟨st,hst,hd,ho⟩:=h;have q8:=(hd.cell 8).trans (digC_at st bv hst);have f8:=hd.frozen 8;have HD:=zH hd;clear hd;go_enter Tryz.func109,Tryz.ntmps109;go_wp2
 go_end0
 exact⟨rfl,⟨st,hst,(HD.out.set_ 8 _).to (digC_set st bv _ hst),OwnB.nil _ _⟩,grown_set w g 8 _⟩
theorem c112(g:Nat)(bv:Value)(l m:List UInt8)(A:Option Addr)(n c:Nat)(w:World)(h:DigAt w g bv l)(hm:RdB w (.slice A n c) m)(hl:l.length+m.length<=1099511627776) :
  Calls Tryz.prog 112 #[.pointer (some ⟨g,0,none⟩),.slice A n c] w fun e w'=>e=.returned (.tuple #[.int .i64 (n:Int),.nilIface]) /\
   ∃bv',DigAt w' g bv' (l++m)/\Gr (fun k=>k=g\/bv.ownBlock=some k) w w'/\(bv'.ownBlock=bv.ownBlock\/bv'.ownBlock=some w.heap.size):=by
 obtain⟨st,hst,hd,ho⟩:=h;have q8:=(hd.cell 8).trans (digC_at st bv hst);have hgl:=hd.lt;have HO:=zH ho;obtain⟨A2,c2,rfl,_⟩:=ho.slice;have HD:=zH hd;have HM:=zH hm;have HST:=zH hst;have hnm:n=m.length:=by obtain⟨_,_,he,_⟩:=hm;injection he
 subst hnm;clear hd hm ho hst;go_enter Tryz.func112,Tryz.ntmps112;go_wp2_with (at_builtin;refine wp_appB rfl (.tmp 10) (.tmp 11) rfl rfl rfl HO.out (Src.bytes HM.out) (by omega) (by omega) ?_;intro v2 w2 hO2 hg2 hb2 hl2;have hD2:Blk w2 g (digC st _) 243:=(hg2.block g hgl (by intro q;have:=HO.out.lt g q.symm;omega)).trans HD.out;have p8:=(hD2.cell 8).trans (digC_at st _ HST.out);have f8:=hD2.frozen 8;obtain⟨A3,c3,rfl,_⟩:=hO2.slice;rw[zA]at hO2 hl2;have HO2:=zH (And.intro hO2 hl2);clear hO2 hl2);go_ret2
 refine⟨rfl,_,⟨st,HST.out,(hD2.set_ 8 _).to (digC_set st _ _ HST.out),HO2.out.1.setNe (Nat.lt_succ_self g)⟩,?_,HO2.out.2⟩;refine Gr.then (T:=fun k=>some g=some k) ((Gr.of_grown hg2).mono fun k _ q=>.inr q) (Gr.of_grown (grown_set w2 g 8 _)) fun k _ q=>?_
 injection q with q
 exact .inl q.symm
theorem KRow.ne{w:World}{g:Nat}{st:List W32}{bv:Value}(h:KRow w)(hd:Blk w g (digC st bv) 243)(hst:st.length=8):6≠g:=by
 intro he;subst he;have h1:=h 63 _ (kAt_get 63 (by decide));rw[hd.cell 63]at h1;obtain⟨x0,x1,x2,x3,x4,x5,x6,x7,rfl⟩:=eight hst;rw[digC8]at h1;simp at h1
theorem KRow.lt{w:World}(h:KRow w):6 < w.heap.size:=cell_lt (a:=⟨6,63,none⟩) (h 63 _ (kAt_get 63 (by decide)))
theorem KRow.grown{w w':World}{r:Option Nat}(h:KRow w)(hg:w.grownBy w' r)(hr:r≠some 6):KRow w':=fun i x hx =>
 (World.cell?_of_block (a:=⟨6,i,none⟩) (hg.block 6 h.lt (fun q=>hr q.symm))).trans (h i x hx)
theorem KRow.below{w w':World}{b:Nat}(h:KRow w)(hb:Below b w w')(h6:6 < b):KRow w':=fun i x hx=>(hb.cell (p:=⟨6,i,none⟩) h6).trans (h i x hx)
theorem OwnB.lit0(w:World)(base:Nat)(hb:base<=w.heap.size):OwnB (w.alloc (.cells #[] 5)) base (.slice (some ⟨w.heap.size,0,none⟩) 0 0) [] :=
 .inr ⟨w.heap.size,0,0,rfl,hb,by simp,zR _,by simp[maxLen],fun i c h=>by simp at h,fun i h=>by omega,fun i h=>by omega⟩
theorem stores8n(w:World)(g:Nat)(x0 x1 x2 x3 x4 x5 x6 x7 y0 y1 y2 y3 y4 y5 y6 y7:W32)(bv:Value)(h:Blk w g (digC [x0,x1,x2,x3,x4,x5,x6,x7] bv) 243) :
  Blk ((((((((w.setCell ⟨g,0,none⟩ (.int .u32 (y0.toNat:Int))).setCell ⟨g,1,none⟩ (.int .u32 (y1.toNat:Int))).setCell ⟨g,2,none⟩ (.int .u32 (y2.toNat:Int))).setCell ⟨g,3,none⟩ (.int .u32 (y3.toNat:Int))).setCell ⟨g,4,none⟩ (.int .u32 (y4.toNat:Int))).setCell ⟨g,5,none⟩ (.int .u32 (y5.toNat:Int))).setCell ⟨g,6,none⟩ (.int .u32 (y6.toNat:Int))).setCell ⟨g,7,none⟩ (.int .u32 (y7.toNat:Int))) g (digC [y0,y1,y2,y3,y4,y5,y6,y7] bv) 243/\w.grownBy ((((((((w.setCell ⟨g,0,none⟩ (.int .u32 (y0.toNat:Int))).setCell ⟨g,1,none⟩ (.int .u32 (y1.toNat:Int))).setCell ⟨g,2,none⟩ (.int .u32 (y2.toNat:Int))).setCell ⟨g,3,none⟩ (.int .u32 (y3.toNat:Int))).setCell ⟨g,4,none⟩ (.int .u32 (y4.toNat:Int))).setCell ⟨g,5,none⟩ (.int .u32 (y5.toNat:Int))).setCell ⟨g,6,none⟩ (.int .u32 (y6.toNat:Int))).setCell ⟨g,7,none⟩ (.int .u32 (y7.toNat:Int))) (some g)/\((((((((w.setCell ⟨g,0,none⟩ (.int .u32 (y0.toNat:Int))).setCell ⟨g,1,none⟩ (.int .u32 (y1.toNat:Int))).setCell ⟨g,2,none⟩ (.int .u32 (y2.toNat:Int))).setCell ⟨g,3,none⟩ (.int .u32 (y3.toNat:Int))).setCell ⟨g,4,none⟩ (.int .u32 (y4.toNat:Int))).setCell ⟨g,5,none⟩ (.int .u32 (y5.toNat:Int))).setCell ⟨g,6,none⟩ (.int .u32 (y6.toNat:Int))).setCell ⟨g,7,none⟩ (.int .u32 (y7.toNat:Int))).heap.size=w.heap.size:=by
 have h0:=(((((((h.set_ 0 (.int .u32 (y0.toNat:Int))).set_ 1 (.int .u32 (y1.toNat:Int))).set_ 2 (.int .u32 (y2.toNat:Int))).set_ 3 (.int .u32 (y3.toNat:Int))).set_ 4 (.int .u32 (y4.toNat:Int))).set_ 5 (.int .u32 (y5.toNat:Int))).set_ 6 (.int .u32 (y6.toNat:Int))).set_ 7 (.int .u32 (y7.toNat:Int));rw[digC8,set8,<-digC8]at h0;refine⟨h0,?_,by simp[World.size_setCell]⟩;have g0:=grown_set w g 0 (.int .u32 (y0.toNat:Int));have g1:=g0.trans (grown_set _ g 1 (.int .u32 (y1.toNat:Int)));have g2:=g1.trans (grown_set _ g 2 (.int .u32 (y2.toNat:Int)));have g3:=g2.trans (grown_set _ g 3 (.int .u32 (y3.toNat:Int)));have g4:=g3.trans (grown_set _ g 4 (.int .u32 (y4.toNat:Int)));have g5:=g4.trans (grown_set _ g 5 (.int .u32 (y5.toNat:Int)));have g6:=g5.trans (grown_set _ g 6 (.int .u32 (y6.toNat:Int)));exact g6.trans (grown_set _ g 7 (.int .u32 (y7.toNat:Int)))
theorem storesH(w:World)(g:Nat)(x0 x1 x2 x3 x4 x5 x6 x7:W32)(bv:Value)(h:Blk w g (digC [x0,x1,x2,x3,x4,x5,x6,x7] bv) 243) :
  Blk ((((((((w.setCell ⟨g,0,none⟩ (.int .u32 1779033703)).setCell ⟨g,1,none⟩ (.int .u32 3144134277)).setCell ⟨g,2,none⟩ (.int .u32 1013904242)).setCell ⟨g,3,none⟩ (.int .u32 2773480762)).setCell ⟨g,4,none⟩ (.int .u32 1359893119)).setCell ⟨g,5,none⟩ (.int .u32 2600822924)).setCell ⟨g,6,none⟩ (.int .u32 528734635)).setCell ⟨g,7,none⟩ (.int .u32 1541459225)) g (digC H0 bv) 243/\w.grownBy ((((((((w.setCell ⟨g,0,none⟩ (.int .u32 1779033703)).setCell ⟨g,1,none⟩ (.int .u32 3144134277)).setCell ⟨g,2,none⟩ (.int .u32 1013904242)).setCell ⟨g,3,none⟩ (.int .u32 2773480762)).setCell ⟨g,4,none⟩ (.int .u32 1359893119)).setCell ⟨g,5,none⟩ (.int .u32 2600822924)).setCell ⟨g,6,none⟩ (.int .u32 528734635)).setCell ⟨g,7,none⟩ (.int .u32 1541459225)) (some g)/\((((((((w.setCell ⟨g,0,none⟩ (.int .u32 1779033703)).setCell ⟨g,1,none⟩ (.int .u32 3144134277)).setCell ⟨g,2,none⟩ (.int .u32 1013904242)).setCell ⟨g,3,none⟩ (.int .u32 2773480762)).setCell ⟨g,4,none⟩ (.int .u32 1359893119)).setCell ⟨g,5,none⟩ (.int .u32 2600822924)).setCell ⟨g,6,none⟩ (.int .u32 528734635)).setCell ⟨g,7,none⟩ (.int .u32 1541459225)).heap.size=w.heap.size :=
 stores8n w g x0 x1 x2 x3 x4 x5 x6 x7 0x6A09E667#32 0xBB67AE85#32 0x3C6EF372#32 0xA54FF53A#32 0x510E527F#32 0x9B05688C#32 0x1F83D9AB#32 0x5BE0CD19#32 bv h
theorem idx8_0(y0 y1 y2 y3 y4 y5 y6 y7:W32)(W:World):(Instr.index 241 (.agg #[.int .u32 (y0.toNat:Int),.int .u32 (y1.toNat:Int),.int .u32 (y2.toNat:Int),.int .u32 (y3.toNat:Int),.int .u32 (y4.toNat:Int),.int .u32 (y5.toNat:Int),.int .u32 (y6.toNat:Int),.int .u32 (y7.toNat:Int)]) (.int .i64 0)).run Tryz.prog W=.ok (.int .u32 (y0.toNat:Int)) W:=by kernel_rfl
theorem idx8_1(y0 y1 y2 y3 y4 y5 y6 y7:W32)(W:World):(Instr.index 241 (.agg #[.int .u32 (y0.toNat:Int),.int .u32 (y1.toNat:Int),.int .u32 (y2.toNat:Int),.int .u32 (y3.toNat:Int),.int .u32 (y4.toNat:Int),.int .u32 (y5.toNat:Int),.int .u32 (y6.toNat:Int),.int .u32 (y7.toNat:Int)]) (.int .i64 1)).run Tryz.prog W=.ok (.int .u32 (y1.toNat:Int)) W:=by kernel_rfl
theorem idx8_2(y0 y1 y2 y3 y4 y5 y6 y7:W32)(W:World):(Instr.index 241 (.agg #[.int .u32 (y0.toNat:Int),.int .u32 (y1.toNat:Int),.int .u32 (y2.toNat:Int),.int .u32 (y3.toNat:Int),.int .u32 (y4.toNat:Int),.int .u32 (y5.toNat:Int),.int .u32 (y6.toNat:Int),.int .u32 (y7.toNat:Int)]) (.int .i64 2)).run Tryz.prog W=.ok (.int .u32 (y2.toNat:Int)) W:=by kernel_rfl
theorem idx8_3(y0 y1 y2 y3 y4 y5 y6 y7:W32)(W:World):(Instr.index 241 (.agg #[.int .u32 (y0.toNat:Int),.int .u32 (y1.toNat:Int),.int .u32 (y2.toNat:Int),.int .u32 (y3.toNat:Int),.int .u32 (y4.toNat:Int),.int .u32 (y5.toNat:Int),.int .u32 (y6.toNat:Int),.int .u32 (y7.toNat:Int)]) (.int .i64 3)).run Tryz.prog W=.ok (.int .u32 (y3.toNat:Int)) W:=by kernel_rfl
theorem idx8_4(y0 y1 y2 y3 y4 y5 y6 y7:W32)(W:World):(Instr.index 241 (.agg #[.int .u32 (y0.toNat:Int),.int .u32 (y1.toNat:Int),.int .u32 (y2.toNat:Int),.int .u32 (y3.toNat:Int),.int .u32 (y4.toNat:Int),.int .u32 (y5.toNat:Int),.int .u32 (y6.toNat:Int),.int .u32 (y7.toNat:Int)]) (.int .i64 4)).run Tryz.prog W=.ok (.int .u32 (y4.toNat:Int)) W:=by kernel_rfl
theorem idx8_5(y0 y1 y2 y3 y4 y5 y6 y7:W32)(W:World):(Instr.index 241 (.agg #[.int .u32 (y0.toNat:Int),.int .u32 (y1.toNat:Int),.int .u32 (y2.toNat:Int),.int .u32 (y3.toNat:Int),.int .u32 (y4.toNat:Int),.int .u32 (y5.toNat:Int),.int .u32 (y6.toNat:Int),.int .u32 (y7.toNat:Int)]) (.int .i64 5)).run Tryz.prog W=.ok (.int .u32 (y5.toNat:Int)) W:=by kernel_rfl
theorem idx8_6(y0 y1 y2 y3 y4 y5 y6 y7:W32)(W:World):(Instr.index 241 (.agg #[.int .u32 (y0.toNat:Int),.int .u32 (y1.toNat:Int),.int .u32 (y2.toNat:Int),.int .u32 (y3.toNat:Int),.int .u32 (y4.toNat:Int),.int .u32 (y5.toNat:Int),.int .u32 (y6.toNat:Int),.int .u32 (y7.toNat:Int)]) (.int .i64 6)).run Tryz.prog W=.ok (.int .u32 (y6.toNat:Int)) W:=by kernel_rfl
theorem idx8_7(y0 y1 y2 y3 y4 y5 y6 y7:W32)(W:World):(Instr.index 241 (.agg #[.int .u32 (y0.toNat:Int),.int .u32 (y1.toNat:Int),.int .u32 (y2.toNat:Int),.int .u32 (y3.toNat:Int),.int .u32 (y4.toNat:Int),.int .u32 (y5.toNat:Int),.int .u32 (y6.toNat:Int),.int .u32 (y7.toNat:Int)]) (.int .i64 7)).run Tryz.prog W=.ok (.int .u32 (y7.toNat:Int)) W:=by kernel_rfl
theorem idx8(y0 y1 y2 y3 y4 y5 y6 y7 x:W32)(i:Nat)(hx:[y0,y1,y2,y3,y4,y5,y6,y7][i]?=some x)(W:World):(Instr.index 241 (.agg #[.int .u32 (y0.toNat:Int),.int .u32 (y1.toNat:Int),.int .u32 (y2.toNat:Int),.int .u32 (y3.toNat:Int),.int .u32 (y4.toNat:Int),.int .u32 (y5.toNat:Int),.int .u32 (y6.toNat:Int),.int .u32 (y7.toNat:Int)]) (.int .i64 (i:Int))).run Tryz.prog W=.ok (.int .u32 (x.toNat:Int)) W:=by
 have hi:i < 8:=(List.getElem?_eq_some_iff.1 hx).1;have hcase:i=0\/i=1\/i=2\/i=3\/i=4\/i=5\/i=6\/i=7:=by omega
 rcases hcase with rfl|rfl|rfl|rfl|rfl|rfl|rfl|rfl
 ·injection hx with hx;subst hx;exact idx8_0 y0 y1 y2 y3 y4 y5 y6 y7 W
 ·injection hx with hx;subst hx;exact idx8_1 y0 y1 y2 y3 y4 y5 y6 y7 W
 ·injection hx with hx;subst hx;exact idx8_2 y0 y1 y2 y3 y4 y5 y6 y7 W
 ·injection hx with hx;subst hx;exact idx8_3 y0 y1 y2 y3 y4 y5 y6 y7 W
 ·injection hx with hx;subst hx;exact idx8_4 y0 y1 y2 y3 y4 y5 y6 y7 W
 ·injection hx with hx;subst hx;exact idx8_5 y0 y1 y2 y3 y4 y5 y6 y7 W
 ·injection hx with hx;subst hx;exact idx8_6 y0 y1 y2 y3 y4 y5 y6 y7 W
 injection hx with hx;subst hx;exact idx8_7 y0 y1 y2 y3 y4 y5 y6 y7 W
theorem c108(g:Nat)(bv:Value)(l:List UInt8)(w:World)(h:DigAt w g bv l)(hl:l.length<=1073741824)(hK:KRow w) :
  Calls Tryz.prog 108 #[.pointer (some ⟨g,0,none⟩)] w fun e w'=>∃v,e=.returned v/\OwnB w' w.heap.size v (sha l)/\DigAt w' g bv l/\w.grownBy w' (some g):=by
 obtain⟨st,hst,hd,ho⟩:=h;have hgl:=hd.lt;have h6:=hK.ne hd hst;have hKl:=hK.lt;have HK:=zH hK;obtain⟨x0,x1,x2,x3,x4,x5,x6,x7,rfl⟩:=eight hst;have q0:=hd.cell 0;have f0:=hd.frozen 0;have q1:=hd.cell 1;have f1:=hd.frozen 1;have q2:=hd.cell 2;have f2:=hd.frozen 2;have q3:=hd.cell 3;have f3:=hd.frozen 3;have q4:=hd.cell 4;have f4:=hd.frozen 4;have q5:=hd.cell 5;have f5:=hd.frozen 5;have q6:=hd.cell 6;have f6:=hd.frozen 6;have q7:=hd.cell 7;have f7:=hd.frozen 7;have q8:=hd.cell 8;have f8:=hd.frozen 8;rw[digC8]at q0 q1 q2 q3 q4 q5 q6 q7 q8;obtain⟨A2,c2,rfl,_⟩:=ho.slice;have HO:=zH ho;have HD:=zH hd;have HT:=zH hst;clear hd ho hst hK;go_enter Tryz.func108,Tryz.ntmps108;go_upto_region 2 with fail
 have hS:=storesH w g x0 x1 x2 x3 x4 x5 x6 x7 _ HD.out;generalize ((((((((w.setCell ⟨g,0,none⟩ (.int .u32 1779033703)).setCell ⟨g,1,none⟩ (.int .u32 3144134277)).setCell ⟨g,2,none⟩ (.int .u32 1013904242)).setCell ⟨g,3,none⟩ (.int .u32 2773480762)).setCell ⟨g,4,none⟩ (.int .u32 1359893119)).setCell ⟨g,5,none⟩ (.int .u32 2600822924)).setCell ⟨g,6,none⟩ (.int .u32 528734635)).setCell ⟨g,7,none⟩ (.int .u32 1541459225))=W1 at *
 obtain⟨hd1,hg1,hz1⟩:=hS;have ho1:OwnB W1 (g+1) (.slice A2 l.length c2) l:=HO.out.grown hg1 (HO.out.off (Nat.lt_succ_self g));obtain⟨hs0,hhs⟩:∃n,Hid (w.heap.size=n):=⟨_,rfl⟩;rw[hhs.out]at hz1 hgl hKl;have hK1:Hid (KRow W1):=HK.out.grown hg1 (by intro q;injection q with q;exact h6 q.symm);have p8:=cell_alloc' (a:=⟨g,8,none⟩) (.cells #[] 5) (show g < W1.heap.size by omega) ((hd1.cell 8).trans (digC_at H0 _ rfl));have HD1:=zH (And.intro hd1 (And.intro hg1 ho1));have hL0:=zH (OwnB.lit0 W1 hs0 (by omega));have hB0:=zH ((zB hs0 W1).alloc (by omega) (.cells #[] 5));have HZ1:=zH hz1;have hsW:hs0<=W1.heap.size:=by omega
 clear hz1 q0 q1 q2 q3 q4 q5 q6 q7 q8 f0 f1 f2 f3 f4 f5 f6 f7 f8 hd1 hg1 ho1;go_wp2_with (first
  |(at_builtin;refine wp_appB rfl (.tmp 13) (.tmp 17) rfl rfl rfl hL0.out (Src.bytes ((HD1.out.2.2.alloc _).rdB)) (by simp;omega) (by simp;omega) ?_;intro v2 w2 hO2 hg2 hb2 hl2;have hb3:=hb2 W1 hB0.out;clear hb2 hg2 hl2)
  |(at_builtin;refine wp_appb rfl (.tmp 19) (.tmp 20) rfl 128 rfl rfl hO2 (by simp;omega) (by have:=hb3.size;omega) ?_;intro v3 w3 hO3 hg3 hb4 hl3;have hb5:=hb4 W1 hb3;clear hb4 hg3 hl3))
 have HO5:Hid (OwnB w3 hs0 v3 (l++128::List.replicate 0 0)):=by unfold Hid;simpa using hO3
 have HB3:=zH hb5;clear hO2 hO3 hb3 hb5 hL0 hB0;obtain⟨Z,hZ⟩:∃Z,Hid (zerosN l.length=Z):=⟨_,rfl⟩;have hZ1:(l.length+1+Z) % 64=56/\Z < 64:=by have:=hZ.out;unfold zerosN at this;omega
 have HZ1:=zH hZ1;clear hZ1;go_loopg [3] Z (fun g' v w'=>∃k:Nat,Hid (k+g'=Z)/\Hid (OwnB w' hs0 v (l++128::List.replicate k 0))/\Hid (Below hs0 W1 w'))
 case atStart=>exact⟨0,Nat.zero_add _,HO5,HB3⟩
 clear HO5 HB3;obtain⟨k,hk,ho,hb⟩:=hrel;obtain⟨A,c,rfl,hc,hcm,_⟩:=ho.out.slice;obtain⟨N,hN⟩:∃N,Hid (l.length+1+k=N):=⟨_,rfl⟩;have hlen:(l++128::List.replicate k 0).length=N:=by rw[<-hN.out];simp;omega
 rw[hlen]at ho hc ⊢;unfold maxLen at hcm;have hz:=HZ1.out;have hkk:=hk.out;have hNN:=hN.out;have hNb:N<=2000000000000:=by omega
 by_cases hlt:k < Z
 ·have n1:((N:Int) % 64 != 56)=true:=zN (by omega)
  clear hz hkk hNN;go_wp2_with (at_builtin;refine wp_appb rfl (.tmp 26) (.tmp 27) rfl 0 rfl rfl ho.out (by omega) (by have:=hb.out.size;omega) ?_;intro v6 w6 hO6 _ hB6 _;have hb6:=hB6 W1 hb.out;clear hB6);go_roundg (gk - 1)
  case measure=>have:=hk.out;omega
  case rel=>exact⟨k+1,by have:=hk.out;unfold Hid;omega,by unfold Hid;rw[List.append_assoc,List.cons_append,<-List.replicate_succ']at hO6;exact hO6,hb6⟩
 obtain rfl:k=Z:=by omega
 have n1:((N:Int) % 64 != 56)=false:=zQ (by omega);clear hz hkk hNN;have hdr:Blk wr g (digC H0 _) 243:=HD1.out.1.below hb.out hgl;have p8':=(hdr.cell 8).trans (digC_at H0 _ rfl);obtain⟨P,hP⟩:∃P,Hid (pad l=P):=⟨_,rfl⟩;have hP0:Hid ((l++128::List.replicate k 0)++lenB l.length 8=P):=by unfold Hid;rw[<-hP.out,pad,hZ.out]
 obtain⟨b0,hb0⟩:∃b0:List UInt8,Hid (l++128::List.replicate k 0=b0):=⟨_,zH rfl⟩;have hb0l:Hid (b0.length=N):=by unfold Hid;rw[<-hb0.out,hlen]
 rw[hb0.out]at hP0 ho;clear hlen hdr;go_wp2;clear p8' n1;go_loopg [3,5] 8 (fun g' v j w'=>∃q:Nat,∃b:List UInt8,Hid (q=g')/\q<=8/\j=.int .i64 (8*(q:Int) - 8)/\Hid (b++lenB l.length q=P)/\Hid (b.length+q=N+8)/\Hid (OwnB w' hs0 v b)/\Hid (Below hs0 W1 w'))
 case atStart=>exact⟨8,b0,rfl,zR _,rfl,hP0,by have:=hb0l.out;unfold Hid;omega,ho,hb⟩
 clear ho hb hP0;obtain⟨q,b,hq,hq8,rfl,hbp,hbl,ho,hb⟩:=hrel;by_cases hq0:0 < q
 ·obtain⟨q1,rfl⟩:∃q1,q=q1+1:=⟨q - 1,by omega⟩
  obtain⟨A,c,rfl,hc,hcm,_⟩:=ho.out.slice;unfold maxLen at hcm;have hbl2:=hbl.out;have hbp2:=hbp.out;rw[lenB]at hbp2;have HBP:=zH hbp2;have hbb:b.length<=2000000000100:=by omega
  have s0:8*(((q1+1:Nat):Int)) - 8=8*(q1:Int):=by omega
  have s1:8*((q1:Int)+1) - 8=8*(q1:Int):=by omega
  have s2:(0:Int)<=8*(q1:Int):=by omega
  have s3:8*(q1:Int)<=64:=by omega
  have s4:(8*(q1:Int)).toNat=8*q1:=by omega
  rw[s0];obtain⟨c0,hc0⟩:∃c0,Hid (UInt8.ofNat (8*l.length / 2 ^ (8*q1) % 256)=c0):=⟨_,rfl⟩;have hbv:(l.length:Int)*8 / 2 ^ (8*q1) % 256=(c0.toNat:Int):=by rw[<-hc0.out,Int.mul_comm];simp
  rw[hc0.out]at HBP;have HC0:=hc0;clear hbp hbp2 hbl2 hc0 s0 s1;go_wp2_with (at_builtin;refine wp_appb rfl (.tmp 40) (.tmp 45) rfl c0 rfl rfl ho.out (by omega) (by have:=hb.out.size;omega) ?_;intro v6 w6 hO6 _ hB6 _;have hb6:=hB6 W1 hb.out;clear hB6);go_roundg q1
  case measure=>have:=hq.out;omega
  case rel=>exact⟨q1,b++[c0],rfl,by omega,rfl,by unfold Hid;rw[List.append_assoc];exact HBP.out,by have:=hbl.out;unfold Hid;simp;omega,hO6,hb6⟩
 obtain rfl:q=0:=by omega
 obtain rfl:b=P:=by have:=hbp.out;rw[lenB,List.append_nil]at this;exact this
 obtain⟨A,c,rfl,hc,hcm,hAc⟩:=ho.out.slice;have hNB:b.length % 64=0:=by rw[<-hP.out];exact pad_len l
 have hbN:b.length=N+8:=by have:=hbl.out;omega
 obtain⟨NB,hNB⟩:∃NB,b.length=64*NB:=⟨b.length / 64,by omega⟩;have hdr:Blk wr g (digC H0 (.slice A2 l.length c2)) 243:=HD1.out.1.below hb.out hgl;have hKr:KRow wr:=hK1.out.below hb.out hKl;have HX:=zH (And.intro hdr (And.intro hKr hNB));have hNBb:NB<=40000000000:=by omega
 have hR:Hid ((compN NB H0 b).flatMap wBytes=sha l):=by unfold Hid;rw[sha,hP.out,hNB,Nat.mul_div_cancel_left _ (by decide)]
 have hcl:=compN_len NB H0 b;obtain⟨y0,y1,y2,y3,y4,y5,y6,y7,hy⟩:=eight (l:=compN NB H0 b) hcl;rw[hy]at hR;have HY:=zH hy;clear hNB hbN hc hcm hAc hdr hKr hcl hy;go_upto_region 13 with(go_at_call 140;refine(c140 g H0 _ _ b NB _ rfl HX.out.1 ho.out.rdB HX.out.2.2 hNBb HX.out.2.1).mono ?_;rintro e w5⟨rfl,hd5,hg5⟩;rw[HY.out]at hd5)
 have hz5:hs0<=w5.heap.size:=by have h1:=hb.out.size;have h2:=hg5.size;omega
 have HG5:=zH (And.intro hd5 (And.intro hg5 hz5));have c0:=hd5.cell 0;have c1:=hd5.cell 1;have c2_:=hd5.cell 2;have c3:=hd5.cell 3;have c4:=hd5.cell 4;have c5:=hd5.cell 5;have c6:=hd5.cell 6;have c7:=hd5.cell 7;rw[digC8]at c0 c1 c2_ c3 c4 c5 c6 c7;clear hd5 hg5 HX HY hNBb ho;go_wp2;clear c0 c1 c2_ c3 c4 c5 c6 c7;go_loopg [6,54] 8 (fun g' v ix w'=>∃i:Nat,∃out:List UInt8,ix=.int .i64 (i:Int)/\i<=8/\Hid (i+g'=8)/\Hid (out++([y0,y1,y2,y3,y4,y5,y6,y7].drop i).flatMap wBytes=sha l)/\Hid (out.length=4*i)/\Hid (OwnB w' w5.heap.size v out)/\Hid (Below w5.heap.size w5 w'))
 case atStart=>exact⟨0,[],rfl,by omega,rfl,hR,rfl,OwnB.nil _ _,zB _ _⟩
 clear hR;obtain⟨i,out,rfl,hi8,hig,hq,hol,ho9,hb9⟩:=hrel;have hol9:=hol.out;by_cases hl9:i < 8
 ·obtain⟨x,hx⟩:∃x,[y0,y1,y2,y3,y4,y5,y6,y7][i]?=some x:=⟨_,zG (by simpa using hl9)⟩
  have hidx:=idx8 y0 y1 y2 y3 y4 y5 y6 y7 x i hx;have hq2:=hq.out;have hdx:[y0,y1,y2,y3,y4,y5,y6,y7].drop i=x::[y0,y1,y2,y3,y4,y5,y6,y7].drop (i+1):=by
   obtain⟨hlt,hgx⟩:=List.getElem?_eq_some_iff.1 hx;rw[List.drop_eq_getElem_cons hlt,hgx]
  rw[hdx,List.flatMap_cons]at hq2;have HQ:=zH hq2;have hiI:(i:Int) < 8:=by omega
  clear hq hq2 hdx hx;go_wp2_with (at_builtin;rw[w4];refine wp_appB rfl (.tmp 57) (.tmp 69) rfl rfl rfl (ho9.out.alloc _) (Src.row wr (wBytes x)) (by simp[wBytes];omega) (by have:=hb9.out.size;simp;omega) ?_;intro v6 w6 hO6 _ hB6 _;have hb6:=hB6 w5 (hb9.out.alloc hb9.out.size _);clear hB6);go_roundg (gk - 1)
  case measure=>have:=hig.out;omega
  case rel=>exact⟨i+1,out++wBytes x,by go_num,by omega,by have:=hig.out;unfold Hid;omega,by unfold Hid;rw[List.append_assoc];exact HQ.out,by have:=hol.out;unfold Hid;simp[wBytes];omega,hO6,hb6⟩
 obtain rfl:i=8:=by omega
 have hq2:out=sha l:=by have:=hq.out;simpa using this
 have HQ:=zH hq2;clear hq hq2;go_wp2;go_ret
 have hw5:=HG5.out;have hb0':=hb.out;have hG:Gr (fun k=>k=g\/hs0<=k) W1 wr:=((Gr.trans ⟨hb0'.os,hb0'.tape,hb0'.output,hb0'.size,fun k hk hS=>hb0'.block k (by omega)⟩ ((Gr.of_grown hw5.2.1).mono (fun k _ q=>.inl (by injection q with q;exact q.symm))))).trans (Gr.of_below hb9.out);have hW:=HD1.out.2.1;have hWG:w.grownBy wr (some g):=⟨hG.os.trans hW.os,hG.tape.trans hW.tape,hG.output.trans hW.output,zT hW.size hG.size,fun k hk hne=>(hG.block k (zL hk hW.size) (by rw[hhs.out]at hk;intro q;rcases q with q|q;exact hne (by rw[q]);omega)).trans (hW.block k hk hne)⟩;refine⟨_,rfl,?_,⟨[y0,y1,y2,y3,y4,y5,y6,y7],rfl,hw5.1.below hb9.out hw5.1.lt,?_⟩,?_⟩
 ·rw[<-HQ.out];exact ho9.out.mono (by rw[hhs.out];exact hw5.2.2)
 ·exact HD1.out.2.2.gr hG (fun k hk=>by have:=HO.out.lt k hk;rw[hhs.out]at this;omega)
 exact hWG
theorem make_bytes(n:Nat)(hn:n<=140737488355328)(W:World):(Instr.makeSlice 33 (.int .i64 0) (.int .i64 (n:Int))).run Tryz.prog W=.ok (.slice (some ⟨W.heap.size,0,none⟩) 0 n) (W.alloc (.cells (madeCells #[.int .u8 0] n) 5)):=by
 obtain⟨i,hi,hz0,hz1,hz2⟩:=info_parts info5;have:=run_make (P:=Tryz.prog) W 33 5 i (.int .u8 0) Tryz.underlying33 hi hz0 .i64 .i64 0 n (by omega) (by omega) (by rw[hz2];omega) (by omega);simp only[Int.toNat_natCast,hz1,Nat.mul_one,Int.toNat_zero]at this;exact this
theorem own_made(n:Nat)(hn:n<=140737488355328)(W:World)(base:Nat)(hb:base<=W.heap.size):OwnB (W.alloc (.cells (madeCells #[.int .u8 0] n) 5)) base (.slice (some ⟨W.heap.size,0,none⟩) 0 n) [] :=
 OwnB.new W base hb (madeCells #[.int .u8 0] n) 5 [] 0 n rfl (by simp) (by simp[size_madeCells]) (by unfold maxLen;omega) (fun i c h=>by simp at h)
def crN : Bool->List UInt8->Bool
 |cr,[]=>cr
 |_,c::l=>crN ((c.toNat:Int) == 13) l
theorem endedLe(cr:Bool)(l:List UInt8):(ended cr l).length<=2*l.length:=by
 induction l generalizing cr with
 |nil=>simp[ended]
 |cons c l ih=>rw[ended];split;have:=ih false;simp;omega;have:=ih ((c.toNat:Int) == 13);simp;omega
theorem grown_then{w a b:World}{r:Option Nat}(h:w.grownBy a r)(hb:Below w.heap.size a b):w.grownBy b r :=
 ⟨hb.os.trans h.os,hb.tape.trans h.tape,hb.output.trans h.output,zT h.size hb.size,fun k hk hn=>(hb.block k hk).trans (h.block k hk hn)⟩
theorem c292(gc k:Nat)(cs:Array Value)(ty:TypeId)(cr:Bool)(v:Value)(l:List UInt8)(w:World)(hd:Blk w gc cs ty)(hk:cs[k]?=some (.bool cr))(hv:RdB w v l)(hne:∀g o n c,v=.slice (some ⟨g,o,none⟩) n c->g≠gc)(hl:l.length<=1073741824) :
  Calls Tryz.prog 292 #[.pointer (some ⟨gc,k,none⟩),v] w fun e w'=>∃v',e=.returned v'/\OwnB w' w.heap.size v' (ended cr l)/\Blk w' gc (cs.setIfInBounds k (.bool (crN cr l))) ty/\w.grownBy w' (some gc):=by
 obtain⟨R,hR⟩:∃R,Hid (ended cr l=R):=⟨_,rfl⟩;obtain⟨C,hC⟩:∃C,Hid (crN cr l=C):=⟨_,rfl⟩;rw[hR.out,hC.out];have hgl:=hd.lt;have hmk:=make_bytes l.length (by omega);have hown0:=zH (own_made l.length (by omega) w w.heap.size (zR _));have hd0:Hid (Blk (w.alloc (.cells (madeCells #[.int .u8 0] l.length) 5)) gc (cs.setIfInBounds k (.bool cr)) ty):=by
  refine(hd.below ((zB w.heap.size w).alloc (zR _) _) hgl).to ?_;refine Array.ext_getElem? fun i=>?_
  rw[Array.getElem?_setIfInBounds];split
  ·rename_i h;subst h;rw[hk];obtain⟨hlt,_⟩:=Array.getElem?_eq_some_iff.1 hk;simp[hlt]
  rfl
 have hg0:Hid (w.grownBy (w.alloc (.cells (madeCells #[.int .u8 0] l.length) 5)) (some gc)):=zH (World.grownBy_alloc w _ _);have HV:=zH hv;have HNE:=zH hne;obtain⟨klt,_⟩:=Array.getElem?_eq_some_iff.1 hk;obtain⟨A,c,rfl,hc,hA⟩:=hv;have HA:=zH hA;clear hd hk hne hA;go_enter Tryz.func292,Tryz.ntmps292;go_wp2;clear hmk;generalize w.alloc (.cells (madeCells #[.int .u8 0] l.length) 5)=W0 at *
 go_loopg [5,14] l.length (fun g v ix w'=>∃i:Nat,∃out:List UInt8,∃b:Bool,Hid (i+g=l.length)/\i<=l.length/\ix=.int .i64 (i:Int)/\Hid (out++ended b (l.drop i)=R)/\Hid (crN b (l.drop i)=C)/\Hid (out.length<=2*i)/\Hid (OwnB w' w.heap.size v out)/\Hid (Blk w' gc (cs.setIfInBounds k (.bool b)) ty)/\Hid (w.grownBy w' (some gc)))
 case atStart=>exact⟨0,[],cr,Nat.zero_add _,Nat.zero_le _,rfl,hR,hC,zR _,hown0,hd0,hg0⟩
 clear hown0 hd0 hg0 hR hC;obtain⟨i,out,b,hi,hil,rfl,hq,hcq,hol,ho,hD,hG⟩:=hrel;by_cases hlt:i < l.length
 ·obtain⟨g0,off0,rfl,hcl⟩:=HA.out (by omega)
  obtain⟨x,hx⟩:∃x,Hid (l[i]=x):=⟨l[i],zH rfl⟩;have hc0:=hcl i x (by rw[<-hx.out];exact zG hlt);have hgne:=HNE.out g0 off0 l.length c rfl;have e1:=(World.cell?_of_block (a:=⟨g0,off0+i,none⟩) (hG.out.block g0 (cell_lt hc0) (fun q=>hgne (by injection q)))).trans hc0;unfold byteV at e1;have p0:wr.cell? ⟨gc,k,none⟩=some (.bool b):=(hD.out.cell k).trans (by rw[Array.getElem?_setIfInBounds];simp[klt]);have f0:=hD.out.frozen k;have hq2:=hq.out;have hcq2:=hcq.out;rw[List.drop_eq_getElem_cons hlt,hx.out,ended]at hq2;rw[List.drop_eq_getElem_cons hlt,hx.out,crN]at hcq2;have hltI:(i:Int) < (l.length:Int):=by omega
  clear hcl hc0 hgne hq hcq;have tok1:True:=trivial;by_cases h13:(x.toNat:Int)=13
  ·have t1:((x.toNat:Int) == 13)=true:=zE h13
   have t2:((x.toNat:Int) == 10)=false:=zF (by omega);rw[if_neg (fun h=>by omega),t1]at hq2;rw[t1]at hcq2;have HQ:Hid ((out++[x])++ended true (l.drop (i+1))=R/\crN true (l.drop (i+1))=C):=⟨by rw[List.append_assoc];exact hq2,hcq2⟩;clear h13 hq2 hcq2;have HO1:=zH ((ho.out.setNe (k:=k) (u:=.bool false) hgl).setNe (k:=k) (u:=.bool true) hgl);have hD1:=((Blk.set_ hD.out k (.bool false)).set_ k (.bool true)).to (cs':=cs.setIfInBounds k (.bool true)) (by simp);have hG1:=(hG.out.trans (grown_set wr gc k (.bool false))).trans (grown_set _ gc k (.bool true));have HS1:Hid (w.heap.size<=((wr.setCell ⟨gc,k,none⟩ (.bool false)).setCell ⟨gc,k,none⟩ (.bool true)).heap.size):=hG1.size;go_wp2_with (first
    |(at_builtin;refine wp_appb rfl (.tmp 38) (.tmp 40) rfl x rfl (by(repeat rw[World.size_setCell]);rfl) (HO1.out) (by have:=hol.out;omega) HS1.out ?_;intro v3 w3 hO3 _ hb3 _;have hbx:=hb3 _ (zB _ _);clear hb3))
   go_roundg (gk - 1)
   case measure=>have:=hi.out;omega
   case rel =>
    refine⟨i+1,out++[x],true,by have:=hi.out;unfold Hid;omega,by omega,by go_num,HQ.out.1,HQ.out.2,by have:=hol.out;unfold Hid;simp;omega,hO3,(hD1.below hbx hgl),grown_then hG1 hbx⟩
  have t1:((x.toNat:Int) == 13)=false:=zF h13;rw[t1]at hcq2;by_cases h10:(x.toNat:Int)=10
  ·have t2:((x.toNat:Int) == 10)=true:=zE h10
   cases b with
   |true =>
    rw[if_neg (fun h=>by cases h.2),t1]at hq2;have HQ:Hid ((out++[x])++ended false (l.drop (i+1))=R/\crN false (l.drop (i+1))=C):=⟨by rw[List.append_assoc];exact hq2,hcq2⟩;clear h13 h10 hq2 hcq2;have HO1:=zH (ho.out.setNe (k:=k) (u:=.bool false) hgl);have hD1:=(Blk.set_ hD.out k (.bool false)).to (cs':=cs.setIfInBounds k (.bool false)) (by simp);have hG1:=hG.out.trans (grown_set wr gc k (.bool false));have HS1:Hid (w.heap.size<=(wr.setCell ⟨gc,k,none⟩ (.bool false)).heap.size):=hG1.size;go_wp2_with (first
     |(at_builtin;refine wp_appb rfl (.tmp 38) (.tmp 40) rfl x rfl (by(repeat rw[World.size_setCell]);rfl) (HO1.out) (by have:=hol.out;omega) HS1.out ?_;intro v3 w3 hO3 _ hb3 _;have hbx:=hb3 _ (zB _ _);clear hb3))
    go_roundg (gk - 1)
    case measure=>have:=hi.out;omega
    case rel =>
     refine⟨i+1,out++[x],false,by have:=hi.out;unfold Hid;omega,by omega,by go_num,HQ.out.1,HQ.out.2,by have:=hol.out;unfold Hid;simp;omega,hO3,(hD1.below hbx hgl),grown_then hG1 hbx⟩
   |false =>
    rw[if_pos ⟨h10,rfl⟩]at hq2;have HQ:Hid ((out++[13]++[x])++ended false (l.drop (i+1))=R/\crN false (l.drop (i+1))=C):=⟨by simpa using hq2,hcq2⟩;clear h13 h10 hq2 hcq2;have HO1:=zH (ho.out.setNe (k:=k) (u:=.bool false) hgl);have hD1:=(Blk.set_ hD.out k (.bool false)).to (cs':=cs.setIfInBounds k (.bool false)) (by simp);have hG1:=hG.out.trans (grown_set wr gc k (.bool false));have HS1:Hid (w.heap.size<=(wr.setCell ⟨gc,k,none⟩ (.bool false)).heap.size):=hG1.size;go_wp2_with (first
     |(at_builtin;have _t:=tok1;refine wp_appb rfl (.tmp 35) (.tmp 36) rfl 13 rfl (by(repeat rw[World.size_setCell]);rfl) (HO1.out) (by have:=hol.out;omega) HS1.out ?_;intro v2 w2 hO2 _ hb2 _;have hby:=hb2 _ (zB _ _);clear tok1 hb2)
     |(at_builtin;refine wp_appb rfl (.tmp 38) (.tmp 40) rfl x rfl rfl hO2 (by have:=hol.out;simp;omega) (zT HS1.out hby.size) ?_;intro v3 w3 hO3 _ hb3 _;have hbx:=hb3 _ hby;clear hb3))
    go_roundg (gk - 1)
    case measure=>have:=hi.out;omega
    case rel =>
     refine⟨i+1,out++[13]++[x],false,by have:=hi.out;unfold Hid;omega,by omega,by go_num,HQ.out.1,HQ.out.2,by have:=hol.out;unfold Hid;simp;omega,hO3,(hD1.below hbx hgl),grown_then hG1 hbx⟩
  have t2:((x.toNat:Int) == 10)=false:=zF h10;rw[if_neg (fun h=>h10 h.1),t1]at hq2;have HQ:Hid ((out++[x])++ended false (l.drop (i+1))=R/\crN false (l.drop (i+1))=C):=⟨by rw[List.append_assoc];exact hq2,hcq2⟩;clear h13 h10 hq2 hcq2;have HO1:=zH (ho.out.setNe (k:=k) (u:=.bool false) hgl);have hD1:=(Blk.set_ hD.out k (.bool false)).to (cs':=cs.setIfInBounds k (.bool false)) (by simp);have hG1:=hG.out.trans (grown_set wr gc k (.bool false));have HS1:Hid (w.heap.size<=(wr.setCell ⟨gc,k,none⟩ (.bool false)).heap.size):=hG1.size;go_wp2_with (first
   |(at_builtin;refine wp_appb rfl (.tmp 38) (.tmp 40) rfl x rfl (by(repeat rw[World.size_setCell]);rfl) (HO1.out) (by have:=hol.out;omega) HS1.out ?_;intro v3 w3 hO3 _ hb3 _;have hbx:=hb3 _ (zB _ _);clear hb3))
  go_roundg (gk - 1)
  case measure=>have:=hi.out;omega
  case rel =>
   refine⟨i+1,out++[x],false,by have:=hi.out;unfold Hid;omega,by omega,by go_num,HQ.out.1,HQ.out.2,by have:=hol.out;unfold Hid;simp;omega,hO3,(hD1.below hbx hgl),grown_then hG1 hbx⟩
 have hq2:=hq.out;have hcq2:=hcq.out;rw[List.drop_eq_nil_of_le (by omega),ended,List.append_nil]at hq2;rw[List.drop_eq_nil_of_le (by omega),crN]at hcq2;subst hq2 hcq2;go_wp2;go_ret
 exact⟨_,rfl,ho.out,hD.out,hG.out⟩
end Go.Proofs.YtnkihlpmmfeioaaGreatDoor
