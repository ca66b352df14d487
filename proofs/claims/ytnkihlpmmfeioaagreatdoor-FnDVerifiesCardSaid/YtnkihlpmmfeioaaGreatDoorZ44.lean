/- Part of the proof that laws.FnDVerifies answers true: K12,A110 -/
import Derived.Test.YtnkihlpmmfeioaaGreatDoorZ42
import Derived.Test.YtnkihlpmmfeioaaGreatDoorZ43
set_option linter.unusedVariables false
set_option linter.unusedSimpArgs false
set_option maxRecDepth 1000000
set_option maxHeartbeats 16000000
namespace Go.Proofs.YtnkihlpmmfeioaaGreatDoor
open Go.RowKit
structure VV where
 d:ByteArray
 i:ByteArray
 A:Option Addr
 n:Nat
 cp:Nat
 t:Int
 x:Int
 c:Int
def VV.hk(x:VV):Value:=.slice x.A x.n x.cp
def vcells(xs:List VV):List Value:=xs.flatMap fun x=>[.string x.d,.string x.i,x.hk,.int .i64 x.t,.int .i64 x.x,.int .i64 x.c]
theorem vcells_len(xs:List VV):(vcells xs).length=xs.length*6:=by
 induction xs with
 |nil=>rfl
 |cons x l ih=>simp only[vcells,List.flatMap_cons,zA,List.length_cons,List.length_nil]at ih ⊢;omega
theorem vcells_app(xs ys:List VV):vcells (xs++ys)=vcells xs++vcells ys:=by simp[vcells]
theorem vcells_at(xs:List VV):∀(k:Nat) (x:VV),xs[k]?=some x->(vcells xs)[k*6]?=some (.string x.d)/\(vcells xs)[k*6+1]?=some (.string x.i)/\(vcells xs)[k*6+2]?=some x.hk/\(vcells xs)[k*6+3]?=some (.int .i64 x.t)/\(vcells xs)[k*6+4]?=some (.int .i64 x.x)/\(vcells xs)[k*6+5]?=some (.int .i64 x.c):=by
 induction xs with
 |nil=>intro k x h;simp at h
 |cons y l ih =>
  intro k x h;cases k with
  |zero=>simp at h;subst h;simp[vcells]
  |succ k =>
   have:=ih k x (by simpa using h);simp only[vcells,List.flatMap_cons]at this ⊢;rw[show(k+1)*6=(k*6)+1+1+1+1+1+1 by omega]
   simpa using this
theorem vcells_one(xs:List VV):∀u∈vcells xs,u.oneCell'=true:=by
 intro u hu;obtain⟨x,_,hx⟩:=List.mem_flatMap.1 hu;simp[VV.hk]at hx;rcases hx with rfl|rfl|rfl|rfl|rfl|rfl <;> rfl
theorem info47 : (Tryz.prog.info? 47).map (fun i=>(i.zero,i.size,i.bytes))=some (some (.agg #[.string ⟨#[]⟩,.string ⟨#[]⟩,.slice none 0 0,.int .i64 0,.int .i64 0,.int .i64 0]),6,80):=by kernel_rfl
def OwnV(w:World)(base:Nat)(v:Value)(xs:List VV):Prop:=w.ownsRow base 47 6 v xs.length (vcells xs)
theorem OwnV.nil(w:World)(base:Nat):OwnV w base (.slice none 0 0) []:=⟨rfl,.inl ⟨rfl,rfl⟩⟩
theorem OwnV.below{w w':World}{base:Nat}{v:Value}{xs:List VV}(h:OwnV w base v xs)(hb:Below w.heap.size w w'):OwnV w' base v xs :=
 h.kept (row:=none) ⟨hb.os,hb.tape,hb.output,hb.size,fun k hk _=>hb.block k hk⟩ (by cases v.ownBlock <;> simp)
theorem OwnV.slice{w:World}{base:Nat}{v:Value}{xs:List VV}(h:OwnV w base v xs) :
  ∃A c,v=.slice A xs.length c/\xs.length<=c/\(0 < xs.length->∃g,A=some ⟨g,0,none⟩/\base<=g/\g < w.heap.size/\∀k x,xs[k]?=some x->w.cell? ⟨g,k*6,none⟩=some (.string x.d)/\w.cell? ⟨g,k*6+1,none⟩=some (.string x.i)/\w.cell? ⟨g,k*6+2,none⟩=some x.hk/\w.cell? ⟨g,k*6+3,none⟩=some (.int .i64 x.t)/\w.cell? ⟨g,k*6+4,none⟩=some (.int .i64 x.x)/\w.cell? ⟨g,k*6+5,none⟩=some (.int .i64 x.c)):=by
 rcases h.2 with⟨rfl,h0⟩|⟨g,cap,cur,rfl,hg,hh,hn,_⟩
 ·exact⟨none,0,by rw[h0],by omega,fun hp=>absurd hp (by omega)⟩
 refine⟨_,cap,rfl,hn,fun _=>⟨g,rfl,hg,(Array.getElem?_eq_some_iff.1 hh).1,fun k x hx=>?_⟩⟩;obtain⟨h1,h2,h3,h4,h5,h6⟩:=vcells_at xs k x hx;have q:∀j u,(vcells xs)[j]?=some u->w.cell? ⟨g,j,none⟩=some u:=fun j u hu=>by
  have:=World.ownsRow.cells h (g:=g) rfl _ _ hu
  rwa [show(⟨g,0,none⟩:Addr).add j=⟨g,j,none⟩from by unfold Addr.add;split <;> simp_all]at this
 exact⟨q _ _ h1,q _ _ h2,q _ _ h3,q _ _ h4,q _ _ h5,q _ _ h6⟩
theorem run_appV(w:World)(ty base:Nat)(v:Value)(xs:List VV)(hown:OwnV w base v xs)(ad:Addr)(c:Nat)(x:VV)
  (hnews:∀j u,(vcells [x])[j]?=some u->w.cell? (ad.add j)=some u)(hlen:(xs.length+1)*80<=140737488355328)(hbase:base<=w.heap.size) :
  ∃v' w',(Builtin.append_ #[28,28] ty #[v,.slice (some ad) 1 c]).run Tryz.prog w=.ok v' w'/\OwnV w' base v' (xs++[x])/\(∀w0,Below base w0 w->Below base w0 w')/\w.grownBy w' v.ownBlock/\(v'.ownBlock=v.ownBlock\/v'.ownBlock=some w.heap.size):=by
 obtain⟨i,hi,hz0,hz1,hz2⟩:=info_parts info47;obtain⟨v',w',h1,h2,h3,h4,h5⟩:=run_append_own_at (P:=Tryz.prog) w base 28 ty 47 i _ 6 80 Tryz.underlying28 hi hz0 hz1 hz2 rfl (by decide) v xs.length (vcells xs) hown ad 1 c (vcells [x]) (by rw[vcells_len];rfl) hnews (vcells_one _) (by simp only[maxLen];omega) hlen hbase;refine⟨v',w',h1,?_,fun w0 hb=>hb.grown h3 hbase fun k hk=>(World.ownsRow.lt hown k hk).1,h3,h5⟩;unfold OwnV;rw[vcells_app,zA];exact h2
def KsAt(w:World)(v:Value)(x:VV)(ks:List (List UInt8)):Prop:=RdS w x.hk ks/\(0 < ks.length->∀a,x.A=some a->a.block < w.heap.size/\v.ownBlock≠some a.block)
theorem KsAt.below{w w':World}{v:Value}{x:VV}{ks:List (List UInt8)}(h:KsAt w v x ks)(hb:Below w.heap.size w w'):KsAt w' v x ks :=
 ⟨h.1.below hb,fun hp a ha=>⟨zL (h.2 hp a ha).1 hb.size,(h.2 hp a ha).2⟩⟩
theorem RdS.grown'{w w':World}{x:VV}{ks:List (List UInt8)}{row:Option Nat}(h:RdS w x.hk ks)(ha:0 < ks.length->∀a,x.A=some a->a.block < w.heap.size/\row≠some a.block)(hg:w.grownBy w' row):RdS w' x.hk ks:=by
 obtain⟨A,c,h1,hc,hl,hA⟩:=h;refine⟨A,c,h1,hc,hl,fun h0=>?_⟩;obtain⟨g,off,rfl,hcell⟩:=hA h0;have hx:x.A=some ⟨g,off,none⟩:=by unfold VV.hk at h1;injection h1
 obtain⟨k1,k2⟩:=ha h0 _ hx;exact⟨g,off,rfl,fun i y hy=>(World.cell?_of_block (a:=⟨g,off+i,none⟩) (hg.block g k1 fun q=>k2 q.symm)).trans (hcell i y hy)⟩
theorem KsAt.grown{w w':World}{v v':Value}{x:VV}{ks:List (List UInt8)}(h:KsAt w v x ks)(hg:w.grownBy w' v.ownBlock)(hv:v'.ownBlock=v.ownBlock\/v'.ownBlock=some w.heap.size):KsAt w' v' x ks:=by
 refine⟨h.1.grown' h.2 hg,fun h0 a ha=>?_⟩;obtain⟨k1,k2⟩:=h.2 h0 a ha;refine⟨zL k1 hg.size,?_⟩;rcases hv with q|q
 ·rw[q];exact k2
 rw[q];intro e;injection e with e;omega
theorem KsAt.new{w:World}{v:Value}{base:Nat}{x:VV}{ks:List (List UInt8)}(h:RdS w x.hk ks)(hx:∀a,x.A=some a->base<=a.block)(hv:∀g,v.ownBlock=some g->g < base):KsAt w v x ks:=by
 refine⟨h,fun h0 a ha=>⟨?_,fun q=>?_⟩⟩
 ·obtain⟨A,c,h1,_,_,hA⟩:=h
  obtain⟨g,off,rfl,hcell⟩:=hA h0;have hx:x.A=some ⟨g,off,none⟩:=by unfold VV.hk at h1;injection h1
  rw[hx]at ha;injection ha with ha
  subst ha;obtain⟨y,hy⟩:∃y,ks[0]?=some y:=⟨ks[0],zG h0⟩;exact cell_lt (hcell 0 y hy)
 have:=hv _ q;have:=hx a ha;omega
def VOf(fields:List (List UInt8))(body:List UInt8)(recs:List Rec)(now:Int)(f:List UInt8)(x:VV)(ks:List (List UInt8)):Prop :=
 x.c=judgeC fields body f recs now/\(x.c=0->∃P,pmM (split 59 (cutZ 58 f)) []=some P/\x.d=B (domOf P)/\x.i=B (identOf P)/\ks=keysOf P/\x.t=(timeOf [116] P).getD 0/\x.x=(timeOf [120] P).getD 0)
def RdVs(w:World)(v:Value)(fields:List (List UInt8))(body:List UInt8)(recs:List Rec)(now:Int)(sigs:List (List UInt8)):Prop :=
 ∃A c,v=.slice A sigs.length c/\sigs.length<=c/\(0 < sigs.length->∃g,A=some ⟨g,0,none⟩/\∀k f,sigs[k]?=some f->∃x ks,VOf fields body recs now f x ks/\RdS w x.hk ks/\w.cell? ⟨g,k*6,none⟩=some (.string x.d)/\w.cell? ⟨g,k*6+1,none⟩=some (.string x.i)/\w.cell? ⟨g,k*6+2,none⟩=some x.hk/\w.cell? ⟨g,k*6+3,none⟩=some (.int .i64 x.t)/\w.cell? ⟨g,k*6+4,none⟩=some (.int .i64 x.x)/\w.cell? ⟨g,k*6+5,none⟩=some (.int .i64 x.c))
theorem RdVs.below{w w':World}{v:Value}{fields:List (List UInt8)}{body:List UInt8}{recs:List Rec}{now:Int}{sigs:List (List UInt8)}(h:RdVs w v fields body recs now sigs)(hb:Below w.heap.size w w'):RdVs w' v fields body recs now sigs:=by
 obtain⟨A,c,rfl,hc,h0⟩:=h;refine⟨A,c,rfl,hc,fun hp=>?_⟩;obtain⟨g,rfl,hk⟩:=h0 hp;refine⟨g,rfl,fun k f hf=>?_⟩;obtain⟨x,ks,hv,hr,h1,h2,h3,h4,h5,h6⟩:=hk k f hf;exact⟨x,ks,hv,hr.below hb,(hb.cell (cell_lt h1)).trans h1,(hb.cell (cell_lt h2)).trans h2,(hb.cell (cell_lt h3)).trans h3,(hb.cell (cell_lt h4)).trans h4,(hb.cell (cell_lt h5)).trans h5,(hb.cell (cell_lt h6)).trans h6⟩
def VsAt(w:World)(v:Value)(fields:List (List UInt8))(body:List UInt8)(recs:List Rec)(now:Int)(sigs:List (List UInt8))(xs:List VV):Prop :=
 xs.length=sigs.length/\∀(k:Nat) (f:List UInt8) (x:VV),sigs[k]?=some f->xs[k]?=some x->∃ks,VOf fields body recs now f x ks/\KsAt w v x ks
section
variable {fields:List (List UInt8)}{body:List UInt8}{recs:List Rec}{now:Int}{sigs:List (List UInt8)}{xs:List VV}{w w':World}{v v':Value}
theorem VsAt.nil(w:World)(v:Value):VsAt w v fields body recs now [] []:=⟨rfl,fun k f x h=>by simp at h⟩
theorem VsAt.below(h:VsAt w v fields body recs now sigs xs)(hb:Below w.heap.size w w'):VsAt w' v fields body recs now sigs xs :=
 ⟨h.1,fun k f x hf hx=>by obtain⟨ks,h1,h2⟩:=h.2 k f x hf hx;exact⟨ks,h1,h2.below hb⟩⟩
theorem VsAt.grown(h:VsAt w v fields body recs now sigs xs)(hg:w.grownBy w' v.ownBlock)(hv:v'.ownBlock=v.ownBlock\/v'.ownBlock=some w.heap.size):VsAt w' v' fields body recs now sigs xs :=
 ⟨h.1,fun k f x hf hx=>by obtain⟨ks,h1,h2⟩:=h.2 k f x hf hx;exact⟨ks,h1,h2.grown hg hv⟩⟩
theorem VsAt.add(h:VsAt w v fields body recs now sigs xs){f:List UInt8}{x:VV}{ks:List (List UInt8)}(hx:VOf fields body recs now f x ks)(hk:KsAt w v x ks):VsAt w v fields body recs now (sigs++[f]) (xs++[x]):=by
 refine⟨by simp[h.1],fun k f' x' h1 h2=>?_⟩;rcases Nat.lt_or_ge k sigs.length with hlt|hge
 ·rw[List.getElem?_append_left hlt]at h1
  rw[List.getElem?_append_left (by rw[h.1];exact hlt)]at h2;exact h.2 k f' x' h1 h2
 rw[List.getElem?_append_right hge]at h1;rw[List.getElem?_append_right (by rw[h.1];exact hge)]at h2;rw[h.1]at h2;cases hk0:k - sigs.length with
 |zero =>
  rw[hk0]at h1 h2;simp at h1 h2;subst h1 h2;exact⟨ks,hx,hk⟩
 |succ j=>rw[hk0]at h1;simp at h1
theorem VsAt.rd{base:Nat}(h:VsAt w v fields body recs now sigs xs)(ho:OwnV w base v xs):RdVs w v fields body recs now sigs:=by
 obtain⟨A,c,rfl,hc,hk⟩:=ho.slice;refine⟨A,c,by rw[h.1],by rw[<-h.1];exact hc,fun hp=>?_⟩;obtain⟨g,rfl,_,_,hcl⟩:=hk (by rw[h.1];exact hp);refine⟨g,rfl,fun k f hf=>?_⟩;have hlt:=(List.getElem?_eq_some_iff.1 hf).1;have hx:xs[k]?=some (xs[k]'(by rw[h.1];exact hlt)):=zG _;obtain⟨ks,h1,h2⟩:=h.2 k f _ hf hx;exact⟨_,ks,h1,h2.1,hcl k _ hx⟩
end
theorem VOf.tags{fields:List (List UInt8)}{body:List UInt8}{recs:List Rec}{now:Int}{f:List UInt8}{x:VV}{ks:List (List UInt8)}{T:List Pair}(hc:x.c=judgeC fields body f recs now)(hT:x.c=0->tagsM (split 59 (cutZ 58 f)) []=some T)
  (h:x.c=0->x.d=B (domOf T)/\x.i=B (identOf T)/\ks=keysOf T/\x.t=(timeOf [116] T).getD 0/\x.x=(timeOf [120] T).getD 0):VOf fields body recs now f x ks:=by
 refine⟨hc,fun h0=>?_⟩;rcases pm_tags (split 59 (cutZ 58 f)) [] [] .nil (fun _=>⟨rfl,rfl⟩)with⟨h1,h2⟩|⟨T',P,h1,h2,h3⟩
 ·rw[hT h0]at h1;cases h1
 rw[hT h0]at h1;injection h1 with h1
 subst h1;obtain⟨r1,r2,r3,r4,r5⟩:=h h0;have q1:∀t,hasTag t T=hasTag t P:=fun t=>(h3 t).1
 have q2:∀t,valOf t T=valOf t P:=fun t=>(h3 t).2
 have d1:domOf T=domOf P:=by unfold domOf;rw[q2]
 have d3:identOf T=identOf P:=by unfold identOf;rw[q1,q2,d1]
 have d5:keysOf T=keysOf P:=by unfold keysOf;rw[q2]
 have d7:∀t,timeOf t T=timeOf t P:=fun t=>by unfold timeOf;rw[q1,q2]
 exact⟨P,h2,by rw[r1,d1],by rw[r2,d3],by rw[r3,d5],by rw[r4,d7],by rw[r5,d7]⟩
def dkimSigL : List UInt8:=[100,107,105,109,45,115,105,103,110,97,116,117,114,101]
def isSig(f:List UInt8):Bool:=lower (trim (cutA 58 f)) == dkimSigL
def sigsOf(fields:List (List UInt8)):List (List UInt8):=fields.filter isSig
def firstOf(most:Int)(l:List (List UInt8)):List (List UInt8):=if most > 0 then l.take most.toNat else l
def manyOf(most:Int)(l:List (List UInt8)):Bool:=decide (most > 0) && decide ((l.length:Int) > most)
section
variable {ops:Array Oper}{rest:List Oper}{o:Oper}{a:Act}{Q:Exit->Act->World->Prop}
theorem wp_appV{w:World}{base:Nat}{v:Value}{xs:List VV}(hgd:o.guard=none)(s xo:Operand)(ho:o.op=.call { callee:=.builtin .append,args:=#[s,xo],argTypes:=#[28,28] })
  (x:VV) (hs:a.eval s=v) (hx:a.eval xo=.slice (some ⟨w.heap.size,0,none⟩) 1 1) (hown:OwnV w base v xs) (hlen:(xs.length+1)*80<=140737488355328) (hbase:base<=w.heap.size)
  (h:∀v' w',OwnV w' base v' (xs++[x])->(w.alloc (.cells #[.string x.d,.string x.i,x.hk,.int .i64 x.t,.int .i64 x.x,.int .i64 x.c] 47)).grownBy w' v.ownBlock->(∀w0,Below base w0 w->Below base w0 w')->(v'.ownBlock=v.ownBlock\/v'.ownBlock=some (w.heap.size+1))->wpList Tryz.prog ops Q rest (a.put o.dst v') w') :
  wpList Tryz.prog ops Q (o::rest) a (w.alloc (.cells #[.string x.d,.string x.i,x.hk,.int .i64 x.t,.int .i64 x.x,.int .i64 x.c] 47)):=by
 refine wpList_plain hgd fun K hK=>?_
 obtain⟨v',w',hr,h2,h3,h4,h5⟩:=run_appV (w.alloc (.cells #[.string x.d,.string x.i,x.hk,.int .i64 x.t,.int .i64 x.x,.int .i64 x.c] 47)) o.type base v xs (hown.below ((zB _ _).alloc (zR _) _)) ⟨w.heap.size,0,none⟩ 1 x
  (fun j u hu=>by rw[add_lit',Nat.zero_add];exact(cells_row w _ 47 j).trans (by simpa [vcells]using hu)) hlen (by simp;omega)
 unfold Oper.wp execOp;simp only[ho,resolve,invoke,builtin,Sem.run_bind,Sem.run_pure,Result.andThen_ok,List.map_toArray,List.map_cons,List.map_nil,hs,hx,hr];exact hK _ _ (h v' w' h2 h4 (fun w0 hb=>h3 w0 (hb.alloc hbase _)) (by simpa using h5))
end
theorem sigs_take{fs:List (List UInt8)}{k:Nat}{f:List UInt8}(hf:fs[k]?=some f):sigsOf (fs.take (k+1))=sigsOf (fs.take k)++(if isSig f=true then[f]else[]):=by
 unfold sigsOf;rw[List.take_add_one,hf,List.filter_append];congr 1
 show List.filter isSig [f]=_;rw[List.filter_cons];rfl
theorem sigs_more{fs:List (List UInt8)}{k:Nat}{f:List UInt8}(hf:fs[k]?=some f)(h:isSig f=true):∃t,sigsOf fs=sigsOf (fs.take k)++f::t:=by
 have e:fs=fs.take (k+1)++fs.drop (k+1):=(List.take_append_drop _ _).symm;refine⟨sigsOf (fs.drop (k+1)),?_⟩;have e2:sigsOf fs=sigsOf (fs.take (k+1))++sigsOf (fs.drop (k+1)):=by
  conv=>lhs;rw[e]
  unfold sigsOf;rw[List.filter_append]
 rw[e2,sigs_take hf,if_pos h,List.append_assoc];rfl
theorem first_all{most:Int}{l:List (List UInt8)}(h:most > 0->(l.length:Int)<=most):firstOf most l=l/\manyOf most l=false:=by
 unfold firstOf manyOf;by_cases hm:most > 0
 ·rw[if_pos hm]
  have:=h hm;exact⟨List.take_of_length_le (by omega),by rw[decide_eq_false (by omega:¬(l.length:Int) > most),Bool.and_false]⟩
 rw[if_neg hm];exact⟨rfl,by rw[decide_eq_false hm,Bool.false_and]⟩
theorem first_some{most:Int}{a b:List (List UInt8)}{f:List UInt8}(hm:most > 0)(h:(a.length:Int)=most):firstOf most (a++f::b)=a/\manyOf most (a++f::b)=true:=by
 unfold firstOf manyOf;rw[if_pos hm];refine⟨by rw[show most.toNat=a.length by omega,List.take_left],?_⟩;rw[decide_eq_true hm,decide_eq_true (by simp;omega)];rfl
def DvPost(w w':World)(e:Ending)(l:List UInt8)(recs:List Rec)(most now:Int):Prop:=match headOf l with
 |none=>e=.returned (.tuple #[.slice none 0 0,.bool false,.bool false])/\Below w.heap.size w w'
 |some p=>∃v,e=.returned (.tuple #[v,.bool true,.bool (manyOf most (sigsOf p.1))])/\RdVs w' v p.1 p.2 recs now (firstOf most (sigsOf p.1))/\Below w.heap.size w w'
theorem c16(l:List UInt8)(rv:Value)(recs:List Rec)(most now:Int)(w:World)(hl:l.length<=10000)(hr:RdR w rv recs)(hrl:∀r∈recs,allLe 100000000 r.tx)(hm:0<=most) :
  Calls Tryz.prog 16 #[.string (B l),rv,.int .i64 most,.int .i64 now] w fun e w'=>DvPost w w' e l recs most now:=by
 obtain⟨P,hP⟩:∃P,Hid (headOf l=P):=⟨_,rfl⟩;unfold DvPost;rw[hP.out];have HR:=zH hr;have HRL:=zH hrl;clear hr hrl;go_enter Tryz.func16,Tryz.ntmps16;cases P with
 |none =>
  go_wp2_with (go_at_call 25;refine(c25 (B l) _ (by rw[size_B];omega)).mono ?_;rintro e w1⟨v,rfl,ho,hb⟩;rw[L_B,hP.out];rw[show headB none=[]from rfl,Option.isSome_none])
  go_ret3
  exact⟨rfl,hb⟩
 |some p =>
  obtain⟨fs,body⟩:=p;obtain⟨hf1,hf2,hf3,_⟩:=headOf_facts hP.out;simp only at hf1 hf2 hf3;have HF:=zH (And.intro hf1 (And.intro (fun x hx=>by have:=hf2 x hx;omega:allLe 20000 fs) hf3));clear hf1 hf2 hf3;go_wp2_with (go_at_call 25;refine(c25 (B l) _ (by rw[size_B];omega)).mono ?_;rintro e w1⟨v,rfl,ho,hb⟩;rw[L_B,hP.out]at ho;rw[L_B,hP.out];rw[show headB (some (fs,body))=body from rfl,Option.isSome_some];rw[show headF (some (fs,body))=fs from rfl]at ho;obtain⟨A,c,rfl,hc,hA⟩:=ho.slice;rw[List.length_map]at hc hA;rw[List.length_map]);have hfn:fs.length<=10000:=by have:=HF.out.1;omega
  have HRS:Hid (RdS w1 (.slice A fs.length c) fs):=by
   have:=ho.rdS (by omega)
   rwa [List.length_map]at this
  have HA:=zH hA;have HB1:=zH hb;have hb1s:=hb.size;clear hA ho hb;go_loopg [14,15] fs.length (fun g v i w'=>∃k:Nat,∃xs:List VV,∃sg:List (List UInt8),Hid (k+g=fs.length)/\i=.int .i64 k/\Hid (sigsOf (fs.take k)=sg)/\Hid (most > 0->(sg.length:Int)<=most)/\Hid (sg.length<=k)/\Hid (OwnV w' w1.heap.size v xs)/\Hid (VsAt w' v fs body recs now sg xs)/\Hid (Below w1.heap.size w1 w'))
  case atStart=>exact⟨0,[],[],Nat.zero_add _,rfl,rfl,(fun _=>by simp;omega),zR _,OwnV.nil _ _,VsAt.nil _ _,zB _ _⟩
  obtain⟨k,xs,sg,hk,rfl,hsg,hmo,hsl,ho,hvs,hbk⟩:=hrel;have hk':k<=fs.length:=by have:=hk.out;omega
  by_cases hlt:k < fs.length
  ·obtain⟨g,rfl,_,hgl,hcell⟩:=HA.out (by omega)
   obtain⟨f,hf⟩:∃f:List UInt8,Hid (fs[k]?=some f):=⟨fs[k],zG hlt⟩;have hc0:=hcell k (strV f) (by rw[List.getElem?_map,hf.out];rfl);have hck:=(hbk.out.cell (p:=⟨g,k,none⟩) (cell_lt hc0)).trans hc0;have hf1:=HF.out.2.1 f (List.mem_of_getElem? hf.out);unfold strV at hck;clear hcell hc0;obtain⟨nm,hnm⟩:∃nm,Hid (lower (trim (cutA 58 f))=nm):=⟨_,rfl⟩;have hst:=sigs_take hf.out;have his:isSig f=(nm == dkimSigL):=by unfold isSig;rw[hnm.out]
   have hnl:(B (trim (cutA 58 f))).size<=140737488355328:=by rw[size_B];have:=trim_le (cutA 58 f);have:=cutA_le 58 f;omega
   have hbq:((B nm).toList == [100,107,105,109,45,115,105,103,110,97,116,117,114,101])=(nm == dkimSigL):=by rw[toList_B];rfl
   cases hb:(nm == dkimSigL)with
   |false =>
    rw[hb]at his hbq;rw[his,if_neg (by decide),List.append_nil,hsg.out]at hst;have hbn:(!((B nm).toList == [100,107,105,109,45,115,105,103,110,97,116,117,114,101]))=true:=by rw[hbq];rfl
    have HST:=zH hst;clear hst his hb;go_wp2_with (first
     |(go_at_call 26;refine(c26p f _ (by rw[size_B];omega)).mono ?_;rintro e w2⟨rfl,hb2⟩)
     |(go_at_call 24;refine(c24p (trim (cutA 58 f)) _ hnl).mono ?_;rintro e w3⟨rfl,hb3⟩;rw[hnm.out];replace hb3:=bthen hb2 hb3))
    go_roundg (gk - 1)
    case measure=>have:=hk.out;omega
    case rel=>exact⟨k+1,xs,sg,by have:=hk.out;unfold Hid;omega,by go_num,HST,hmo,Nat.le_succ_of_le hsl.out,ho.out.below hb3,hvs.out.below hb3,bthen hbk.out hb3⟩
   |true =>
    rw[hb]at his hbq;rw[his,if_pos rfl,hsg.out]at hst;have hmor:=sigs_more hf.out his;rw[hsg.out]at hmor;have hbn:(!((B nm).toList == [100,107,105,109,45,115,105,103,110,97,116,117,114,101]))=false:=by rw[hbq];rfl
    have HST:=zH hst;have HMOR:=zH hmor;clear hst his hb hmor;obtain⟨A2,c2,hv,hc2,_⟩:=ho.out.slice;subst hv;have hxl:Hid (xs.length=sg.length):=hvs.out.1;have hfk:k<=10000:=by omega
    have hsl2:=hsl.out;have hxs:Hid ((xs.length+1)*80<=140737488355328):=by have:=hxl.out;unfold Hid;omega
    by_cases hq:most > 0/\(sg.length:Int)=most
    ·have i1:(0:Int) < most:=hq.1
     have i2:most<=(xs.length:Int):=by have:=hxl.out;omega
     have HQ:=zH hq;clear hq;go_wp2_with (first
      |(go_at_call 26;refine(c26p f _ (by rw[size_B];omega)).mono ?_;rintro e w2⟨rfl,hb2⟩)
      |(go_at_call 24;refine(c24p (trim (cutA 58 f)) _ hnl).mono ?_;rintro e w3⟨rfl,hb3⟩;rw[hnm.out];replace hb3:=bthen hb2 hb3))
     go_ret3
     obtain⟨tl,htl⟩:=HMOR.out;have hfs:=first_some (b:=tl) (f:=f) HQ.out.1 HQ.out.2;rw[<-htl]at hfs;refine⟨.slice A2 xs.length c2,?_,?_,bthen HB1.out (bthen hbk.out hb3)⟩
     ·rw[hfs.2];rfl
     rw[hfs.1];exact(hvs.out.below hb3).rd (ho.out.below hb3)
    have hmo2:Hid (most > 0->((sg++[f]).length:Int)<=most):=fun h=>by have:=hmo.out h;simp;omega
    by_cases i1:(0:Int) < most
    ·have i2:¬most<=(xs.length:Int):=by have:=hmo.out i1;have:=hxl.out;omega
     clear hq;go_wp2_with (first
      |(go_at_call 26;refine(c26p f _ (by rw[size_B];omega)).mono ?_;rintro e w2⟨rfl,hb2⟩)
      |(go_at_call 24;refine(c24p (trim (cutA 58 f)) _ hnl).mono ?_;rintro e w3⟨rfl,hb3⟩;rw[hnm.out];replace hb3:=bthen hb2 hb3;have ho3:=ho.out.below hb3;have hv3:=hvs.out.below hb3;have hck3:=(hb3.cell (p:=⟨g,k,none⟩) (cell_lt hck)).trans hck;have hbk3:=bthen hbk.out hb3;have hZ:Hid (SZ w3 (.slice (some ⟨g,0,none⟩) fs.length c) rv fs recs body f):=⟨HRS.out.below hbk3,(HR.out.below HB1.out).below hbk3,by omega,HF.out.2.1,by have:=HF.out.2.2;omega,hf1,HRL.out⟩)
      |(go_at_call 45;refine(c45 w3 _ _ fs recs body f now hZ.out).mono ?_;rintro e w4⟨T,⟨d,i,hk0,ks,tn,xn,rfl,hks,hka,hj,hb4⟩,hT⟩;have hks':=hks;obtain⟨A3,c3,rfl,_⟩:=hks';have HT:=zH hT;have HJ:=zH hj;have HKA:=zH hka;clear hT hj hka)
      |(at_builtin;go_loud (refine wp_appV rfl (.tmp 46) (.tmp 56) rfl ⟨d,i,A3,ks.length,c3,tn,xn,judgeC fs body f recs now⟩ rfl rfl (ho3.below hb4) hxs.out (zT hbk3.size hb4.size) ?_;intro v5 w5 ho5 hg5 hb5 hl5)))
     have hbw4:=bthen hbk3 hb4;have hkn:KsAt w4 (.slice A2 xs.length c2) ⟨d,i,A3,ks.length,c3,tn,xn,judgeC fs body f recs now⟩ ks:=KsAt.new (base:=w3.heap.size) hks (fun a ha=>by simp only at ha;subst ha;exact HKA.out a _ _ rfl) (fun g' hg'=>((World.ownsRow.lt ho3 g' hg').2));have hvo:VOf fs body recs now f ⟨d,i,A3,ks.length,c3,tn,xn,judgeC fs body f recs now⟩ ks:=VOf.tags rfl HT.out HJ.out;have hva:=((hv3.below hb4).add hvo hkn).below ((zB _ _).alloc (zR _) (.cells #[.string d,.string i,.slice A3 ks.length c3,.int .i64 tn,.int .i64 xn,.int .i64 (judgeC fs body f recs now)] 47));have hv5:=hva.grown hg5 (by rcases hl5 with h|h;exact .inl h;exact .inr (h.trans (by simp)));go_roundg (gk - 1)
     case measure=>have:=hk.out;omega
     case rel=>exact⟨k+1,_,sg++[f],by have:=hk.out;unfold Hid;omega,by go_num,HST,hmo2.out,by have:=hsl.out;unfold Hid;simp;omega,ho5,hv5,hb5 _ hbw4⟩
    clear hq;go_wp2_with (first
     |(go_at_call 26;refine(c26p f _ (by rw[size_B];omega)).mono ?_;rintro e w2⟨rfl,hb2⟩)
     |(go_at_call 24;refine(c24p (trim (cutA 58 f)) _ hnl).mono ?_;rintro e w3⟨rfl,hb3⟩;rw[hnm.out];replace hb3:=bthen hb2 hb3;have ho3:=ho.out.below hb3;have hv3:=hvs.out.below hb3;have hck3:=(hb3.cell (p:=⟨g,k,none⟩) (cell_lt hck)).trans hck;have hbk3:=bthen hbk.out hb3;have hZ:Hid (SZ w3 (.slice (some ⟨g,0,none⟩) fs.length c) rv fs recs body f):=⟨HRS.out.below hbk3,(HR.out.below HB1.out).below hbk3,by omega,HF.out.2.1,by have:=HF.out.2.2;omega,hf1,HRL.out⟩)
     |(go_at_call 45;refine(c45 w3 _ _ fs recs body f now hZ.out).mono ?_;rintro e w4⟨T,⟨d,i,hk0,ks,tn,xn,rfl,hks,hka,hj,hb4⟩,hT⟩;have hks':=hks;obtain⟨A3,c3,rfl,_⟩:=hks';have HT:=zH hT;have HJ:=zH hj;have HKA:=zH hka;clear hT hj hka)
     |(at_builtin;go_loud (refine wp_appV rfl (.tmp 46) (.tmp 56) rfl ⟨d,i,A3,ks.length,c3,tn,xn,judgeC fs body f recs now⟩ rfl rfl (ho3.below hb4) hxs.out (zT hbk3.size hb4.size) ?_;intro v5 w5 ho5 hg5 hb5 hl5)))
    have hbw4:=bthen hbk3 hb4;have hkn:KsAt w4 (.slice A2 xs.length c2) ⟨d,i,A3,ks.length,c3,tn,xn,judgeC fs body f recs now⟩ ks:=KsAt.new (base:=w3.heap.size) hks (fun a ha=>by simp only at ha;subst ha;exact HKA.out a _ _ rfl) (fun g' hg'=>((World.ownsRow.lt ho3 g' hg').2));have hvo:VOf fs body recs now f ⟨d,i,A3,ks.length,c3,tn,xn,judgeC fs body f recs now⟩ ks:=VOf.tags rfl HT.out HJ.out;have hva:=((hv3.below hb4).add hvo hkn).below ((zB _ _).alloc (zR _) (.cells #[.string d,.string i,.slice A3 ks.length c3,.int .i64 tn,.int .i64 xn,.int .i64 (judgeC fs body f recs now)] 47));have hv5:=hva.grown hg5 (by rcases hl5 with h|h;exact .inl h;exact .inr (h.trans (by simp)));go_roundg (gk - 1)
    case measure=>have:=hk.out;omega
    case rel=>exact⟨k+1,_,sg++[f],by have:=hk.out;unfold Hid;omega,by go_num,HST,hmo2.out,by have:=hsl.out;unfold Hid;simp;omega,ho5,hv5,hb5 _ hbw4⟩
  obtain rfl:k=fs.length:=by omega
  rw[List.take_length]at hsg;have hfa:=first_all hmo.out;rw[<-hsg.out]at hfa;have HFA:=zH hfa;clear hfa;obtain⟨A9,c9,hv9,_⟩:=ho.out.slice;subst hv9;go_wp2
  go_ret3
  refine⟨.slice A9 xs.length c9,?_,?_,bthen HB1.out hbk.out⟩
  ·rw[HFA.out.2];rfl
  rw[HFA.out.1,hsg.out];exact hvs.out.rd ho.out
end Go.Proofs.YtnkihlpmmfeioaaGreatDoor
