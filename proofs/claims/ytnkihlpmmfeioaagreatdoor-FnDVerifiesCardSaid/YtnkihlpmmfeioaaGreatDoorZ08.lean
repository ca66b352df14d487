/- Part of the proof that laws.FnDVerifies answers true: A15,A36,K4 -/
import Derived.Deep.RegionHeld3
import Derived.Deep.AppendLies
import Derived.Maps.StringElems
import Derived.Maps.OwnOps
import Derived.Maps.Views
import Derived.Test.YtnkihlpmmfeioaaGreatDoorZ07
set_option linter.unusedVariables false
set_option linter.unusedSimpArgs false
set_option maxRecDepth 1000000
set_option maxHeartbeats 16000000
namespace Go.Proofs.YtnkihlpmmfeioaaGreatDoor
open Go.RowKit
theorem c55p(l:List UInt8)(c:Int)(w:World)(hs:(B l).size<=9223372036854775807) :
  Calls Tryz.prog 55 #[.string (B l),.int .u8 c] w fun e w'=>e=.returned (.tuple #[.string (B (cutA c l)),.string (B (cutZ c l)),.bool (cutF c l)])/\Below w.heap.size w w':=(c55 (B l) c w hs).mono fun _ _ ⟨he,hn⟩=>⟨he,below_of_drewN hn⟩
theorem c56p(l:List UInt8)(w:World)(hs:(B l).size<=9223372036854775807) :
  Calls Tryz.prog 56 #[.string (B l)] w fun e w'=>e=.returned (.string (B (trim l)))/\Below w.heap.size w w':=(c56 (B l) w hs).mono fun _ _ ⟨he,hn⟩=>⟨he,below_of_drewN hn⟩
theorem info101 : (Tryz.prog.info? 101).map (fun i=>(i.zero,i.size,i.bytes))=some (some (.agg #[.string ⟨#[]⟩,.string ⟨#[]⟩]),2,32):=by kernel_rfl
abbrev Pair := List UInt8 × List UInt8
def pcells(xs:List Pair):List Value:=xs.flatMap fun x=>[strV x.1,strV x.2]
theorem pcells_len(xs:List Pair):(pcells xs).length=xs.length*2:=by
 induction xs with
 |nil=>rfl
 |cons x l ih=>simp only[pcells,List.flatMap_cons,zA,List.length_cons,List.length_nil]at ih ⊢;omega
theorem pcells_app(xs ys:List Pair):pcells (xs++ys)=pcells xs++pcells ys:=by simp[pcells]
theorem pcells_at(xs:List Pair):∀(k:Nat) (x:Pair),xs[k]?=some x->(pcells xs)[k*2]?=some (strV x.1)/\(pcells xs)[k*2+1]?=some (strV x.2):=by
 induction xs with
 |nil=>intro k x h;simp at h
 |cons y l ih =>
  intro k x h;cases k with
  |zero=>simp at h;subst h;simp[pcells]
  |succ k =>
   have:=ih k x (by simpa using h);simp only[pcells,List.flatMap_cons]at this ⊢;rw[show(k+1)*2=(k*2)+1+1 by omega]
   simpa using this
theorem pcells_one(xs:List Pair):∀u∈pcells xs,u.oneCell'=true:=by
 intro u hu;obtain⟨x,_,hx⟩:=List.mem_flatMap.1 hu;simp[strV]at hx;rcases hx with rfl|rfl <;> rfl
def OwnP(w:World)(base:Nat)(v:Value)(xs:List Pair):Prop:=w.ownsRow base 101 2 v xs.length (pcells xs)
theorem OwnP.nil(w:World)(base:Nat):OwnP w base (.slice none 0 0) []:=⟨rfl,.inl ⟨rfl,rfl⟩⟩
theorem OwnP.below{w w':World}{base:Nat}{v:Value}{xs:List Pair}(h:OwnP w base v xs)(hb:Below w.heap.size w w'):OwnP w' base v xs :=
 h.kept (row:=none) ⟨hb.os,hb.tape,hb.output,hb.size,fun k hk _=>hb.block k hk⟩ (by cases v.ownBlock <;> simp)
theorem OwnP.alloc{w:World}{base:Nat}{v:Value}{xs:List Pair}(h:OwnP w base v xs)(o:Obj):OwnP (w.alloc o) base v xs:=World.ownsRow.alloc h o
theorem OwnP.mono{w:World}{base base':Nat}{v:Value}{xs:List Pair}(h:OwnP w base v xs)(hb:base'<=base):OwnP w base' v xs:=by
 obtain⟨h1,h2⟩:=h;rcases h2 with h2|⟨g,cap,cur,r1,r2,r3⟩
 ·exact⟨h1,.inl h2⟩
 exact⟨h1,.inr ⟨g,cap,cur,r1,zT hb r2,r3⟩⟩
theorem OwnP.slice{w:World}{base:Nat}{v:Value}{xs:List Pair}(h:OwnP w base v xs) :
  ∃A c,v=.slice A xs.length c/\xs.length<=c/\(0 < xs.length->∃g,A=some ⟨g,0,none⟩/\base<=g/\g < w.heap.size/\∀k x,xs[k]?=some x->w.cell? ⟨g,k*2,none⟩=some (strV x.1)/\w.cell? ⟨g,k*2+1,none⟩=some (strV x.2)):=by
 rcases h.2 with⟨rfl,h0⟩|⟨g,cap,cur,rfl,hg,hh,hn,_⟩
 ·exact⟨none,0,by rw[h0],by omega,fun hp=>absurd hp (by omega)⟩
 refine⟨_,cap,rfl,hn,fun _=>⟨g,rfl,hg,(Array.getElem?_eq_some_iff.1 hh).1,fun k x hx=>?_⟩⟩;obtain⟨h1,h2⟩:=pcells_at xs k x hx;have q1:=World.ownsRow.cells h (g:=g) rfl _ _ h1;have q2:=World.ownsRow.cells h (g:=g) rfl _ _ h2;have e:∀j,(⟨g,0,none⟩:Addr).add j=⟨g,j,none⟩:=fun j=>by unfold Addr.add;split <;> simp_all
 rw[e]at q1 q2;exact⟨q1,q2⟩
theorem OwnP.rdP{w:World}{base:Nat}{v:Value}{xs:List Pair}(h:OwnP w base v xs)(hl:xs.length<=1152921504606846976):RdP w v xs:=by
 obtain⟨A,c,rfl,hc,hg⟩:=h.slice;refine⟨A,c,rfl,hc,hl,fun hp=>?_⟩;obtain⟨g,rfl,_,_,hcl⟩:=hg hp;exact⟨g,0,rfl,fun i x hx=>by rw[Nat.zero_add];exact hcl i x hx⟩
def insAt(t:List UInt8)(xs:List Pair):Nat:=(xs.takeWhile (fun y=>Op.bytesLess y.1 t)).length
def insP(x:Pair)(xs:List Pair):Option (List Pair) :=
 if(xs[insAt x.1 xs]?).map Prod.fst=some x.1 then none else some (xs.take (insAt x.1 xs)++x::xs.drop (insAt x.1 xs))
def tagsM : List (List UInt8)->List Pair->Option (List Pair)
 |[],acc=>some acc
 |p::l,acc=>if cutF 61 p=true then(match insP (trim (cutA 61 p),trim (cutZ 61 p)) acc with|none=>none|some acc'=>tagsM l acc')
   else if trim p=[]then tagsM l acc else none
theorem insAt_le(t:List UInt8)(xs:List Pair):insAt t xs<=xs.length:=List.Sublist.length_le (List.takeWhile_sublist _)
theorem insAt_less(t:List UInt8):∀(xs:List Pair) (k:Nat) (x:Pair),xs[k]?=some x->k < insAt t xs->Op.bytesLess x.1 t=true:=by
 intro xs;induction xs with
 |nil=>intro k x h;simp at h
 |cons y l ih =>
  intro k x h hk;unfold insAt at hk ih;rw[List.takeWhile_cons]at hk;split at hk
  ·rename_i hy
   cases k with
   |zero=>simp at h;subst h;exact hy
   |succ k=>exact ih k x (by simpa using h) (by simpa using hk)
  simp at hk
theorem insAt_stop(t:List UInt8):∀(xs:List Pair) (x:Pair),xs[insAt t xs]?=some x->Op.bytesLess x.1 t=false:=by
 intro xs;induction xs with
 |nil=>intro x h;simp at h
 |cons y l ih =>
  intro x h;unfold insAt at h ih;rw[List.takeWhile_cons]at h;split at h
  ·exact ih x (by simpa using h)
  rename_i hy;simp at h;subst h
  simpa using hy
theorem split_len(c:Int)(l:List UInt8):(split c l).length<=l.length+1:=by
 induction l with
 |nil=>simp[split]
 |cons x l ih =>
  unfold split;split
  ·simp;omega
  split
  ·rename_i he;rw[he]at ih;simp at ih ⊢;omega
  simp
theorem split_allLe(c:Int)(l:List UInt8):∀x∈split c l,x.length<=l.length:=by
 induction l with
 |nil=>simp[split]
 |cons y l ih =>
  intro x hx;unfold split at hx;split at hx
  ·rcases List.mem_cons.1 hx with rfl|h
   ·simp
   have:=ih x h;simp;omega
  split at hx
  ·rename_i h t he
   rcases List.mem_cons.1 hx with rfl|h2
   ·have:=ih h (by rw[he];simp);simp;omega
   have:=ih x (by rw[he];simp[h2]);simp;omega
  rename_i he;exact absurd he (split_ne c l)
theorem below_al{a w:World}(h:Below a.heap.size a w)(o:Obj):Below a.heap.size a (w.alloc o):=h.alloc h.size _
theorem below_dr{a w:World}(h:Below a.heap.size a w):Below a.heap.size a w.drew:=⟨h.os,h.tape,h.output,h.size,h.block⟩
theorem run_appP(w:World)(ty base:Nat)(v:Value)(xs:List Pair)(hown:OwnP w base v xs)(A:Option Addr)(m c:Nat)(news:List Pair)(hl:news.length=m)
  (hnews:0 < m->∃ad,A=some ad/\∀j u,(pcells news)[j]?=some u->w.cell? (ad.add j)=some u)(hlen:(xs.length+m)*32<=140737488355328)(hbase:base<=w.heap.size) :
  ∃v' w',(Builtin.append_ #[57,57] ty #[v,.slice A m c]).run Tryz.prog w=.ok v' w'/\OwnP w' base v' (xs++news)/\(∀w0,Below base w0 w->Below base w0 w')/\w.grownBy w' v.ownBlock:=by
 by_cases hm:0 < m
 ·obtain⟨ad,rfl,hn⟩:=hnews hm
  obtain⟨i,hi,hz0,hz1,hz2⟩:=info_parts info101;obtain⟨v',w',h1,h2,h3,_,h5⟩:=run_append_own_at (P:=Tryz.prog) w base 57 ty 101 i _ 2 32 Tryz.underlying57 hi hz0 hz1 hz2 rfl (by decide) v xs.length (pcells xs) hown ad m c (pcells news) (by rw[pcells_len,hl]) hn (pcells_one _) (by simp only[maxLen];omega) hlen hbase;refine⟨v',w',h1,?_,fun w0 hb=>hb.grown h3 hbase fun k hk=>(World.ownsRow.lt hown k hk).1,h3⟩;unfold OwnP;rw[pcells_app,zA,hl];exact h2
 obtain rfl:m=0:=by omega
 obtain rfl:=List.length_eq_zero_iff.1 hl;obtain⟨A',c',rfl,hc,_⟩:=hown.slice;refine⟨_,w,?_,by simpa using hown,fun _ h=>h,⟨rfl,rfl,rfl,zR _,fun _ _ _=>rfl⟩⟩;obtain⟨i,hi,hz0,hz1,hz2⟩:=info_parts info101;have hu:=run_underlying Tryz.underlying57;have hfc:∀A,(Builtin.firstCells i.size 0 (.slice A 0 c)).run Tryz.prog w=.ok #[] w:=by
  intro A;cases A
  ·exact run_firstCells_none w _ _ _ _
  exact run_firstCells_some (P:=Tryz.prog) w i.size 0 _ 0 c [] (by simp) (by simp)
 have hle:xs.length<=c':=hc;cases A' <;> simp[Builtin.append_,hu,sizeOf,typeInfo,hi,Builtin.lenOf,hle,hfc,storeCells]
theorem step_appP{ops:Array Oper}{o:Oper}{a:Act}{K:Act->World->Prop}{Q:Exit->Act->World->Prop}{E:Prop}{w:World}{s x:Operand}{base:Nat}{v:Value}{xs:List Pair}{A:Option Addr}{m c:Nat}{news:List Pair}
  (hgd:o.guard=none)(ho:o.op=.call { callee:=.builtin .append,args:=#[s,x],argTypes:=#[57,57] })
  (hs:a.eval s=v) (hown:OwnP w base v xs) (hx:a.eval x=.slice A m c) (hl:news.length=m)
  (hnews:0 < m->∃ad,A=some ad/\∀j u,(pcells news)[j]?=some u->w.cell? (ad.add j)=some u) (hlen:(xs.length+m)*32<=140737488355328) (hbase:base<=w.heap.size)
  (h:∀v' w',OwnP w' base v' (xs++news)->(∀w0,Below base w0 w->Below base w0 w')->w.grownBy w' v.ownBlock->K (a.put o.dst v') w') :
  if Region.wanted o (yielded ops a.tmps)=true then Oper.wp Tryz.prog o a w K Q else E:=by
 have hw:Region.wanted o (yielded ops a.tmps)=true:=by simp[Region.wanted,hgd]
 rw[if_pos hw];obtain⟨v',w',hr,h2,h3,h4⟩:=run_appP w o.type base v xs hown A m c news hl hnews hlen hbase;unfold Oper.wp execOp;simp only[ho,resolve,invoke,builtin,Sem.run_bind,Sem.run_pure,Result.andThen_ok,List.map_toArray,List.map_cons,List.map_nil,hs,hx,hr];exact h v' w' h2 h3 h4
theorem insAt_more{t:List UInt8}{xs:List Pair}{k:Nat}{x:Pair}(hk:k<=insAt t xs)(hx:xs[k]?=some x)(hl:Op.bytesLess (B x.1).toList (B t).toList=true):k+1<=insAt t xs:=by
 rw[toList_B,toList_B]at hl;rcases Nat.lt_or_ge k (insAt t xs)with h|h
 ·exact h
 obtain rfl:k=insAt t xs:=by omega
 rw[insAt_stop t xs x hx]at hl;cases hl
theorem insAt_here{t:List UInt8}{xs:List Pair}{k:Nat}{x:Pair}(hk:k<=insAt t xs)(hx:xs[k]?=some x)(hl:Op.bytesLess (B x.1).toList (B t).toList=false):k=insAt t xs:=by
 rw[toList_B,toList_B]at hl;rcases Nat.lt_or_ge k (insAt t xs)with h|h
 ·rw[insAt_less t xs k x hx h]at hl;cases hl
 omega
theorem lit_nil'(w:World)(base b:Nat)(hb:base<=b)(h:w.heap[b]?=some (.cells #[] 101)):OwnP w base (.slice (some ⟨b,0,none⟩) 0 0) [] :=
 ⟨rfl,.inr ⟨b,0,#[],rfl,hb,h,by simp,by simp[maxLen],by simp,rfl⟩⟩
theorem OwnP.two{w:World}{base:Nat}{A:Option Addr}{n c:Nat}{xs:List Pair}(h:OwnP w base (.slice A n c) xs) :
  (A=none/\c=0/\xs=[])\/∃g,A=some ⟨g,0,none⟩/\base<=g/\g < w.heap.size/\∀j u,(pcells xs)[j]?=some u->w.cell? ⟨g,j,none⟩=some u:=by
 rcases h.2 with⟨he,h0⟩|⟨g,cap,cur,he,hg,hh,hn,_⟩
 ·injection he with h1 h2 h3
  exact .inl ⟨h1,h3,List.length_eq_zero_iff.1 h0⟩
 injection he with h1 h2 h3
 subst h1 h2 h3;refine .inr ⟨g,rfl,hg,(Array.getElem?_eq_some_iff.1 hh).1,fun j u hu=>?_⟩;have:=World.ownsRow.cells h (g:=g) rfl j u hu
 rwa [show(⟨g,0,none⟩:Addr).add j=⟨g,j,none⟩from by unfold Addr.add;split <;> simp_all]at this
theorem pcells_take(xs:List Pair)(k:Nat):pcells (xs.take k)=(pcells xs).take (k*2):=by
 induction xs generalizing k with
 |nil=>simp[pcells]
 |cons x l ih =>
  cases k with
  |zero=>simp[pcells]
  |succ k =>
   have:=ih k;simp only[pcells,List.take_succ_cons,List.flatMap_cons]at this ⊢;rw[this,show(k+1)*2=k*2+1+1 by omega];simp
theorem pcells_drop(xs:List Pair)(k:Nat):pcells (xs.drop k)=(pcells xs).drop (k*2):=by
 induction xs generalizing k with
 |nil=>simp[pcells]
 |cons x l ih =>
  cases k with
  |zero=>simp[pcells]
  |succ k =>
   have:=ih k;simp only[pcells,List.drop_succ_cons,List.flatMap_cons]at this ⊢;rw[this,show(k+1)*2=k*2+1+1 by omega];simp
theorem add_lit'(g o j:Nat):(⟨g,o,none⟩:Addr).add j=⟨g,o+j,none⟩:=by unfold Addr.add;split <;> simp_all
theorem hp_new(w:World)(o:Obj)(b:Nat)(hb:w.heap.size=b):(w.alloc o).heap[b]?=some o:=by subst hb;exact heap_alloc_new w o
theorem hp_old(w:World)(o x:Obj)(k:Nat)(h:w.heap[k]?=some x):(w.alloc o).heap[k]?=some x :=
 (((zB w.heap.size w).alloc (zR _) o).block k (Array.getElem?_eq_some_iff.1 h).1).trans h
theorem B58 : (⟨#[58]⟩:ByteArray)=B [58]:=rfl
theorem plain_cutA{c:Int}{l:List UInt8}(h:plainL l):plainL (cutA c l):=by
 induction l with
 |nil=>exact h
 |cons x l ih =>
  unfold cutA;split
  ·intro y hy;cases hy
  intro y hy;rcases List.mem_cons.1 hy with rfl|h2
  ·exact h _ (by simp)
  exact ih (fun z hz=>h z (by simp[hz])) y h2
theorem plain_cutZ{c:Int}{l:List UInt8}(h:plainL l):plainL (cutZ c l):=by
 induction l with
 |nil=>exact h
 |cons x l ih =>
  unfold cutZ;split
  ·exact fun z hz=>h z (by simp[hz])
  exact ih (fun z hz=>h z (by simp[hz]))
theorem c95p(l:List UInt8)(w:World)(hs:(B l).size<=1073741824)(hp:plainL l) :
  Calls Tryz.prog 95 #[.string (B l)] w fun e w'=>e=.returned (.string (B (trim l)))/\Below w.heap.size w w':=c95 (B l) w hs hp
theorem c98p(l:List UInt8)(w:World)(hs:(B l).size<=1073741824)(hp:plainL l) :
  Calls Tryz.prog 98 #[.string (B l)] w fun e w'=>e=.returned (.string (B (strip l)))/\Below w.heap.size w w':=c98 (B l) w hs hp
theorem c94'(s:ByteArray)(d:ByteArray)(c:UInt8)(hd:d=B [c])(w:World)(hs:s.size<=140737488355328) :
  Calls Tryz.prog 94 #[.string s,.string d] w fun e w'=>e=.returned (.tuple #[.string (B (cutA c.toNat s.data.toList)),.string (B (cutZ c.toNat s.data.toList)),.bool (cutF c.toNat s.data.toList)])/\Below w.heap.size w w':=by
 subst hd;exact(c94 s c w hs).mono fun _ _ ⟨he,hn⟩=>⟨he,below_of_drewN hn⟩
theorem c129'(s:ByteArray)(d:ByteArray)(c:UInt8)(hd:d=B [c])(w:World)(hs:s.size<=1073741824) :
  Calls Tryz.prog 129 #[.string s,.string d] w fun e w'=>∃v,e=.returned v/\Own w' w.heap.size 9 v ((split c.toNat s.data.toList).map strV)/\Below w.heap.size w w':=by
 subst hd;exact c129 s c w hs
theorem c62(s:ByteArray)(w:World)(hs:s.size<=1073741824)(hp:plainL s.data.toList) :
  Calls Tryz.prog 62 #[.string s] w fun e w'=>e=.returned (.tuple #[.string (B (trim (cutA 58 s.data.toList))),.string (B (trim (cutZ 58 s.data.toList)))])/\Below w.heap.size w w':=by
 have hA:=cutA_le 58 s.data.toList;have hZ:=cutZ_le 58 s.data.toList;rw[size_L]at hA hZ;have hA':(B (cutA 58 s.data.toList)).size<=1073741824:=by rw[size_B];omega
 have hZ':(B (cutZ 58 s.data.toList)).size<=1073741824:=by rw[size_B];omega
 have pA:=zH (plain_cutA (c:=58) hp);have pZ:=zH (plain_cutZ (c:=58) hp);clear hp;go_enter Tryz.func62,Tryz.ntmps62;go_wp2_with (first
  |(go_at_call 94;refine(c94' s _ 58 B58 _ (by omega)).mono ?_;rintro e w1⟨rfl,hb1⟩;rw[show(((58:UInt8).toNat:Nat):Int)=58 from rfl])
  |(go_at_call_of 95 (Value.string (B (cutA 58 s.data.toList)));refine(c95p _ _ hA' pA.out).mono ?_;rintro e w2⟨rfl,hb2⟩;have hb12:=bthen hb1 hb2)
  |(go_at_call_of 95 (Value.string (B (cutZ 58 s.data.toList)));refine(c95p _ _ hZ' pZ.out).mono ?_;rintro e w3⟨rfl,hb3⟩;have hb13:=bthen hb12 hb3))
 go_ret2
 exact⟨rfl,hb13⟩
theorem split_strip(l:List UInt8):split 58 (strip l)=(split 58 l).map strip:=by
 induction l with
 |nil=>rfl
 |cons x l ih =>
  have hne:=split_ne 58 l;by_cases hb:blank x=true
  ·have hx:¬(x.toNat:Int)=58:=fun h=>by
    rw[blank_iff]at hb;omega
   rw[strip_cons,if_pos hb,ih];simp only[split,if_neg hx];cases hs:split 58 l with
   |nil=>exact absurd hs hne
   |cons h t=>simp[strip_cons,if_pos hb]
  rw[strip_cons,if_neg hb];by_cases hx:(x.toNat:Int)=58
  ·simp only[split,if_pos hx,ih,List.map_cons];rfl
  simp only[split,if_neg hx,ih];cases hs:split 58 l with
  |nil=>exact absurd hs hne
  |cons h t=>simp[strip_cons,hb]
def part1(ps:List (List UInt8))(k:Nat):List (List UInt8):=(ps.take k).map strip++ps.drop k
theorem part1_at(ps:List (List UInt8))(k:Nat)(h:k < ps.length):(part1 ps k)[k]?=some ps[k]:=by
 unfold part1;rw[List.getElem?_append_right (by simp;omega),List.drop_eq_getElem_cons h];simp[Nat.min_eq_left (Nat.le_of_lt h)]
theorem part1_set(ps:List (List UInt8))(k:Nat)(h:k < ps.length):(part1 ps k).set k (strip ps[k])=part1 ps (k+1):=by
 have hl:((ps.take k).map strip).length=k:=by simp;omega
 unfold part1;rw[List.set_append_right _ _ (by omega),hl,Nat.sub_self,List.drop_eq_getElem_cons h,List.set_cons_zero,List.take_succ_eq_append_getElem h,List.map_append,List.append_assoc];rfl
theorem part1_len(ps:List (List UInt8))(k:Nat)(h:k<=ps.length):(part1 ps k).length=ps.length:=by
 unfold part1;simp;omega
theorem plain_split{l:List UInt8}(h:plainL l):∀p∈split 58 l,plainL p:=by
 have key:∀(n:Nat) (l:List UInt8),l.length<=n->plainL l->∀p∈split 58 l,plainL p:=by
  intro n;induction n with
  |zero=>intro l hn h p hp;obtain rfl:=List.eq_nil_of_length_eq_zero (Nat.le_zero.1 hn);simp[split]at hp;subst hp;exact h
  |succ n ih =>
   intro l hn h p hp;cases hf:cutF 58 l with
   |false=>rw[split_none _ _ hf]at hp;simp at hp;subst hp;exact plain_cutA h
   |true =>
    rw[split_found _ _ hf]at hp;have:=cutZ_lt _ _ hf;rcases List.mem_cons.1 hp with rfl|h2
    ·exact plain_cutA h
    exact ih _ (by omega) (plain_cutZ h) p h2
 exact key _ l (zR _) h
theorem c89(s:ByteArray)(w:World)(hs:s.size<=268435456)(hp:plainL s.data.toList) :
  Calls Tryz.prog 89 #[.string s] w fun e w'=>∃v,e=.returned v/\Own w' w.heap.size 9 v ((split 58 (strip s.data.toList)).map strV)/\Below w.heap.size w w':=by
 obtain⟨ps,hps⟩:∃ps,Hid (split 58 s.data.toList=ps):=⟨_,rfl⟩;have hpl:Hid (∀p∈ps,plainL p):=by unfold Hid;rw[<-hps.out];exact plain_split hp
 have hle:Hid (∀p∈ps,p.length<=268435456):=by
  unfold Hid;rw[<-hps.out];intro p hq;have:=split_allLe 58 s.data.toList p hq;rw[size_L]at this;omega
 have hlen:ps.length<=268435457:=by have:=split_len 58 s.data.toList;rw[hps.out,size_L]at this;omega
 have hE:Hid (split 58 (strip s.data.toList)=ps.map strip):=by unfold Hid;rw[split_strip,hps.out]
 rw[hE.out];clear hp hE;go_enter Tryz.func89,Tryz.ntmps89;go_upto_region 2 with(go_at_call 129;refine(c129' s _ 58 B58 _ (by omega)).mono ?_;rintro e w1⟨v,rfl,hO,hb1⟩;rw[show(((58:UInt8).toNat:Nat):Int)=58 from rfl,hps.out]at hO)
 obtain⟨A,c,rfl,hc,_⟩:=hO.slice;rw[List.length_map]at hc hO ⊢;have hO0:Hid (Own w1 w.heap.size 9 (.slice A ps.length c) ((part1 ps 0).map strV)):=hO;have hB0:=zH hb1;clear hO hb1;go_wp2;go_loopg [10] ps.length (fun g j w'=>∃k:Nat,Hid (k+g=ps.length)/\k<=ps.length/\j=.int .i64 (k:Int)/\Hid (Own w' w.heap.size 9 (.slice A ps.length c) ((part1 ps k).map strV))/\Hid (Below w.heap.size w w'))
 case atStart=>exact⟨0,Nat.zero_add _,Nat.zero_le _,rfl,hO0,hB0⟩
 clear hO0 hB0;obtain⟨k,hk,hks,rfl,hO,hb⟩:=hrel;by_cases hlt:k < ps.length
 ·obtain⟨g,rfl⟩:=hO.out.ptr (by rw[List.length_map,part1_len _ _ hks];omega)
  obtain⟨x,hx⟩:∃x,Hid (ps[k]=x):=⟨ps[k],zH rfl⟩;have hxm:=List.getElem_mem hlt;rw[hx.out]at hxm;have q0:=part1_at ps k hlt;rw[hx.out]at q0;have q1:=hO.out.cellAt rfl (j:=k) (u:=strV x) (by rw[List.getElem?_map,q0];rfl);have hxp:=zH (hpl.out x hxm);have hxl:(B x).size<=1073741824:=by have:=hle.out x hxm;rw[size_B];omega
  unfold strV at q1;have hset:Hid ((part1 ps k).set k (strip x)=part1 ps (k+1)):=by unfold Hid;rw[<-hx.out];exact part1_set ps k hlt
  have HK:=zH q1;clear q0 hxm;go_wp2_with (go_at_call 98;refine(c98p x _ hxl hxp.out).mono ?_;rintro e w2⟨rfl,hb2⟩;have hO2:=hO.out.below hb2;have hb3:=bthen hb.out hb2;obtain⟨hfr,hO3,hg3⟩:=hO2.storeAt k (.string (B (strip x)));have q2:=(hb2.cell (cell_lt HK.out)).trans HK.out);have hg0:=World.ownsRow.lt hO2 g rfl;have hO4:Hid (Own (w2.setCell ⟨g,k,none⟩ (.string (B (strip x)))) w.heap.size 9 (.slice (some ⟨g,0,none⟩) ps.length c) ((part1 ps (k+1)).map strV)):=by
   unfold Hid;rw[<-hset.out,List.map_set];exact hO3
  go_roundg (gk - 1)
  case measure=>have:=hk.out;omega
  case rel=>exact⟨k+1,by have:=hk.out;unfold Hid;omega,by omega,by go_num,hO4,hb3.grown hg3 hb3.size (fun j hj=>by injection hj with hj;omega)⟩
 obtain rfl:k=ps.length:=by omega
 have hE:Hid ((part1 ps ps.length)=ps.map strip):=by unfold Hid part1;simp
 go_wp2;go_ret
 exact⟨_,rfl,by rw[<-hE.out];exact hO.out,hb.out⟩
open Go.Maps
theorem law9 : Keyed Tryz.prog 9:=string_keyed Tryz.underlying9
theorem zero9(w:World):(zeroValue 9).run Tryz.prog w=.ok (.string ⟨#[]⟩) w:=by kernel_rfl
def OwnM(w:World)(b n:Nat)(D:List (List UInt8 × List UInt8)):Prop :=
 ∃M:DataW Unit,w.ownsMap Tryz.prog 9 (plainElem Tryz.prog 9) b n M/\IsMap M/\∀t:List UInt8,Maps.has M (.string t)=hasTag t D/\M.atKey (.string t) (.lit (.string []))=.lit (.string (valOf t D))
theorem OwnM.made(w:World):OwnM (w.alloc (.map #[] 0)) w.heap.size 0 [] :=
 ⟨.map [],World.ownsMap_made w _ _ _,⟨_,rfl⟩,fun t=>⟨rfl,rfl⟩⟩
theorem OwnM.grown{w w':World}{b n:Nat}{D:List (List UInt8 × List UInt8)}{row:Option Nat}(h:OwnM w b n D)(hg:w.grownBy w' row)(hne:some b≠row):OwnM w' b n D:=by
 obtain⟨M,h1,h2,h3⟩:=h;exact⟨M,h1.kept hg hne,h2,h3⟩
theorem OwnM.below{w w':World}{b n:Nat}{D:List (List UInt8 × List UInt8)}(h:OwnM w b n D)(hb:Below w.heap.size w w'):OwnM w' b n D:=h.grown (grown_of_below hb) (by simp)
theorem OwnM.lt{w:World}{b n:Nat}{D:List (List UInt8 × List UInt8)}(h:OwnM w b n D):b < w.heap.size:=by obtain⟨M,h1,_⟩:=h;exact h1.lt
theorem keyS(t:ByteArray)(ht:t.size<=maxLen):Go.keyOf Tryz.prog 9 (.string t)=some (.string t.data.toList):=WideMaps.keyOf_string_mk Tryz.underlying9 ht
theorem OwnM.look{w:World}{b n:Nat}{D:List (List UInt8 × List UInt8)}(h:OwnM w b n D)(t:ByteArray)(ht:t.size<=maxLen) :
  (Instr.lookup 155 (.map (some b)) (.string t) false).run Tryz.prog w=.ok (.string (B (valOf t.data.toList D))) w:=by
 obtain⟨M,h1,h2,h3⟩:=h;obtain⟨v,ps,hr,hv⟩:=h1.lookup law9 Tryz.underlying155 (zero9 w) (plainElem_string Tryz.underlying9 (by simp[maxLen,ByteArray.size])) (keyS t ht);obtain⟨s,rfl,hz,_⟩:=plainElem_string_inv Tryz.underlying9 hv;rw[hr];have h4:=(h3 t.data.toList).2;injection hz with hz1 _
 rw[show(.lit (.string (⟨#[]⟩:ByteArray).data.toList):DataW Unit)=.lit (.string [])from rfl,h4]at hz1;injection hz1 with hz1
 injection hz1 with hz1
 rw[hz1,B_L]
theorem OwnM.look_ok{w:World}{b n:Nat}{D:List (List UInt8 × List UInt8)}(h:OwnM w b n D)(t:ByteArray)(ht:t.size<=maxLen) :
  (Instr.lookup 155 (.map (some b)) (.string t) true).run Tryz.prog w=.ok (.tuple #[.string (B (valOf t.data.toList D)),.bool (hasTag t.data.toList D)]) w:=by
 obtain⟨M,h1,h2,h3⟩:=h;obtain⟨v,ps,hr,hv⟩:=h1.look_ok law9 Tryz.underlying155 (zero9 w) (plainElem_string Tryz.underlying9 (by simp[maxLen,ByteArray.size])) (keyS t ht);obtain⟨s,rfl,hz,_⟩:=plainElem_string_inv Tryz.underlying9 hv;rw[hr];have h4:=(h3 t.data.toList).2;injection hz with hz1 _
 rw[show(.lit (.string (⟨#[]⟩:ByteArray).data.toList):DataW Unit)=.lit (.string [])from rfl,h4]at hz1;injection hz1 with hz1
 injection hz1 with hz1
 rw[hz1,B_L,(h3 t.data.toList).1]
theorem OwnM.put{w:World}{b n:Nat}{D:List (List UInt8 × List UInt8)}(h:OwnM w b n D)(hn:n < maxLen)(k v:ByteArray)(hk:k.size<=maxLen)(hv:v.size<=maxLen) :
  ∃w',(Instr.mapUpdate 155 (.map (some b)) (.string k) (.string v)).run Tryz.prog w=.ok () w'/\OwnM w' b (n+1) ((k.data.toList,v.data.toList)::D)/\w.grownBy w' (some b):=by
 obtain⟨M,h1,h2,h3⟩:=h;obtain⟨w',hr,h4,h5⟩:=h1.update law9 Tryz.underlying155 hn (keyS k hk) (plainElem_string Tryz.underlying9 hv);refine⟨w',hr,⟨_,h4,h2.put _ _,fun t=>?_⟩,h5⟩;have hkl:WideAt.IsKeyLit (.string k.data.toList):=by trivial
 by_cases he:k.data.toList=t
 ·subst he
  rw[has_put_same h2 hkl,atKey_put_same h2 hkl];simp[hasTag,valOf]
 have hne:(Lit.string t)≠Lit.string k.data.toList:=fun q=>he (by injection q with q;exact q.symm)
 rw[has_put_other hne,atKey_put_other hne];simp[hasTag,valOf,he,h3 t]
end Go.Proofs.YtnkihlpmmfeioaaGreatDoor
