/- Part of the proof that laws.FnDVerifies answers true: A84,K7,A65,A66,P7 -/
import Derived.Laws.IdiomCopy
import Derived.Test.YtnkihlpmmfeioaaGreatDoorZ23
set_option linter.unusedVariables false
set_option linter.unusedSimpArgs false
set_option maxRecDepth 1000000
set_option maxHeartbeats 16000000
namespace Go.Proofs.YtnkihlpmmfeioaaGreatDoor
open Go.RowKit
theorem body64_41(ct:Code)(h:ct=tlS B64 44):tlS B64 41=joinS 3 (tlS B64 41) ct:=by subst h;kernel_rfl
theorem v8(F:Nat->Value)(ct:Code)(hct:ct=tlS B64 41)(R:Ending->World->Prop)(wo w:World)(ty g gq b3 cH cK:Nat)(form:List UInt8)(AH AK:Option Addr)(hp kv sv bv:Value)(l0 L kb sg field:List UInt8)(kd:ByteArray)(fields keys:List (List UInt8))(h0:F 0=.slice AH fields.length cH)(h2:F 2=.string (B field))(h21:F 21=.slice AK keys.length cK)(h36:F 36=.pointer (some ⟨gq,0,none⟩))(h51:F 51=.iface ty hp)(h56:F 56=sv)(h57:F 57=.pointer (some ⟨g,0,none⟩))
  (hform:CanTy ty form)(hd:DigAt w g bv l0)(hbw:Below g wo w)(hrow:Hid (RdS wo (.slice AH fields.length cH) fields))(hAH:Hid (∀a,AH=some a->a.block < g))
  (hkeys:Hid (RdS wo (.slice AK keys.length cK) keys))(hAK:Hid (∀a,AK=some a->a.block < g))
  (hL:Hid ((pickedN fields [] keys).flatMap (fldW form)=L))(hkn:keys.length<=100000000)(hfn:fields.length<=1073741824)
  (hfl1:Hid (allLe 268435456 fields))(hfp1:Hid (∀f∈fields,plainL f))(hkl1:Hid (allLe 268435456 keys))(hkp:Hid (∀k∈keys,plainL k))
  (hres:Hid (wo.cell? ⟨gq,0,none⟩=some (.iface 82 (.agg #[.string kd,kv]))))(hgq:gq < g)(hkv:Hid (∀W,Below g wo W->RdB W kv kb))(hsv:Hid (∀W,Below g wo W->OwnB W b3 sv sg))(hKR:Hid (KRow wo))(h6:6 < g)
  (hfp:Hid (plainL field))(hfl:field.length<=268435456)(hem:Hid (plainL (emptied field)/\(emptied field).length<=268435456))(hfo:Hid ((fieldOf form (emptied field)).length<=1073741824))
  (hLl:Hid (L.length+(without (fieldOf form (emptied field))).length<=1073741824))(hkl:kb.length<=536870912)(hsha:Hid (∀l,(sha l).length<=536870912))
  (hR:∀(err:Value) (w':World),ErrIs err (if sg=sha (kb++sha (L++without (fieldOf form (emptied field))))then 0 else 1)->Below g wo w'->R (.returned (.tuple #[F 12,err])) w') :
  Code.wp Tryz.prog ct (bodyPost Tryz.prog Tryz.f64 R) ⟨frS 506 F,[]⟩ w:=by
 obtain⟨ct2,hct2⟩:∃ct2,Hid (ct2=tlS B64 44):=⟨_,rfl⟩;subst hct;rw[body64_41 ct2 hct2.out];conv=>arg 2;whnf
 simp only[joinS];rw[fr506,h0,h2,h21,h36,h51,h56,h57];clear h0 h2 h21 h36 h51 h56 h57;have HR:=zH hR;have HD:=zH hd;have HB:=zH hbw;have HFO:=zH hform;clear hR hd hbw hform;go_wp2_with (first
  |(go_at_call 109;refine(c109 g bv l0 _ HD.out).mono ?_;rintro e w1⟨rfl,hd1,hg1⟩;have HD1:=zH hd1;have hB1:Below g wo w1:=HB.out.trans ((Gr.of_grown hg1).below (Nat.le_of_lt HD.out.lt) (fun k hk q=>by injection q with q;omega));have HB1:=zH hB1;clear hd1 hB1 hg1)
  |(go_at_call 110;refine(c110 AH fields.length cH _).mono ?_;rintro e w2⟨gp,mb,rfl,hp2,hgp,hmb,hb2⟩;have HP2:=zH hp2;have HG:=zH (And.intro hgp hmb);have HB2:=zH hb2;clear hp2 hgp hmb hb2))
 have hP0:Hid (PS wo w2 g gp mb (.slice AH fields.length cH) fields [] []):=by
  have hlt:=HD1.out.lt;have hB2:Below g wo w2:=HB1.out.trans (HB2.out.mono (Nat.le_of_lt hlt));have hne:=HP2.out.2.ne HP2.out.1;have hg:=HG.out;refine⟨⟨_,HD1.out.gr (S:=fun _=>False) (Gr.of_below HB2.out) (fun q=>q) (fun _ _ q=>q),fun q hq=>by simp[Value.ownBlock]at hq⟩,⟨_,HP2.out,PickM.zero fields⟩,hrow.out.belowA hB2 (fun a n c he=>by injection he with he;exact hAH.out a he),(fun a n c he=>by injection he with he;exact hAH.out a he),hB2,⟨by omega,by omega,hne,HP2.out.1.lt,HP2.out.2.lt⟩⟩
 refine useF 506 _ (by kernel_rfl) ?_;refine l64p _ _ _ (by kernel_rfl) wo _ ty g gp mb cK AK hp (.slice AH fields.length cH) form L [] fields keys HFO.out rfl rfl rfl rfl rfl rfl hP0 hkeys.out hAK.out (by unfold Hid;rw[List.nil_append];exact hL.out) (by have:=hLl.out;omega) hkn hfn hfl1.out hfp1.out hkl1.out hkp.out ?_;intro G w3 k2 k12 k36 k51 k56 k57 hP3;have e12:G 12=F 12:=k12;rw[fr506];go_wp2;refine useF 506 _ (by kernel_rfl) ?_;exact v8b _ ct2 hct2.out R wo w3 ty g gp mb gq b3 form hp _ kv sv L kb sg field kd fields keys k2 k36 k51 k56 k57 HFO.out hP3 hres hgq hkv hsv hKR h6 hfp hfl hem hfo.out hLl.out hkl hsha (fun err w' he hb=>by show R (.returned (.tuple #[G 12,err])) w';rw[e12];exact HR.out err w' he hb)
theorem run_copyT(w:World)(ty:TypeId)(g o n c:Nat)(t:ByteArray)(hc:∀j,j < n->(w.cell? ⟨g,o+j,none⟩).isSome=true)(hf:∀j,j < n->w.frozen? ⟨g,o+j,none⟩=false) :
  (Builtin.copy_ #[33,9] ty #[.slice (some ⟨g,o,none⟩) n c,.string t]).run Tryz.prog w=.ok (goInt (t.data.toList.take n).length) (w.setCells g o (byteVs (t.data.toList.take n))):=by
 obtain⟨i,hi,hz,hi1,hi2⟩:=info5';have hl:(byteVs (t.data.toList.take n)).length=min n t.size:=by rw[byteVs_len,List.length_take,size_L]
 have hst:=run_storeCells_cells (P:=Tryz.prog) g o (byteVs (t.data.toList.take n)) 0 w (fun j hj=>hc j (by omega)) (fun j hj=>hf j (by omega)) (byteVs_one _);have hex:List.take (min t.size n) (List.map (fun b=>Value.int .u8 (b.toNat:Int)) t.data.toList)=byteVs (t.data.toList.take n):=by
  rw[<-List.map_take,show(min t.size n)=min n t.data.toList.length from by rw[size_L,Nat.min_comm],<-List.take_eq_take_min];rfl
 rw[show o+0=o from rfl]at hst;have hmin:Nat.min t.size n=min t.size n:=rfl;simp[Builtin.copy_,run_underlying Tryz.underlying33,Builtin.lenOf,Builtin.firstCells,sizeOf,typeInfo,hi,hi1];rw[hmin];rw[hex,hst];simp[Result.andThen,Nat.min_comm]
section
variable {ops:Array Oper}{rest:List Oper}{o:Oper}{a:Act}{Q:Exit->Act->World->Prop}
theorem wp_copyT{w:World}(hgd:o.guard=none)(d s:Operand)(ho:o.op=.call { callee:=.builtin .copy,args:=#[d,s],argTypes:=#[33,9] })(g off n c:Nat)(t:ByteArray)
  (hd:a.eval d=.slice (some ⟨g,off,none⟩) n c) (hs:a.eval s=.string t) (X:List UInt8) (k:Nat) (hX:t.data.toList.take n=X) (hk:X.length=k) (hc:∀j,j < n->(w.cell? ⟨g,off+j,none⟩).isSome=true) (hf:∀j,j < n->w.frozen? ⟨g,off+j,none⟩=false)
  (h:wpList Tryz.prog ops Q rest (a.put o.dst (.int .i64 (k:Int))) (w.setCells g off (byteVs X))):wpList Tryz.prog ops Q (o::rest) a w:=by
 subst hk hX;refine wpList_plain hgd fun K hK=>?_
 have hr:=run_copyT w o.type g off n c t hc hf;unfold Oper.wp execOp;simp only[ho,resolve,invoke,builtin,Sem.run_bind,Sem.run_pure,Result.andThen_ok,List.map_toArray,List.map_cons,List.map_nil,hd,hs,hr];exact hK _ _ h
theorem wp_copyB{w:World}(hgd:o.guard=none)(d s:Operand)(ho:o.op=.call { callee:=.builtin .copy,args:=#[d,s],argTypes:=#[33,33] })(g off n c:Nat)(x:Value)(l:List UInt8)
  (hd:a.eval d=.slice (some ⟨g,off,none⟩) n c) (hs:a.eval s=x) (hx:RdB w x l) (X:List UInt8) (k:Nat) (hX:l.take n=X) (hk:X.length=k) (hc:∀j,j < n->(w.cell? ⟨g,off+j,none⟩).isSome=true) (hf:∀j,j < n->w.frozen? ⟨g,off+j,none⟩=false)
  (h:wpList Tryz.prog ops Q rest (a.put o.dst (.int .i64 (k:Int))) (w.setCells g off (byteVs X))):wpList Tryz.prog ops Q (o::rest) a w:=by
 subst hk hX;obtain⟨i,hi,hz,hi1,hi2⟩:=info5';have hsz:(Tryz.prog.info? 5).map (·.size)=some 1:=by rw[hi];simp[hi1]
 refine wpList_plain hgd fun K hK=>?_
 obtain⟨A,cc,rfl,hcc,hA⟩:=hx;have hlen:(byteVs (l.take n)).length=Nat.min l.length n:=by rw[byteVs_len,List.length_take];exact Nat.min_comm _ _
 by_cases h0:Nat.min l.length n=0
 ·have hr:=run_copy_none (P:=Tryz.prog) w 33 33 o.type 5 (some ⟨g,off,none⟩) A n c l.length cc Tryz.underlying33 hsz h0
  have hz:l.take n=[]:=List.eq_nil_of_length_eq_zero (by rw[List.length_take];rw[Nat.min_comm];exact h0);rw[hz]at h;unfold Oper.wp execOp;simp only[ho,resolve,invoke,builtin,Sem.run_bind,Sem.run_pure,Result.andThen_ok,List.map_toArray,List.map_cons,List.map_nil,hd,hs,hr];exact hK _ _ h
 have hp:0 < l.length:=by have:Nat.min l.length n<=l.length:=Nat.min_le_left _ _;omega
 obtain⟨g2,o2,rfl,hcl⟩:=hA hp;have hr:=run_copy_cells (P:=Tryz.prog) w 33 33 o.type 5 g off n c ⟨g2,o2,none⟩ l.length cc (byteVs (l.take n)) Tryz.underlying33 hsz hlen (fun j v hv=>by
  rw[show(⟨g2,o2,none⟩:Addr).add j=⟨g2,o2+j,none⟩from by unfold Addr.add;split <;> simp_all];unfold byteVs at hv;rw[List.getElem?_map]at hv;obtain⟨y,hy,rfl⟩:=Option.map_eq_some_iff.1 hv;exact hcl j y (by rw[List.getElem?_take]at hy;split at hy;exact hy;cases hy)) (fun j hj=>hc j (by have:Nat.min l.length n<=n:=Nat.min_le_right _ _;omega)) (fun j hj=>hf j (by have:Nat.min l.length n<=n:=Nat.min_le_right _ _;omega)) (byteVs_one _)
 rw[byteVs_len]at hr;unfold Oper.wp execOp;simp only[ho,resolve,invoke,builtin,Sem.run_bind,Sem.run_pure,Result.andThen_ok,List.map_toArray,List.map_cons,List.map_nil,hd,hs,hr];exact hK _ _ h
end
theorem cell_setNe(w:World){g k:Nat}{u:Value}{a:Addr}(h:a.block≠g):(w.setCell ⟨g,k,none⟩ u).cell? a=w.cell? a:=World.cell?_setCell_other _ _ _ _ (fun e=>h (by rw[<-e]))
theorem heap_setCell_congr{w W:World}{g k:Nat}{u:Value}(h:W.heap[g]?=w.heap[g]?):(W.setCell ⟨g,k,none⟩ u).heap[g]?=(w.setCell ⟨g,k,none⟩ u).heap[g]?:=by
 simp[World.setCell,Array.getElem?_modify,h]
theorem heap_setCells_congr{g:Nat}:∀(vs:List Value) (o:Nat) (w W:World),W.heap[g]?=w.heap[g]?->(W.setCells g o vs).heap[g]?=(w.setCells g o vs).heap[g]?
 |[],_,_,_,h=>h
 |v::r,o,w,W,h=>heap_setCells_congr r (o+1) _ _ (heap_setCell_congr h)
def sAd(g o lo c:Nat):Option Addr:=some ⟨g,if c=lo then o else o+lo,none⟩
theorem slRun(g o n c lo hi:Nat)(h1:lo<=hi)(h2:hi<=c)(W:World):(Instr.slice 33 (.slice (some ⟨g,o,none⟩) n c) (some (.int .i64 (lo:Int))) (some (.int .i64 (hi:Int))) none).run Tryz.prog W=.ok (.slice (sAd g o lo c) (hi - lo) (c - lo)) W:=by
 obtain⟨i,hi',hz0,hz1,hz2⟩:=info_parts info5;rw[run_slice_lh (P:=Tryz.prog) W 33 (some ⟨g,o,none⟩) n c Tryz.underlying33 .i64 .i64 (lo:Int) (hi:Int) (by omega) (by omega) (by omega),show Tryz.prog.elem 33=5 from by kernel_rfl];have:(⟨g,o,none⟩:Addr).add lo=⟨g,o+lo,none⟩:=by unfold Addr.add;split <;> simp_all
 simp[sizeOf,typeInfo,hi',hz1,Result.andThen,sliced,this,sAd];split <;> rfl
theorem RdB.sAd{w:World}{g o c lo hi:Nat}{T:List UInt8}(hc:∀(i:Nat) (x:UInt8),T[i]?=some x->w.cell? ⟨g,o+i,none⟩=some (byteV x))(h1:lo<=hi)(h2:hi<=T.length)(h3:T.length<=c) :
  RdB w (.slice (sAd g o lo c) (hi - lo) (c - lo)) ((T.take hi).drop lo):=by
 have hl:((T.take hi).drop lo).length=hi - lo:=by rw[List.length_drop,List.length_take];omega
 refine⟨_,_,by rw[hl],by rw[hl];omega,fun hp=>⟨g,o+lo,?_,fun i x hx=>?_⟩⟩
 ·rw[hl]at hp
  unfold Go.Proofs.YtnkihlpmmfeioaaGreatDoor.sAd;rw[if_neg (by omega)]
 rw[List.getElem?_drop,List.getElem?_take]at hx;split at hx
 ·rw[Nat.add_assoc];exact hc _ x hx
 cases hx
theorem indexByte_idx(l:List UInt8)(c:UInt8):Lib.indexByte l c=idx (c.toNat:Int) l:=by
 induction l with
 |nil=>rfl
 |cons x l ih =>
  rw[Lib.indexByte,ih];by_cases h:x=c
  ·subst h
   rw[if_pos (by simp),idx_yes (by rw[cutF,if_pos rfl]),cutA,if_pos rfl];rfl
  have hx:¬(x.toNat:Int)=(c.toNat:Int):=fun q=>h (UInt8.toNat_inj.1 (by omega))
  rw[if_neg (by simpa using h)];cases hf:cutF (c.toNat:Int) l with
  |true =>
   rw[idx_yes hf,idx_yes (by rw[cutF,if_neg hx,hf]),cutA,if_neg hx,if_neg (by rw[beq_iff_eq];omega)];simp
  |false=>rw[idx_no hf,idx_no (by rw[cutF,if_neg hx,hf])];rfl
theorem c156(a0:Addr)(n0 c0:Nat)(l:List UInt8)(w:World)(h:RdB w (.slice (some a0) n0 c0) l):Calls Tryz.prog 156 #[.slice (some a0) n0 c0,.int .u8 10] w fun e w'=>e=.returned (.int .i64 (idx 10 l))/\w'=w:=by
 obtain⟨A,c,he,hc,hA⟩:=h;injection he with e1 e2 e3
 subst e1 e2 e3;have hb:Lib.bytesOf (l.map fun x=>(x.toNat:Int))=l:=by
  unfold Lib.bytesOf;rw[List.map_map];exact(List.map_congr_left (g:=id) (fun x _=>by simp)).trans (List.map_id l)
 have key:∀a:Addr,(∀i,i < l.length->w.cell? (a.add i)=some (.int .u8 ((l.map fun x=>(x.toNat:Int)).getD i 0)))->Calls Tryz.prog 156 #[.slice (some a) l.length c0,.int .u8 10] w fun e w'=>e=.returned (.int .i64 (idx 10 l))/\w'=w:=by
  intro a ha;have:=Tryz.bytes_IndexByte_at a l.length c0 (l.map fun x=>(x.toNat:Int)) 10 w (by simp) ha;rw[hb,indexByte_idx]at this;exact this
 by_cases hp:0 < l.length
 ·obtain⟨g,off,he,hcl⟩:=hA hp
  injection he with he;subst he
  refine key _ fun i hi=>?_
  rw[show(⟨g,off,none⟩:Addr).add i=⟨g,off+i,none⟩from by unfold Addr.add;split <;> simp_all,hcl i l[i] (zG hi)];simp[byteV,List.getD_eq_getElem?_getD,zG hi]
 exact key _ fun i hi=>absurd hi (by omega)
def errTop(pE pF:Addr):Nat:=max 3 (max pE.block pF.block)
structure Errs(w:World)(pE pF:Addr):Prop where
 eof:w.cell? ⟨2,0,none⟩=some (.iface 235 (.pointer (some pE)))
 full:w.cell? ⟨3,0,none⟩=some (.iface 235 (.pointer (some pF)))
 ne:pE≠pF
 rE:∃cs t,Blk w pE.block cs t
 rF:∃cs t,Blk w pF.block cs t
theorem Errs.gr{S:Nat->Prop}{w w':World}{pE pF:Addr}(h:Errs w pE pF)(hG:Gr S w w')(hS:∀k,k<=errTop pE pF->¬S k):Errs w' pE pF:=by
 obtain⟨c1,t1,h1⟩:=h.rE;obtain⟨c2,t2,h2⟩:=h.rF;have a:3<=errTop pE pF:=Nat.le_max_left _ _;have b:pE.block<=errTop pE pF:=zT (Nat.le_max_left _ _) (Nat.le_max_right _ _);have c:pF.block<=errTop pE pF:=zT (Nat.le_max_right _ _) (Nat.le_max_right _ _);exact⟨(World.cell?_of_block (a:=⟨2,0,none⟩) (hG.block 2 (cell_lt h.eof) (hS 2 (by omega)))).trans h.eof,(World.cell?_of_block (a:=⟨3,0,none⟩) (hG.block 3 (cell_lt h.full) (hS 3 a))).trans h.full,h.ne,
  ⟨c1,t1,(hG.block _ h1.lt (hS _ b)).trans h1⟩,⟨c2,t2,(hG.block _ h2.lt (hS _ c)).trans h2⟩⟩
def eofV(pE:Addr):Value:=.iface 235 (.pointer (some pE))
def StrR(w:World)(gs i:Nat)(S:List UInt8):Prop:=i<=S.length/\∃pr:Int,Blk w gs #[.string (B S),.int .i64 (i:Int),.int .i64 pr] 124
theorem StrR.gr{Z:Nat->Prop}{w w':World}{gs i:Nat}{S:List UInt8}(h:StrR w gs i S)(hG:Gr Z w w')(hz:¬Z gs):StrR w' gs i S:=by
 obtain⟨h1,pr,h2⟩:=h;exact⟨h1,pr,(hG.block gs h2.lt hz).trans h2⟩
theorem StrR.lt{w:World}{gs i:Nat}{S:List UInt8}(h:StrR w gs i S):gs < w.heap.size:=by obtain⟨_,_,h⟩:=h;exact h.lt
structure BufAt(w:World)(gb gd gs r wr i:Nat)(err:Value)(T S:List UInt8):Prop where
 blk:∃lb ls:Int,Blk w gb #[.slice (some ⟨gd,0,none⟩) 4096 4096,.iface 71 (.pointer (some ⟨gs,0,none⟩)),.int .i64 (r:Int),.int .i64 (wr:Int),err,.int .i64 lb,.int .i64 ls] 231
 buf:Blk w gd (byteVs T).toArray 5
 len:T.length=4096
 rd:StrR w gs i S
 le:r<=wr
 wle:wr<=4096
 nbd:gb≠gd
 nbs:gb≠gs
 nds:gd≠gs
theorem BufAt.gr{Z:Nat->Prop}{w w':World}{gb gd gs r wr i:Nat}{err:Value}{T S:List UInt8}(h:BufAt w gb gd gs r wr i err T S)(hG:Gr Z w w')(h1:¬Z gb)(h2:¬Z gd)(h3:¬Z gs):BufAt w' gb gd gs r wr i err T S:=by
 obtain⟨lb,ls,hb⟩:=h.blk;exact⟨⟨lb,ls,(hG.block gb hb.lt h1).trans hb⟩,(hG.block gd h.buf.lt h2).trans h.buf,h.len,h.rd.gr hG h3,h.le,h.wle,h.nbd,h.nbs,h.nds⟩
theorem BufAt.below{w w':World}{gb gd gs r wr i:Nat}{err:Value}{T S:List UInt8}(h:BufAt w gb gd gs r wr i err T S)(hb:Below w.heap.size w w'):BufAt w' gb gd gs r wr i err T S :=
 h.gr (Z:=fun _=>False) (Gr.of_below hb) (fun h=>h) (fun h=>h) (fun h=>h)
theorem BufAt.cell{w:World}{gb gd gs r wr i:Nat}{err:Value}{T S:List UInt8}(h:BufAt w gb gd gs r wr i err T S)(j:Nat)(x:UInt8)(hx:T[j]?=some x):w.cell? ⟨gd,0+j,none⟩=some (byteV x):=by
 rw[Nat.zero_add,h.buf.cell,List.getElem?_toArray];exact byteVs_at hx
def restOf(r wr i:Nat)(T S:List UInt8):List UInt8:=(T.take wr).drop r++S.drop i
theorem Blk.setCells{w:World}{g o:Nat}{T X:List UInt8}(h:Blk w g (byteVs T).toArray 5)(ho:o+X.length<=T.length):Blk (w.setCells g o (byteVs X)) g (byteVs (T.take o++X++T.drop (o+X.length))).toArray 5:=by
 induction X generalizing w o T with
 |nil=>simpa [World.setCells,byteVs]using h
 |cons x X ih =>
  rw[byteVs,List.map_cons,World.setCells];simp only[List.length_cons]at ho;have h1:=h.set_ o (byteV x);have h2:(byteVs T).toArray.setIfInBounds o (byteV x)=(byteVs (T.set o x)).toArray:=by simp[byteVs,List.map_set]
  rw[h2]at h1;have h3:=ih (o:=o+1) h1 (by rw[List.length_set];omega);refine h3.to ?_;congr 2
  rw[List.take_set,List.drop_set_of_lt (by omega),List.take_succ_eq_append_getElem (by omega)];simp only[List.length_cons];rw[List.set_append_right _ _ (by simp;omega),List.length_take,Nat.min_eq_left (by omega),Nat.sub_self,List.set_cons_zero];simp[Nat.add_assoc,Nat.add_comm,Nat.add_left_comm]
def zbuf : List UInt8:=List.replicate 4096 0
theorem zbuf_len : zbuf.length=4096:=List.length_replicate
theorem made_bytes(n:Nat):madeCells (Value.int .u8 0).cells n=(byteVs (List.replicate n 0)).toArray:=by
 apply Array.ext
 ·rw[size_madeCells,List.size_toArray,byteVs_len,List.length_replicate]
 intro j h1 h2;simp[madeCells,byteVs,Value.cells,Nat.mod_one,byteV]
theorem make_zbuf(W:World):(Instr.makeSlice 33 (.int .i64 4096) (.int .i64 4096)).run Tryz.prog W=.ok (.slice (some ⟨W.heap.size,0,none⟩) 4096 4096) (W.alloc (.cells (byteVs zbuf).toArray 5)):=by
 obtain⟨i,hi,hz0,hz1,hz2⟩:=info_parts info5;have:=run_make (P:=Tryz.prog) W 33 5 i (.int .u8 0) Tryz.underlying33 hi hz0 .i64 .i64 4096 4096 (by omega) (by omega) (by rw[hz2];omega) (by omega);simp only[hz1,Nat.mul_one]at this;have he:madeCells (Value.int .u8 0).cells 4096=(byteVs zbuf).toArray:=made_bytes 4096;rw[<-he];exact this
theorem ta107_71(p:Value)(W:World):(Instr.typeAssert (.iface 71 p) 106 107 true).run Tryz.prog W=.ok (.tuple #[.pointer none,.bool false]) W:=by kernel_rfl
theorem c38(s:ByteArray)(w:World):Calls Tryz.prog 38 #[.string s] w fun e w'=>e=.returned (.pointer (some ⟨w.heap.size,0,none⟩))/\w'=w.alloc (.cells #[.string s,.int .i64 0,.int .i64 (-1)] 124):=by
 go_enter Tryz.func38,Tryz.ntmps38;go_wp2;go_ret
 exact⟨rfl,rfl⟩
theorem c130(gb:Nat)(c0 c1 c2 c3 c4 c5 c6 v p:Value)(t:TypeId)(n c:Nat)(A:Option Addr)(hv:v=.slice A n c)(w:World)(h:Blk w gb #[c0,c1,c2,c3,c4,c5,c6] 231) :
  Calls Tryz.prog 130 #[.pointer (some ⟨gb,0,none⟩),v,.iface t p] w fun e w'=>e=.returned (.tuple #[])/\Blk w' gb #[v,.iface t p,.int .i64 0,.int .i64 0,.nilIface,.int .i64 (-1),.int .i64 (-1)] 231/\w.grownBy w' (some gb):=by
 subst hv;have p0:=h.cell 0;have p1:=h.cell 1;have p2:=h.cell 2;have p3:=h.cell 3;have p4:=h.cell 4;have p5:=h.cell 5;have p6:=h.cell 6;have f0:=h.frozen 0;have f1:=h.frozen 1;have f2:=h.frozen 2;have f3:=h.frozen 3;have f4:=h.frozen 4;have f5:=h.frozen 5;have f6:=h.frozen 6;have H:=zH h;clear h;go_enter Tryz.func130,Tryz.ntmps130;go_wp2
 go_end0
 refine⟨rfl,?_,?_⟩
 ·exact(((((((H.out.set_ 0 _).set_ 1 _).set_ 2 _).set_ 3 _).set_ 4 _).set_ 5 _).set_ 6 _).to (by simp)
 exact grownBy.trans' (grownBy.trans' (grownBy.trans' (grownBy.trans' (grownBy.trans' (grownBy.trans' (grown_set _ gb _ _) (grown_set _ gb _ _)) (grown_set _ gb _ _)) (grown_set _ gb _ _)) (grown_set _ gb _ _)) (grown_set _ gb _ _)) (grown_set _ gb _ _)
theorem c91(gs:Nat)(w:World):Calls Tryz.prog 91 #[.iface 71 (.pointer (some ⟨gs,0,none⟩)),.int .i64 4096] w fun e w'=>e=.returned (.pointer (some ⟨w.heap.size,0,none⟩)) /\
  Blk w' w.heap.size #[.slice (some ⟨w.heap.size+1,0,none⟩) 4096 4096,.iface 71 (.pointer (some ⟨gs,0,none⟩)),.int .i64 0,.int .i64 0,.nilIface,.int .i64 (-1),.int .i64 (-1)] 231/\Blk w' (w.heap.size+1) (byteVs zbuf).toArray 5/\Below w.heap.size w w':=by
 have hta:=ta107_71;have hmk:=make_zbuf;have hmx:(max (4096:Int) 16)=4096:=by decide
 have hb1:Blk ((w.alloc (.cells #[.slice none 0 0,.nilIface,.int .i64 0,.int .i64 0,.nilIface,.int .i64 0,.int .i64 0] 231)).alloc (.cells (byteVs zbuf).toArray 5)) w.heap.size #[.slice none 0 0,.nilIface,.int .i64 0,.int .i64 0,.nilIface,.int .i64 0,.int .i64 0] 231 :=
  (heap_alloc_old _ _ (by simp)).trans (Blk.new w _ _)
 have hb2:Blk ((w.alloc (.cells #[.slice none 0 0,.nilIface,.int .i64 0,.int .i64 0,.nilIface,.int .i64 0,.int .i64 0] 231)).alloc (.cells (byteVs zbuf).toArray 5)) (w.heap.size+1) (byteVs zbuf).toArray 5:=by
  have:=Blk.new (w.alloc (.cells #[.slice none 0 0,.nilIface,.int .i64 0,.int .i64 0,.nilIface,.int .i64 0,.int .i64 0] 231)) (byteVs zbuf).toArray 5
  simpa using this
 have HB:=zH (And.intro hb1 hb2);clear hb1 hb2;go_enter Tryz.func91,Tryz.ntmps91;go_wp2_with (go_at_call 130;refine(c130 w.heap.size _ _ _ _ _ _ _ _ _ 71 4096 4096 _ rfl _ HB.out.1).mono ?_;rintro e w3⟨rfl,hB,hG⟩);go_ret
 refine⟨rfl,hB,(hG.block (w.heap.size+1) (by simp) (by simp)).trans HB.out.2,?_⟩;exact(((zB _ _).alloc (zR _) _).alloc (by simp) _).grown hG (by simp;omega) (fun k hk=>by injection hk with hk;omega)
theorem c60(gs:Nat)(S:List UInt8)(w:World)(h:StrR w gs 0 S):Calls Tryz.prog 60 #[.iface 71 (.pointer (some ⟨gs,0,none⟩))] w fun e w'=>e=.returned (.pointer (some ⟨w.heap.size,0,none⟩)) /\
  BufAt w' w.heap.size (w.heap.size+1) gs 0 0 0 .nilIface zbuf S/\Below w.heap.size w w':=by
 have hl:=h.lt;go_enter Tryz.func60,Tryz.ntmps60;go_wp2_with (go_at_call 91;refine(c91 gs w).mono ?_;rintro e w3⟨rfl,hB,hD,hb⟩);go_ret
 exact⟨rfl,⟨⟨_,_,hB⟩,hD,zbuf_len,h.gr (Z:=fun _=>False) (Gr.of_below hb) (fun h=>h),zR _,by omega,by omega,by omega,by omega⟩,hb⟩
theorem c157(gb gd gs r wr i:Nat)(err:Value)(T S:List UInt8)(w:World)(h:BufAt w gb gd gs r wr i err T S):Calls Tryz.prog 157 #[.pointer (some ⟨gb,0,none⟩)] w fun e w'=>e=.returned err/\BufAt w' gb gd gs r wr i .nilIface T S/\w.grownBy w' (some gb):=by
 obtain⟨lb,ls,hb⟩:=h.blk;have p4:=hb.cell 4;have f4:=hb.frozen 4;have H:=zH h;have HB:=zH hb;clear h hb;go_enter Tryz.func157,Tryz.ntmps157;go_wp2;go_ret
 have hG:=grown_set w gb 4 .nilIface;exact⟨rfl,⟨⟨lb,ls,(HB.out.set_ 4 _).to (by simp)⟩,H.out.buf.setNe H.out.nbd.symm,H.out.len,H.out.rd.gr (Gr.of_grown hG) (fun q=>H.out.nbs (by injection q)),H.out.le,H.out.wle,H.out.nbd,H.out.nbs,H.out.nds⟩,hG⟩
theorem c158(gb gd gs r wr i:Nat)(err:Value)(T S:List UInt8)(w:World)(h:BufAt w gb gd gs r wr i err T S):Calls Tryz.prog 158 #[.pointer (some ⟨gb,0,none⟩)] w fun e w'=>e=.returned (.int .i64 ((wr - r:Nat):Int))/\∃n,w'=w.drewN n:=by
 obtain⟨lb,ls,hb⟩:=h.blk;have p2:=hb.cell 2;have p3:=hb.cell 3;have hle:=h.le;have hwl:=h.wle;clear h hb;have e1:IntKind.i64.wrap ((wr:Int) - (r:Int))=((wr - r:Nat):Int):=by rw[IntWalk.i64_in _ (by omega)];omega
 go_enter Tryz.func158,Tryz.ntmps158;go_wp2;go_quiet (fail)
 go_wp2;go_ret
 exact⟨rfl,_,rfl⟩
theorem drop_ext(S:List UInt8)(i:Nat):(B S).extract i (B S).size=B (S.drop i):=by
 rw[<-B_L ((B S).extract i (B S).size),L_extract,L_B,size_B,List.take_of_length_le (by simp)]
theorem gr_set0{Z:Nat->Prop}{w0 W:World}(h:Gr Z w0 W)(g k:Nat)(u:Value)(hs:Z g):Gr Z w0 (W.setCell ⟨g,k,none⟩ u) :=
 h.trans ((Gr.of_grown (grown_set W g k u)).mono fun j _ q=>by injection q with q;subst q;exact hs)
theorem Gr.drw{Z:Nat->Prop}{w0 W:World}(h:Gr Z w0 W)(n:Nat):Gr Z w0 (W.drewN n):=⟨h.os,h.tape,h.output,h.size,h.block⟩
theorem c235(gs i g o n c:Nat)(S:List UInt8)(pE pF:Addr)(w:World)(h:StrR w gs i S)(hE:Errs w pE pF)(hc:∀j,j < n->(w.cell? ⟨g,o+j,none⟩).isSome=true)(hf:∀j,j < n->w.frozen? ⟨g,o+j,none⟩=false)
  (hg:g≠gs)(hS:S.length<=1099511627776) :
  Calls Tryz.prog 235 #[.pointer (some ⟨gs,0,none⟩),.slice (some ⟨g,o,none⟩) n c] w fun e w' =>
   (i < S.length/\e=.returned (.tuple #[.int .i64 ((min n (S.length - i):Nat):Int),.nilIface])/\w'.heap[g]?=(w.setCells g o (byteVs ((S.drop i).take n))).heap[g]?/\StrR w' gs (i+min n (S.length - i)) S/\Gr (fun j=>j=g\/j=gs) w w') \/
   (i=S.length/\e=.returned (.tuple #[.int .i64 0,eofV pE])/\Below w.heap.size w w'):=by
 obtain⟨hi,pr,hb⟩:=h;have p0:=hb.cell 0;have p1:=hb.cell 1;have p2:=hb.cell 2;have f1:=hb.frozen 1;have f2:=hb.frozen 2;have e0:=hE.eof;have HB:=zH hb;have HC:=zH hc;have HF:=zH hf;have hgl:=hb.lt;clear hb hc hf hE;by_cases hlt:i < S.length
 ·have a1:¬(((B S).size:Int)<=(i:Int)):=by rw[size_B];omega
  have a2:(0:Int)<=(i:Int):=by omega
  have a3:(i:Int)<=((B S).size:Int):=by rw[size_B];omega
  obtain⟨X,hX⟩:∃X,Hid ((S.drop i).take n=X):=⟨_,rfl⟩;obtain⟨k,hk⟩:∃k,Hid (min n (S.length - i)=k):=⟨_,rfl⟩;have hXk:Hid (X.length=k):=by unfold Hid;rw[<-hX.out,<-hk.out,List.length_take,List.length_drop]
  have hki:i+k<=S.length:=by have:=hk.out;omega
  have e1:IntKind.i64.wrap ((i:Int)+(k:Int))=((i+k:Nat):Int):=by rw[IntWalk.i64_in _ (by omega)];omega
  rw[hk.out,hX.out];go_enter Tryz.func235,Tryz.ntmps235;go_wp2;go_quiet (fail)
  rename_i nq;go_wp2;refine wp_quiet_tail_lit 10 (by kernel_rfl) (by kernel_rfl) ?_;simp only[List.take_succ_cons,List.take_zero,List.drop_succ_cons,List.drop_zero];repeat(quiet_step (fail))
  refine wpQuiet_nil ?_;intro _ hw';obtain⟨nq2,hw''⟩:=hw';subst hw'';have hWB:Blk (World.drewN (World.setCell (World.drewN w nq) ⟨gs,2,none⟩ (.int .i64 (-1))) nq2) gs #[.string (B S),.int .i64 (i:Int),.int .i64 (-1)] 124:=(Blk.set_ (w:=w.drewN nq) HB.out 2 (.int .i64 (-1))).to (by simp);have hWG:Gr (fun j=>j=gs) w (World.drewN (World.setCell (World.drewN w nq) ⟨gs,2,none⟩ (.int .i64 (-1))) nq2):=(gr_set0 ((Gr.refl (fun j=>j=gs) w).drw nq) gs 2 _ rfl).drw nq2;have hWh:(World.drewN (World.setCell (World.drewN w nq) ⟨gs,2,none⟩ (.int .i64 (-1))) nq2).heap[g]?=w.heap[g]?:=heap_setCell_other (w.drewN nq) ⟨gs,2,none⟩ g _ hg;have hWc:∀j,j < n->((World.drewN (World.setCell (World.drewN w nq) ⟨gs,2,none⟩ (.int .i64 (-1))) nq2).cell? ⟨g,o+j,none⟩).isSome=true:=fun j hj=>by rw[World.cell?_of_block (a:=⟨g,o+j,none⟩) hWh];exact HC.out j hj
  have hWf:∀j,j < n->(World.drewN (World.setCell (World.drewN w nq) ⟨gs,2,none⟩ (.int .i64 (-1))) nq2).frozen? ⟨g,o+j,none⟩=false:=fun j hj=>by rw[World.frozen?_of_block (a:=⟨g,o+j,none⟩) hWh];exact HF.out j hj
  clear p0 p1 p2 f1 f2 HC HF;generalize World.drewN (World.setCell (World.drewN w nq) ⟨gs,2,none⟩ (.int .i64 (-1))) nq2=W at *
  refine wp_copyT rfl (.tmp 20) (.tmp 29) rfl g o n c (B (S.drop i)) rfl (congrArg Value.string (drop_ext S i)) X k hX.out hXk.out hWc hWf ?_;have hB2:Blk (W.setCells g o (byteVs X)) gs #[.string (B S),.int .i64 (i:Int),.int .i64 (-1)] 124:=((grown_sets g (byteVs X) o W).block gs hWB.lt (fun q=>hg (by injection q with q;exact q.symm))).trans hWB;have hp1:=hB2.cell 1;have hf1:=hB2.frozen 1;have hq:Hid ((W.setCells g o (byteVs X)).heap[g]?=(w.setCells g o (byteVs X)).heap[g]?):=heap_setCells_congr _ _ _ _ hWh;have hG2:Gr (fun j=>j=g\/j=gs) w (W.setCells g o (byteVs X)):=(hWG.mono fun _ _ q=>.inr q).trans ((Gr.of_grown (grown_sets g (byteVs X) o W)).mono fun _ _ q=>by injection q with q;exact .inl q.symm);have HB2:=zH hB2;clear hWc hWf hWh hWB hB2;go_wp2;go_ret2
  exact .inl ⟨hlt,rfl,(heap_setCell_other _ ⟨gs,1,none⟩ g _ hg).trans hq.out,⟨hki,-1,(HB2.out.set_ 1 _).to (by simp)⟩,gr_set0 hG2 gs 1 _ (.inr rfl)⟩
 have a1:(((B S).size:Int)<=(i:Int)):=by rw[size_B];omega
 go_enter Tryz.func235,Tryz.ntmps235;go_wp2;go_quiet (fail)
 go_wp2;go_quiet (fail)
 go_wp2;go_ret2
 exact .inr ⟨by omega,rfl,below_drewN (below_drewN (zB _ _) _) _⟩
theorem cut_appNo{c:Int}{p:List UInt8}(h:cutF c p=false)(q:List UInt8):cutF c (p++q)=cutF c q/\cutA c (p++q)=p++cutA c q/\cutZ c (p++q)=cutZ c q:=by
 induction p with
 |nil=>exact⟨rfl,rfl,rfl⟩
 |cons x p ih =>
  rw[cutF]at h;split at h
  ·cases h
  rename_i hx;obtain⟨h1,h2,h3⟩:=ih h;rw[List.cons_append,cutF,cutA,cutZ,if_neg hx,if_neg hx,if_neg hx,h1,h2,h3];exact⟨rfl,rfl,rfl⟩
theorem cut_appYes{c:Int}{p:List UInt8}(h:cutF c p=true)(q:List UInt8):cutF c (p++q)=true/\cutA c (p++q)=cutA c p/\cutZ c (p++q)=cutZ c p++q:=by
 induction p with
 |nil=>cases h
 |cons x p ih =>
  rw[cutF]at h;rw[List.cons_append,cutF,cutA,cutZ,cutA,cutZ];split at h
  ·rename_i hx
   simp only[if_pos hx];exact⟨trivial,trivial,trivial⟩
  rename_i hx;obtain⟨h1,h2,h3⟩:=ih h;rw[if_neg hx,if_neg hx,if_neg hx,h1,h2,h3];simp[hx]
theorem cut_join{l:List UInt8}(h:cutF 10 l=true):l=cutA 10 l++10::cutZ 10 l:=by
 induction l with
 |nil=>cases h
 |cons x l ih =>
  rw[cutF]at h;rw[cutA,cutZ];split at h
  ·rename_i hx
   have:x=10:=UInt8.toNat_inj.1 (by simp;omega);subst this;simp
  rename_i hx;rw[if_neg hx,if_neg hx,List.cons_append,<-ih h]
theorem chomp_app(p x:List UInt8)(h:x≠[]):chomp (p++x)=p++chomp x:=by
 unfold chomp;rw[List.getLast?_append];cases hx:x.getLast? with
 |none=>exact absurd (List.getLast?_eq_none_iff.1 hx) h
 |some c =>
  simp only[Option.some_or];split
  ·rw[List.dropLast_append_of_ne_nil h]
  rfl
theorem chomp_keep{p:List UInt8}(h:∀x,p.getLast?=some x->(x.toNat:Int)≠13):chomp p=p:=by
 unfold chomp;cases hx:p.getLast? with
 |none=>rfl
 |some c=>simp only;rw[if_neg (h c hx)]
def pieceOk(p q:List UInt8):Prop:=(∀x,p.getLast?=some x->(x.toNat:Int)≠13)\/∃m,q=13::m
theorem chomp_pre{p q:List UInt8}(hp:cutF 10 p=false)(h:pieceOk p q):chomp (cutA 10 (p++q))=p++chomp (cutA 10 q):=by
 rw[(cut_appNo hp q).2.1];by_cases hq:cutA 10 q=[]
 ·rw[hq,List.append_nil]
  rcases h with h|⟨m,rfl⟩
  ·rw[chomp_keep h];simp[chomp]
  rw[cutA,if_neg (by decide)]at hq;cases hq
 exact chomp_app p _ hq
theorem pieceOk.app{p p2 q:List UInt8}(h2:pieceOk p2 q)(hn:p2≠[]):pieceOk (p++p2) q:=by
 rcases h2 with h|h
 ·refine .inl fun x hx=>h x ?_
  rw[List.getLast?_append]at hx;cases h3:p2.getLast? with
  |none=>exact absurd (List.getLast?_eq_none_iff.1 h3) hn
  |some c=>rw[h3]at hx;simpa using hx
 exact .inr h
theorem pieceOk.nil(q:List UInt8):pieceOk [] q:=.inl fun x hx=>by simp at hx
theorem headN_done(f:Nat)(out:List (List UInt8))(m:List UInt8)(h:cutF 10 m=false):headN f out m=none:=by
 cases f with
 |zero=>rfl
 |succ f=>rw[headN,if_neg (by rw[h];decide)]
structure Early(T:List Pair)(now:Int):Prop where
 v:valOf [118] T=[49]
 req:∀t∈reqd,hasTag t T=true
 ident:identOk T=true
 frm:hasFrom T=true
 t:(timeOf [116] T).isSome=true
 x:(timeOf [120] T).isSome=true
 exp:¬(hasTag [120] T=true/\now > (timeOf [120] T).getD 0)
 q:¬(hasTag [113] T=true/\among dnstxtL (listOf (valOf [113] T))=false)
theorem early_iff(T:List Pair)(now:Int):earlyOk T now=true↔Early T now:=by
 unfold earlyOk;simp only[Bool.and_eq_true,decide_eq_true_eq,List.all_eq_true,Bool.not_eq_true',Bool.and_eq_false_iff,decide_eq_false_iff_not,Bool.not_eq_false'];constructor
 ·rintro⟨⟨⟨⟨⟨⟨⟨h1,h2⟩,h3⟩,h4⟩,h5⟩,h6⟩,h7⟩,h8⟩
  exact⟨h1,h2,h3,h4,h5,h6,fun⟨a,b⟩=>h7.elim (fun h=>by rw[a]at h;cases h) (fun h=>h b),fun⟨a,b⟩=>h8.elim (fun h=>by rw[a]at h;cases h) (fun h=>by rw[b]at h;cases h)⟩
 rintro⟨h1,h2,h3,h4,h5,h6,h7,h8⟩;refine⟨⟨⟨⟨⟨⟨⟨h1,h2⟩,h3⟩,h4⟩,h5⟩,h6⟩,?_⟩,?_⟩
 ·cases h:hasTag [120] T with
  |false=>exact .inl rfl
  |true=>exact .inr fun q=>h7 ⟨h,q⟩
 cases h:hasTag [113] T with
 |false=>exact .inl rfl
 |true =>
  right;cases h9:among dnstxtL (listOf (valOf [113] T))with
  |true=>rfl
  |false=>exact absurd ⟨h,h9⟩ h8
theorem judgeT_no{T:List Pair}{now:Int}(h:¬Early T now)(fields:List (List UInt8))(body field:List UInt8)(recs:List Rec):judgeT fields body field recs now T=2:=by
 unfold judgeT;rw[if_neg (fun q=>h ((early_iff T now).1 q))]
theorem judgeT_yes{T:List Pair}{now:Int}(h:Early T now)(fields:List (List UInt8))(body field:List UInt8)(recs:List Rec):judgeT fields body field recs now T=judgeA fields body field recs T:=by
 unfold judgeT;rw[if_pos ((early_iff T now).2 h)]
end Go.Proofs.YtnkihlpmmfeioaaGreatDoor
