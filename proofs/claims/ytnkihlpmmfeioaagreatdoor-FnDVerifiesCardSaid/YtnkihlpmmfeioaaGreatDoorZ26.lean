/- Part of the proof that laws.FnDVerifies answers true: A69,K8,A70,A71 -/
import Derived.LaidEql
import Derived.Test.YtnkihlpmmfeioaaGreatDoorZ25
set_option linter.unusedVariables false
set_option linter.unusedSimpArgs false
set_option maxRecDepth 1000000
set_option maxHeartbeats 16000000
namespace Go.Proofs.YtnkihlpmmfeioaaGreatDoor
open Go.RowKit
theorem RSPost.set{w:World}{gb gd gs k:Nat}{rest S:List UInt8}{pE pF:Addr}{lv ev u:Value}(h:RSPost w gb gd gs rest S pE pF lv ev)(hk:k=5\/k=6)(hu:∃x:Int,u=.int .i64 x):RSPost (w.setCell ⟨gb,k,none⟩ u) gb gd gs rest S pE pF lv ev:=by
 obtain⟨o,n,c,line,r,q,i,err,T,h1,h2,h3,h4,h5,h6,h7,h8⟩:=h;obtain⟨x,rfl⟩:=hu;obtain⟨lb,ls,hb⟩:=h6.blk;have hG:=grown_set w gb k (.int .i64 x);refine⟨o,n,c,line,r,q,i,err,T,h1,h2,h3,h4,fun j y hy=>(cell_setNe _ (fun q=>h6.nbd q.symm)).trans (h5 j y hy),⟨?_,h6.buf.setNe h6.nbd.symm,h6.len,h6.rd.gr (Gr.of_grown hG) (fun q=>h6.nbs (Option.some.inj q)),h6.le,h6.wle,h6.nbd,h6.nbs,h6.nds⟩,h7,h8⟩;rcases hk with rfl|rfl
 ·exact⟨x,ls,(hb.set_ 5 _).to (by simp)⟩
 exact⟨lb,x,(hb.set_ 6 _).to (by simp)⟩
theorem c145(gb gd gs r q i:Nat)(err:Value)(T S:List UInt8)(pE pF:Addr)(w:World)(h:BufAt w gb gd gs r q i err T S)(hok:errOk err i S pE)(hE:Errs w pE pF)(hS:S.length<=1099511627776)(h3:errTop pE pF < gb/\errTop pE pF < gd/\errTop pE pF < gs) :
  Calls Tryz.prog 145 #[.pointer (some ⟨gb,0,none⟩),.int .u8 10] w fun e w'=>∃lv ev,e=.returned (.tuple #[lv,ev])/\RSPost w' gb gd gs (restOf r q i T S) S pE pF lv ev/\Gr (fun k=>k=gb\/k=gd\/k=gs) w w':=by
 have H:=zH h;have HE:=zH hE;clear h hE;go_enter Tryz.func145,Tryz.ntmps145;go_wp2;refine l145 _ _ _ _ _ _ _ _ _ _ _ _ _ _ _ _ _ _ _ _ _ _ _ _ _ _ _ _ _ _ _ _ _ _ _ _ _ _ _ _ _ _ _ _ _ _ _ _ _ _ _ _ _ _ _ _ _ _ _ _ _ _ _ _ _ _ _ _ _ _ _ _ _ _ _ _ _ _ _ _ _ _ _ _ _ _ _ _ _ _ _ _ _ _ _ _ _ _ _ _ _ _ _ _ _ _ _ _ _ _ _ _ _ _ _ _ _ _ _ _ _ _ _ _ _ _ _ (by kernel_rfl) gb gd gs r q i err T S pE pF w H.out hok HE.out hS h3 ?_;intro lv ev u6 u7 u9 u10 u11 u12 u13 u14 u15 u16 u17 u18 u19 u20 u21 u22 u23 u24 u25 u26 u27 u28 u29 u30 u31 u32 u33 u34 u35 u36 u37 u38 u39 u40 u41 u42 u43 u44 u45 u46 u47 u48 u49 u50 u51 u52 u53 u54 u55 u56 u57 u58 u59 u60 u61 u62 u63 u64 u65 u66 u67 u68 u69 u70 u71 u72 u73 u74 u75 u76 u77 u78 u79 u80 u81 u82 u83 u84 u85 u86 u87 u88 u89 u90 u91 u92 u93 u94 u95 u96 u97 u98 u99 u100 u101 u102 u103 u104 u105 u106 u107 u108 u109 u110 u111 u112 u113 w' hP hG;obtain⟨o,n,c,line,r',q',i',err',T',rfl,hn,hnc,hn4,hcl,hB,hok',hcase⟩:=hP;have HP:=zH (show RSPost w' gb gd gs (restOf r q i T S) S pE pF (.slice (some ⟨gd,o,none⟩) n c) ev from⟨o,n,c,line,r',q',i',err',T',rfl,hn,hnc,hn4,hcl,hB,hok',hcase⟩);have HG:=zH hG;obtain⟨lb,ls,hb⟩:=hB.blk;have p5:=hb.cell 5;have f5:=hb.frozen 5;have p6:=hb.cell 6;have f6:=hb.frozen 6;by_cases h0:n=0
 ·subst h0
  have a1:IntKind.i64.wrap ((0:Int) - 1)=-1:=by decide
  clear hcl hB hcase hG hb p5 p6 f5 f6;go_wp2;go_ret2
  exact⟨_,_,rfl,HP.out,HG.out⟩
 obtain⟨m,hm⟩:∃m,m+1=n:=⟨n - 1,by omega⟩;have a1:IntKind.i64.wrap ((n:Int) - 1)=(m:Int):=by rw[IntWalk.i64_in _ (by omega)];omega
 have a2:(0:Int)<=(m:Int):=by omega
 have a3:(m:Int) < (n:Int):=by omega
 obtain⟨x,hx⟩:∃x,line[m]?=some x:=⟨_,zG (by omega)⟩;have e1:=hcl m x hx;unfold byteV at e1;have hcv:IntKind.i64.wrap (x.toNat:Int)=(x.toNat:Int):=by have:=x.toNat_lt;rw[IntWalk.i64_in _ (by omega)]
 clear hcl hB hcase hG hb hm hx hn;go_wp2;go_ret2
 exact⟨_,_,rfl,(HP.out.set (.inl rfl) ⟨_,rfl⟩).set (.inr rfl) ⟨_,rfl⟩,gr_set0 (gr_set0 HG.out gb 5 _ (.inl rfl)) gb 6 _ (.inl rfl)⟩
theorem eqNE(p:Addr)(w:World):(binOp .eql 68 .nilIface (.iface 235 (.pointer (some p)))).run Tryz.prog w=.ok (.bool false) w:=by kernel_rfl
theorem u235 : Tryz.prog.underlying 235=some (.pointer 237):=by kernel_rfl
theorem u68 : ∃ms,Tryz.prog.underlying 68=some (.interface ms):=by
 cases h:Tryz.prog.underlying 68 with
 |none=>exact absurd (show(Tryz.prog.underlying 68).isSome=true by kernel_rfl) (by rw[h];decide)
 |some d =>
  cases d with
  |interface ms=>exact⟨ms,rfl⟩
  |_=>exact absurd (show(match Tryz.prog.underlying 68 with|some (.interface _)=>true|_=>false)=true by kernel_rfl) (by rw[h];simp)
theorem cmp235 : (Tryz.prog.info? 235).map (·.comparable)=some true:=by kernel_rfl
theorem siz237 : (Tryz.prog.info? 237).map (·.size)=some 1:=by kernel_rfl
theorem eqSame(p:Addr)(w:World):(binOp .eql 68 (.iface 235 (.pointer (some p))) (.iface 235 (.pointer (some p)))).run Tryz.prog w=.ok (.bool true) w:=by
 obtain⟨i,hi,hc⟩:=Option.map_eq_some_iff.1 cmp235;obtain⟨j,hj,hs⟩:=Option.map_eq_some_iff.1 siz237;obtain⟨ms,hms⟩:=u68;exact run_eql_iface_ptr_same w p hms u235 hi hc hj
theorem eqDiff(p q:Addr)(h:p≠q)(w:World){c1 c2:Array Value}{t1 t2:TypeId}(h1:Blk w p.block c1 t1)(h2:Blk w q.block c2 t2):(binOp .eql 68 (.iface 235 (.pointer (some p))) (.iface 235 (.pointer (some q)))).run Tryz.prog w=.ok (.bool false) w:=by
 obtain⟨i,hi,hc⟩:=Option.map_eq_some_iff.1 cmp235;obtain⟨j,hj,hs⟩:=Option.map_eq_some_iff.1 siz237;obtain⟨ms,hms⟩:=u68;exact run_eql_iface_ptr_other w hms u235 hi hc hj (by rw[hs];decide) h h1 h2
theorem chomp_at{l:List UInt8}{K:Nat}(hl:l.length=K+1){y:UInt8}(hy:l[K]?=some y):chomp l=if(y.toNat:Int)=13 then l.take K else l:=by
 have h:l.getLast?=some y:=by rw[List.getLast?_eq_getElem?,hl];exact hy
 unfold chomp;rw[h];simp only;rw[List.dropLast_eq_take,hl];rfl
theorem rd_take{w:World}{gd o k c:Nat}{line:List UInt8}(hcl:∀(j:Nat) (x:UInt8),line[j]?=some x->w.cell? ⟨gd,o+j,none⟩=some (byteV x))(hk:k<=line.length)(hc:k<=c):RdB w (.slice (some ⟨gd,o,none⟩) k c) (line.take k):=by
 have hl:(line.take k).length=k:=by rw[List.length_take];omega
 refine⟨_,c,by rw[hl],by rw[hl];exact hc,fun _=>⟨gd,o,rfl,fun j x hx=>hcl j x ?_⟩⟩;rw[List.getElem?_take]at hx;split at hx
 ·exact hx
 cases hx
theorem slRunH(A:Option Addr)(n c hi:Nat)(h:hi<=c)(hA:∀a,A=some a->a.spot=none)(W:World):(Instr.slice 33 (.slice A n c) none (some (.int .i64 (hi:Int))) none).run Tryz.prog W=.ok (.slice A hi c) W:=by
 rw[run_slice_h (P:=Tryz.prog) W 33 A n c Tryz.underlying33 .i64 (hi:Int) (by omega) (by omega),show Tryz.prog.elem 33=5 from by kernel_rfl];obtain⟨i,hi',hz0,hz1,hz2⟩:=info_parts info5;cases A with
 |none=>simp[sizeOf,typeInfo,hi',hz1,Result.andThen,sliced]
 |some a =>
  have h2:=hA a rfl;obtain⟨b,o,s⟩:=a;simp only at h2;subst h2;have:(⟨b,o,none⟩:Addr).add 0=⟨b,o,none⟩:=by unfold Addr.add;split <;> simp_all
  simp[sizeOf,typeInfo,hi',hz1,Result.andThen,sliced,this]
def RLPost(w':World)(gb gd gs:Nat)(rest S:List UInt8)(pE:Addr)(lv more ev:Value):Prop :=
 ∃r' q' i' err' T',BufAt w' gb gd gs r' q' i' err' T' S/\errOk err' i' S pE/\(∃A n c,lv=.slice A n c) /\
  ((cutF 10 rest=true/\more=.bool false/\ev=.nilIface/\RdB w' lv (chomp (cutA 10 rest))/\restOf r' q' i' T' S=cutZ 10 rest) \/
   (∃p,more=.bool true/\ev=.nilIface/\RdB w' lv p/\cutF 10 p=false/\p≠[]/\rest=p++restOf r' q' i' T' S/\pieceOk p (restOf r' q' i' T' S)) \/
   (cutF 10 rest=false/\rest≠[]/\more=.bool false/\ev=.nilIface/\RdB w' lv rest/\restOf r' q' i' T' S=[]) \/
   (rest=[]/\more=.bool false/\ev=eofV pE/\restOf r' q' i' T' S=[]))
theorem c131(gb gd gs r q i:Nat)(err:Value)(T S:List UInt8)(pE pF:Addr)(w:World)(h:BufAt w gb gd gs r q i err T S)(hok:errOk err i S pE)(hE:Errs w pE pF)(hS:S.length<=1099511627776)(h3:errTop pE pF < gb/\errTop pE pF < gd/\errTop pE pF < gs) :
  Calls Tryz.prog 131 #[.pointer (some ⟨gb,0,none⟩)] w fun e w'=>∃lv more ev,e=.returned (.tuple #[lv,more,ev])/\RLPost w' gb gd gs (restOf r q i T S) S pE lv more ev/\Gr (fun k=>k=gb\/k=gd\/k=gs) w w':=by
 obtain⟨rest,hrest⟩:∃rest,Hid (restOf r q i T S=rest):=⟨_,rfl⟩;rw[hrest.out];have H:=zH h;have HE:=zH hE;clear h hE;go_enter Tryz.func131,Tryz.ntmps131;go_upto_region 2 with(go_at_call 145;refine(c145 gb gd gs r q i err T S pE pF _ H.out hok HE.out hS h3).mono ?_;rintro e w1⟨lv,ev,rfl,hP,hG⟩;rw[hrest.out]at hP)
 obtain⟨o,n,c,line,r',q',i',err',T',rfl,hn,hnc,hn4,hcl,hB,hok',hcase⟩:=hP;have hE2:=HE.out.gr hG (fun k hk q=>by omega);have g3:=hE2.full;have hqN:=eqNE pF;have hqS:=eqSame pF;obtain⟨xc,xt,hxE⟩:=hE2.rE;obtain⟨yc,yt,hxF⟩:=hE2.rF;have hqD:=eqDiff pE pF hE2.ne w1 hxE hxF;clear hxE hxF;have HG:=zH hG;have HB:=zH hB;have HCL:=zH hcl;clear hG hE2 hrest H HE;rcases hcase with⟨hf,hl,rfl,hrs⟩|⟨hf,hn0,rfl,hrs,hr,hq,hT⟩|⟨hf,hl,rfl,hrs⟩
 ·-- a line
  obtain⟨K,hK⟩:∃K,Hid ((cutA 10 rest).length=K):=⟨_,rfl⟩;have hnK:n=K+1:=by rw[<-hn,hl,zA,hK.out];rfl
  have hlt:Hid (line.take K=cutA 10 rest):=by unfold Hid;rw[hl,List.take_left' hK.out]
  have e1:w1.cell? ⟨gd,o+K,none⟩=some (.int .u8 10):=by
   have:=hcl K 10 (by rw[hl,List.getElem?_append_right (by rw[hK.out];exact zR _),hK.out,Nat.sub_self];rfl);exact this
  have a0:((n:Int) == 0)=false:=zF (by omega);have a1:IntKind.i64.wrap ((n:Int) - 1)=(K:Int):=by rw[IntWalk.i64_in _ (by omega)];omega
  have a2:(0:Int)<=(K:Int):=by omega
  have a3:(K:Int) < (n:Int):=by omega
  have hln:K<=line.length:=by omega
  have HF:=zH hf;have HNK:=zH hnK;have HLN:=zH hl;clear hcl hf hn hl hnK;cases K with
  |zero =>
   have b1:¬((1:Int) < (n:Int)):=by have:=HNK.out;omega
   have e0:IntKind.i64.wrap ((n:Int) - 1)=0:=a1;have hsl:=slRunH (some ⟨gd,o,none⟩) n c 0 (Nat.zero_le _) (fun a ha=>by injection ha with ha;rw[<-ha]);simp only[Int.natCast_zero]at hsl;have hc0:chomp (cutA 10 rest)=[]:=by rw[List.eq_nil_of_length_eq_zero hK.out];rfl
   have HC0:=zH hc0;rw[Nat.add_zero]at e1;clear hc0 a1;go_wp2
   go_ret3
   refine⟨_,_,_,rfl,⟨r',q',i',err',T',HB.out,hok',⟨_,_,_,rfl⟩,.inl ⟨HF.out,rfl,rfl,?_,hrs⟩⟩,HG.out⟩;rw[HC0.out];exact rd_take (line:=line) HCL.out (Nat.zero_le _) (Nat.zero_le _)
  |succ M =>
   obtain⟨y,hy⟩:∃y,(cutA 10 rest)[M]?=some y:=⟨_,zG (by rw[hK.out];omega)⟩;have hly:line[M]?=some y:=by rw[HLN.out,List.getElem?_append_left (by rw[hK.out];omega)];exact hy
   have e2:=HCL.out M y hly;unfold byteV at e2;have b1:(1:Int) < (n:Int):=by have:=HNK.out;omega
   have b2:IntKind.i64.wrap ((n:Int) - 2)=(M:Int):=by have:=HNK.out;rw[IntWalk.i64_in _ (by omega)];omega
   have b3:(0:Int)<=(M:Int):=by omega
   have b4:(M:Int) < (n:Int):=by have:=HNK.out;omega
   obtain⟨K,hKM⟩:∃K,K=M+1:=⟨_,rfl⟩;rw[<-hKM]at e1 a1 a2 a3 hln HNK hlt hK;have HKM:=zH hKM;have HCH:Hid (chomp (cutA 10 rest)=if(y.toNat:Int)=13 then(cutA 10 rest).take M else cutA 10 rest):=chomp_at (by rw[hK.out,hKM]) hy;clear hKM hy hly;by_cases h13:(y.toNat:Int)=13
   ·have t1:((y.toNat:Int) == 13)=true:=zE h13
    have hc1:Hid (chomp (cutA 10 rest)=line.take M):=by unfold Hid;rw[HCH.out,if_pos h13,<-hlt.out,List.take_take,Nat.min_eq_left (by have:=HKM.out;omega)]
    clear h13;have hsl:=slRunH (some ⟨gd,o,none⟩) n c M (by have:=HNK.out;have:=HKM.out;omega) (fun a ha=>by injection ha with ha;rw[<-ha]);go_wp2
    go_ret3
    refine⟨_,_,_,rfl,⟨r',q',i',err',T',HB.out,hok',⟨_,_,_,rfl⟩,.inl ⟨HF.out,rfl,rfl,?_,hrs⟩⟩,HG.out⟩;rw[hc1.out];exact rd_take HCL.out (by have:=HKM.out;omega) (by have:=HNK.out;have:=HKM.out;omega)
   have t1:((y.toNat:Int) == 13)=false:=zF h13;have hc1:Hid (chomp (cutA 10 rest)=line.take K):=by unfold Hid;rw[HCH.out,if_neg h13,hlt.out]
   clear h13;have hsl:=slRunH (some ⟨gd,o,none⟩) n c K (by have:=HNK.out;omega) (fun a ha=>by injection ha with ha;rw[<-ha]);go_wp2
   go_ret3
   refine⟨_,_,_,rfl,⟨r',q',i',err',T',HB.out,hok',⟨_,_,_,rfl⟩,.inl ⟨HF.out,rfl,rfl,?_,hrs⟩⟩,HG.out⟩;rw[hc1.out];exact rd_take HCL.out hln (by have:=HNK.out;omega)
 ·-- a full buffer
  subst hn0 hr hq hT;obtain⟨x,hx⟩:∃x,T'[4095]?=some x:=⟨_,zG (by omega)⟩;have e1:=hcl 4095 x hx;unfold byteV at e1;have hro:Hid (restOf 4096 4096 i' T' S=S.drop i'):=by unfold Hid;rw[restOf,List.drop_eq_nil_of_le (by rw[List.length_take];omega)];rfl
  have HF:=zH hf;have HL:=zH hn;have HX:=zH hx;have HRS:=zH hrs;obtain⟨lb,ls,hb⟩:=HB.out.blk;have p2:=hb.cell 2;have f2:=hb.frozen 2;clear hcl hf hn hx hrs hb;by_cases h13:(x.toNat:Int)=13
  ·have t1:((x.toNat:Int) == 13)=true:=zE h13
   have hx13:x=13:=UInt8.toNat_inj.1 (by simp;omega);have HX13:=zH hx13;have hsl:=slRunH (some ⟨gd,o,none⟩) 4096 c 4095 (by omega) (fun a ha=>by injection ha with ha;rw[<-ha]);rw[show((4095:Nat):Int)=4095 from rfl]at hsl;clear h13 hx13;have hw:IntKind.i64.wrap (4096 - 1)=4095:=by decide
   go_wp2
   go_ret3
   have hspl:T'=T'.take 4095++[13]:=by
    have h1:=List.take_append_drop 4095 T';have h2:=last_drop (b:=T') (n1:=4095) (by rw[HL.out]) HX.out;rw[h2,HX13.out]at h1;exact h1.symm
   have hB2:=(HB.out).setR (m:=4095) (by omega);have hr2:restOf 4095 4096 i' T' S=13::S.drop i':=by
    rw[restOf,List.take_of_length_le (by rw[HL.out];omega),last_drop (b:=T') (n1:=4095) (by rw[HL.out]) HX.out,HX13.out];rfl
   refine⟨_,_,_,rfl,⟨4095,4096,i',err',T',hB2,hok',⟨_,_,_,rfl⟩,.inr (.inl ⟨T'.take 4095,rfl,rfl,?_,?_,?_,?_,?_⟩)⟩,gr_set0 HG.out gb 2 _ (.inl rfl)⟩
   ·exact(rd_take HCL.out (by rw[HL.out];omega) (by omega)).setNe (fun g' o' n' c' q=>by injection q with q;injection q with q;injection q with q;rw[<-q];exact HB.out.nbd.symm)
   ·have:=HF.out
    rw[hspl]at this;cases hf2:cutF 10 (T'.take 4095)with
    |false=>rfl
    |true=>rw[(cut_appYes hf2 [13]).1]at this;cases this
   ·intro h;have h2:=congrArg List.length h;rw[List.length_take,HL.out]at h2;simp at h2
   ·rw[hr2,HRS.out];conv=>lhs;rw[hspl]
    simp
   rw[hr2];exact .inr ⟨_,rfl⟩
  have t1:((x.toNat:Int) == 13)=false:=zF h13;have H13:=zH h13;clear h13;have hw:IntKind.i64.wrap (4096 - 1)=4095:=by decide
  go_wp2
  go_ret3
  refine⟨_,_,_,rfl,⟨4096,4096,i',err',T',HB.out,hok',⟨_,_,_,rfl⟩,.inr (.inl ⟨T',rfl,rfl,?_,HF.out,?_,?_,?_⟩)⟩,HG.out⟩
  ·have:=rd_take HCL.out (k:=4096) (by rw[HL.out];exact zR _) hnc
   rwa [List.take_of_length_le (by rw[HL.out];exact zR _)]at this
  ·intro h;have h2:=HL.out;rw[h]at h2;simp at h2
  ·rw[hro.out];exact HRS.out
  refine .inl fun z hz=>?_
  rw[List.getLast?_eq_getElem?,HL.out,HX.out]at hz;injection hz with hz;subst hz;exact H13.out
 -- the end
 subst hl;by_cases h0:n=0
 ·subst h0
  have hnil:=List.eq_nil_of_length_eq_zero hn;have HN:=zH hnil;unfold eofV;clear hcl hf hn hnil;go_wp2
  go_ret3
  exact⟨_,_,_,rfl,⟨r',q',i',err',T',HB.out,hok',⟨_,_,_,rfl⟩,.inr (.inr (.inr ⟨HN.out,rfl,rfl,hrs⟩))⟩,HG.out⟩
 obtain⟨m,hm⟩:∃m,m+1=n:=⟨n - 1,by omega⟩;obtain⟨x,hx⟩:∃x,line[m]?=some x:=⟨_,zG (by omega)⟩;have e1:=hcl m x hx;unfold byteV at e1;have a0:((n:Int) == 0)=false:=zF (by omega);have a1:IntKind.i64.wrap ((n:Int) - 1)=(m:Int):=by rw[IntWalk.i64_in _ (by omega)];omega
 have a2:(0:Int)<=(m:Int):=by omega
 have a3:(m:Int) < (n:Int):=by omega
 have h10:¬(x.toNat:Int)=10:=fun q=>by
  have h1:=last_drop (b:=line) (n1:=m) (by omega) hx;have h2:=List.take_append_drop m line;rw[h1]at h2;have h3:=hf;rw[<-h2]at h3;cases hf2:cutF 10 (line.take m)with
  |true=>rw[(cut_appYes hf2 [x]).1]at h3;cases h3
  |false=>rw[(cut_appNo hf2 [x]).1,cutF,if_pos q]at h3;cases h3
 have t1:((x.toNat:Int) == 10)=false:=zF h10;have HF:=zH hf;have HL:=zH hn;unfold eofV;clear hcl hf hm hx h10 hn;go_wp2
 go_ret3
 refine⟨_,_,_,rfl,⟨r',q',i',err',T',HB.out,hok',⟨_,_,_,rfl⟩,.inr (.inr (.inl ⟨HF.out,?_,rfl,rfl,?_,hrs⟩))⟩,HG.out⟩
 ·intro h;have h2:=HL.out;rw[h]at h2;exact h0 h2.symm
 have:=rd_take HCL.out (k:=n) (by rw[HL.out];exact zR _) hnc
 rwa [List.take_of_length_le (by rw[HL.out];exact zR _)]at this
def ZRPost(w':World)(gb gd gs:Nat)(rest S:List UInt8)(pE:Addr)(lv ev:Value):Prop :=
 ∃r' q' i' err' T',BufAt w' gb gd gs r' q' i' err' T' S/\errOk err' i' S pE /\
  ((cutF 10 rest=true/\lv=.string (B (chomp (cutA 10 rest)))/\ev=.nilIface/\restOf r' q' i' T' S=cutZ 10 rest) \/
   (cutF 10 rest=false/\rest≠[]/\lv=.string (B rest)/\ev=.nilIface/\restOf r' q' i' T' S=[]) \/
   (cutF 10 rest=false/\lv=.string ⟨#[]⟩/\ev=eofV pE/\restOf r' q' i' T' S=[]))
theorem c92(gb gd gs r q i:Nat)(err:Value)(T S:List UInt8)(pE pF:Addr)(w:World)(h:BufAt w gb gd gs r q i err T S)(hok:errOk err i S pE)(hE:Errs w pE pF)(hS:S.length<=1099511627776)(h3:errTop pE pF < gb/\errTop pE pF < gd/\errTop pE pF < gs) :
  Calls Tryz.prog 92 #[.pointer (some ⟨gb,0,none⟩)] w fun e w'=>∃lv ev,e=.returned (.tuple #[lv,ev])/\ZRPost w' gb gd gs (restOf r q i T S) S pE lv ev/\Gr (fun k=>k=gb\/k=gd\/k=gs) w w':=by
 obtain⟨rest,hrest⟩:∃rest,Hid (restOf r q i T S=rest):=⟨_,rfl⟩;have hrl:rest.length<=1099511631872:=by
  rw[<-hrest.out,restOf,zA,List.length_drop,List.length_take,List.length_drop,h.len];omega
 rw[hrest.out];have HLT:Hid (gb < w.heap.size/\gd < w.heap.size/\gs < w.heap.size):=by obtain⟨lb,ls,hb⟩:=h.blk;exact⟨hb.lt,h.buf.lt,h.rd.lt⟩
 have H:=zH h;have HE:=zH hE;have HK:=zH hok;clear h hE hok;go_enter Tryz.func92,Tryz.ntmps92;go_wp2;go_loopg [4] rest.length (fun g v w'=>∃(acc:List UInt8) (r1 q1 i1:Nat) (err1:Value) (T1:List UInt8),Hid (OwnB w' w.heap.size v acc/\BufAt w' gb gd gs r1 q1 i1 err1 T1 S/\errOk err1 i1 S pE/\rest=acc++restOf r1 q1 i1 T1 S/\cutF 10 acc=false/\pieceOk acc (restOf r1 q1 i1 T1 S) /\
  Gr (fun k=>k=gb\/k=gd\/k=gs) w w'/\(restOf r1 q1 i1 T1 S).length<=g))
 case atStart=>exact⟨[],r,q,i,err,T,OwnB.nil _ _,H.out,HK.out,hrest.out.symm,rfl,pieceOk.nil _,Gr.refl _ _,by rw[hrest.out];exact zR _⟩
 obtain⟨acc,r1,q1,i1,err1,T1,HI⟩:=hrel;obtain⟨wo,hwo⟩:∃wo:World,wo=wr:=⟨_,rfl⟩;rw[<-hwo]at HI ⊢;clear hwo;obtain⟨hO,hB,hok,hrs,hca,hpo,hG,hm⟩:=HI.out;obtain⟨R,hR⟩:∃R,Hid (restOf r1 q1 i1 T1 S=R):=⟨_,rfl⟩;rw[hR.out]at hrs hpo hm;have hle:=congrArg List.length hrs;rw[zA]at hle;have hE1:=HE.out.gr hG (fun k hk q=>by omega);have HOa:=zH hO;have HRS:=zH hrs;have HCA:=zH hca;have HPO:=zH hpo;have HM:=zH hm;have HG:=zH hG;have HBa:=zH hB;obtain⟨Aa,ca,hva,_⟩:=hO.slice;subst hva;clear hO hrs hca hpo hG hB HI hm;go_upto_region 3 with(go_at_call 131;refine(c131 gb gd gs r1 q1 i1 err1 T1 S pE pF _ HBa.out hok hE1 hS h3).mono ?_;rintro e w1⟨lv,more,ev,rfl,hP,hG1⟩;rw[hR.out]at hP)
 obtain⟨r',q',i',err',T',hB1,hok1,⟨A,n,c,rfl⟩,hcase⟩:=hP;have HO:Hid (OwnB w1 w.heap.size _ acc):=HOa.out.gr hG1 (fun k hk q=>by have:=(HOa.out.lt k hk).1;have:=HLT.out;omega);have HGa:Hid (Gr (fun k=>k=gb\/k=gd\/k=gs) w w1):=HG.out.trans hG1;have hwl:w.heap.size<=w1.heap.size:=HGa.out.size;have HB:=zH hB1;clear hB1 hG1 hE1;rcases hcase with⟨hf,rfl,rfl,hrd,hrs⟩|⟨p,rfl,rfl,hrd,hf,hp0,hrs,hpo⟩|⟨hf,hr0,rfl,rfl,hrd,hrs⟩|⟨hr0,rfl,rfl,hrs⟩
 ·have HRD:=zH hrd
  have HF:=zH hf;have HRR:=zH hrs;have hcl:(chomp (cutA 10 R)).length<=1099511631872:=by have:=chomp_le (cutA 10 R);have:=cutA_le 10 R;omega
  clear hf hrd hrs;go_wp2_with (at_builtin;refine wp_appB rfl (.tmp 17) (.tmp 18) rfl rfl rfl HO.out (Src.bytes HRD.out) (by omega) (by omega) ?_;intro v2 w2 hO2 hg2 hb2 hl2;have hcv:=hO2.str;have HO2:=zH hO2;have HG2:=zH hg2;clear hO2 hg2 hb2 hl2);go_ret2
  have hg3:Gr (fun k=>k=gb\/k=gd\/k=gs) w w2:=HGa.out.then (Gr.of_grown HG2.out) (fun k hk q=>absurd (HO.out.lt k q).1 (by omega));have hB3:BufAt w2 gb gd gs r' q' i' err' T' S:=HB.out.gr (Gr.of_grown HG2.out) (fun q=>by have:=(HO.out.lt _ q).1;have:=HLT.out.1;omega) (fun q=>by have:=(HO.out.lt _ q).1;have:=HLT.out.2.1;omega) (fun q=>by have:=(HO.out.lt _ q).1;have:=HLT.out.2.2;omega);have hcut:=cut_appNo HCA.out R;refine⟨_,_,rfl,⟨r',q',i',err',T',hB3,hok1,.inl ⟨by rw[HRS.out,hcut.1];exact HF.out,?_,rfl,by rw[HRS.out,hcut.2.2];exact HRR.out⟩⟩,hg3⟩;rw[HRS.out,chomp_pre HCA.out HPO.out];rfl
 ·have HRD:=zH hrd
  have HN:Hid (rest=(acc++p)++restOf r' q' i' T' S/\cutF 10 (acc++p)=false/\pieceOk (acc++p) (restOf r' q' i' T' S)) :=
   ⟨by rw[HRS.out,hrs,List.append_assoc],by rw[(cut_appNo HCA.out p).1];exact hf,pieceOk.app hpo hp0⟩
  have hpl:0 < p.length:=List.length_pos_iff.2 hp0;have hRl:=congrArg List.length hrs;rw[zA]at hRl;have hm:=HM.out;clear hrd hf hp0 hrs hpo;go_wp2_with (at_builtin;refine wp_appB rfl (.tmp 17) (.tmp 18) rfl rfl rfl HO.out (Src.bytes HRD.out) (by omega) (by omega) ?_;intro v2 w2 hO2 hg2 hb2 hl2;have hcv:=hO2.str;have HO2:=zH hO2;have HG2:=zH hg2;clear hO2 hg2 hb2 hl2);have hg3:Gr (fun k=>k=gb\/k=gd\/k=gs) w w2:=HGa.out.then (Gr.of_grown HG2.out) (fun k hk q=>absurd (HO.out.lt k q).1 (by omega));have hB3:BufAt w2 gb gd gs r' q' i' err' T' S:=HB.out.gr (Gr.of_grown HG2.out) (fun q=>by have:=(HO.out.lt _ q).1;have:=HLT.out.1;omega) (fun q=>by have:=(HO.out.lt _ q).1;have:=HLT.out.2.1;omega) (fun q=>by have:=(HO.out.lt _ q).1;have:=HLT.out.2.2;omega);go_roundg (restOf r' q' i' T' S).length
  case measure=>omega
  case rel=>exact⟨acc++p,r',q',i',err',T',HO2.out,hB3,hok1,HN.out.1,HN.out.2.1,HN.out.2.2,hg3,zR _⟩
 ·have HRD:=zH hrd
  have HF:=zH hf;have HRR:=zH hrs;have HR0:=zH hr0;have hcl:R.length<=1099511631872:=by omega
  clear hf hrd hrs hr0;go_wp2_with (at_builtin;refine wp_appB rfl (.tmp 17) (.tmp 18) rfl rfl rfl HO.out (Src.bytes HRD.out) (by omega) (by omega) ?_;intro v2 w2 hO2 hg2 hb2 hl2;have hcv:=hO2.str;have HO2:=zH hO2;have HG2:=zH hg2;clear hO2 hg2 hb2 hl2);go_ret2
  have hg3:Gr (fun k=>k=gb\/k=gd\/k=gs) w w2:=HGa.out.then (Gr.of_grown HG2.out) (fun k hk q=>absurd (HO.out.lt k q).1 (by omega));have hB3:BufAt w2 gb gd gs r' q' i' err' T' S:=HB.out.gr (Gr.of_grown HG2.out) (fun q=>by have:=(HO.out.lt _ q).1;have:=HLT.out.1;omega) (fun q=>by have:=(HO.out.lt _ q).1;have:=HLT.out.2.1;omega) (fun q=>by have:=(HO.out.lt _ q).1;have:=HLT.out.2.2;omega);refine⟨_,_,rfl,⟨r',q',i',err',T',hB3,hok1,.inr (.inl ⟨by rw[HRS.out,(cut_appNo HCA.out R).1];exact HF.out,?_,by rw[HRS.out];rfl,rfl,HRR.out⟩)⟩,hg3⟩;rw[HRS.out];intro h;exact HR0.out (List.append_eq_nil_iff.1 h).2
 have HR0:=zH hr0;have HRR:=zH hrs;unfold eofV;clear hr0 hrs;go_wp2;go_ret2
 exact⟨_,_,rfl,⟨r',q',i',err',T',HB.out,hok1,.inr (.inr ⟨by rw[HRS.out,HR0.out,List.append_nil];exact HCA.out,rfl,rfl,HRR.out⟩)⟩,HGa.out⟩
end Go.Proofs.YtnkihlpmmfeioaaGreatDoor
