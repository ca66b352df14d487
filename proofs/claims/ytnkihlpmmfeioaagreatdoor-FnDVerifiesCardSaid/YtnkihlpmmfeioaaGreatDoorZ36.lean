/- Part of the proof that laws.FnDVerifies answers true: A89,A78 -/
import Derived.Test.YtnkihlpmmfeioaaGreatDoorZ32
import Derived.Test.YtnkihlpmmfeioaaGreatDoorZ35
set_option linter.unusedVariables false
set_option linter.unusedSimpArgs false
set_option maxRecDepth 1000000
set_option maxHeartbeats 16000000
namespace Go.Proofs.YtnkihlpmmfeioaaGreatDoor
open Go.RowKit
theorem VQ.below{wo w:World}{Z:Nat->Prop}{g0 tyr mp nM cH cK:Nat}{AH AK:Option Addr}{pr:Value}{body field:List UInt8}{T:List Pair}{fields:List (List UInt8)}(h:VQ wo Z g0 tyr mp nM cH cK AH AK pr body field T fields)(hb:Below wo.heap.size wo w):VQ w Z g0 tyr mp nM cH cK AH AK pr body field T fields :=
 { h with
  keepJ:=fun W hG=>h.keepJ W (VC.gr hb hG)
  rdr:=rdr_keep h.rdr (hb.mono h.g0le)
  g0le:=zT h.g0le hb.size
  ah:=fun a q=>zL (h.ah a q) hb.size
  ak:=fun a q=>zL (h.ak a q) hb.size
  six:=zL h.six hb.size }
theorem Own.optS{S:Nat->Prop}{w W:World}{base:Nat}{v:Value}{o:Option (List (List UInt8))}(h:OptAt w base v o)(hG:Gr S w W)(hS:∀k,base<=k->k < w.heap.size->¬S k)(hx:∀xs,o=some xs->xs.length<=1152921504606846976):OptS W v o:=by
 cases o with
 |none=>exact h
 |some xs =>
  obtain⟨hne,ho⟩:=h;refine⟨hne,?_⟩;refine(ho.gr2 hG fun k hk=>?_).rdS (hx _ rfl);have hp:0 < xs.length:=List.length_pos_iff.2 hne;obtain⟨g,cap,rfl,h1,h2,_⟩:=ho.rowFacts (by rw[List.length_map];exact hp);injection hk with hk
  subst hk;exact hS _ h1 h2
theorem VC.of{w w2:World}{base:Nat}{v:Value}{K:Key}{Z:Nat->Prop}{g0 tyr mp nM cH cK:Nat}{AH AK:Option Addr}{pr:Value}{body field:List UInt8}{T:List Pair}{fields:List (List UInt8)}(h:VQ w Z g0 tyr mp nM cH cK AH AK pr body field T fields)(hb:Below w.heap.size w w2)(hr:ResAt w2 base v K)(hbase:w.heap.size<=base)(hkl:K.bytes.length<=536870912)(hkx:(∀xs,K.hashes=some xs->xs.length<=1152921504606846976)/\∀xs,K.services=some xs->xs.length<=1152921504606846976) :
  ∃gq bv hv nt sv fv,v=.pointer (some ⟨gq,0,none⟩)/\VC w2 Z g0 tyr gq mp nM cH cK AH AK pr bv hv sv fv nt body field T K fields:=by
 obtain⟨gq,bv,hv,nt,sv,fv,rfl,h1,h2,h3,h4,h5⟩:=hr;have hz:∀k,base<=k->k < w2.heap.size->¬(Z k\/w2.heap.size<=k):=fun k q1 q2 q=>by
  have:=h.g0le;rcases q with q|q
  ·have:=h.zlt k q;omega
  omega
 have hg:=h2.lt;refine⟨gq,bv,hv,nt,sv,fv,rfl,{ h.below hb with keep:=fun W hG=>?_,gql:=hg,kl:=hkl }⟩;have hJ:=h.keepJ W (VC.gr hb hG);exact⟨hJ.row,hJ.keys,(hG.block gq hg (hz gq h1 hg)).trans h2,(h3.gr hG (fun k hk=>by have:=h3.lt k hk;exact hz k this.1 this.2)).rdB,Own.optS h4 hG hz hkx.1,Own.optS h5 hG hz hkx.2,hJ.map,hJ.kr⟩
structure VO(W:World)(po:Nat)(pa:Addr)(v0:Value)(recs:List Rec):Prop where
 look:W.cell? ⟨po,0,none⟩=some (.func (.func 40) #[] #[.pointer (some pa)])
 key:W.cell? ⟨po,4,none⟩=some (.func (.func 41) #[] #[])
 arg:W.cell? pa=some v0
 recs:RdR W v0 recs
 tab:GTab W
theorem VO.below{w w':World}{po:Nat}{pa:Addr}{v0:Value}{recs:List Rec}(h:VO w po pa v0 recs)(hb:Below w.heap.size w w'):VO w' po pa v0 recs :=
 ⟨(hb.cell (cell_lt h.look)).trans h.look,(hb.cell (cell_lt h.key)).trans h.key,(hb.cell (cell_lt h.arg)).trans h.arg,h.recs.below hb,h.tab.below hb⟩
theorem pm_len{l:List UInt8}{T:List Pair}(h:pmM (split 59 l) []=some T)(t:List UInt8):(valOf t T).length<=l.length :=
 valOf_all (P:=fun v=>v.length<=l.length) (Nat.zero_le _) (pm_all (P:=fun v=>v.length<=l.length) _ _ _ (fun p hq=>by have h1:=trim_le (cutZ 61 p);have h2:=cutZ_le 61 p;have h3:=split_allLe 59 l p hq;omega) (by simp) h) t
theorem ask_le{n:Nat}{recs:List Rec}(h:∀r∈recs,allLe n r.tx)(nm:List UInt8):(askT nm recs).length<=n:=by
 rw[(ask_find nm recs).2];cases hf:findR nm recs with
 |none=>exact Nat.zero_le _
 |some r =>
  simp only;split
  ·exact Nat.zero_le _
  split
  ·exact Nat.zero_le _
  cases hx:r.tx with
  |nil=>exact Nat.zero_le _
  |cons x l=>exact h r (findR_mem hf) x (by rw[hx];exact List.mem_cons_self ..)
theorem keyM_le{T:List Pair}{K:Key}{n:Nat}(h:keyM T=some K)(hv:(valOf [112] T).length<=n):K.bytes.length<=3*n:=by
 have hb:(bare (valOf [112] T)).length<=n:=zT (bare_le _) hv;have hu:=unb64_le (bare (valOf [112] T));revert h;unfold keyM;split
 ·intro h;cases h
 cases hq:unb64 (bare (valOf [112] T))with
 |none=>intro h;cases h
 |some b =>
  intro h;simp only at h;rw[hq,Option.getD_some]at hu;split at h
  ·injection h with h
   subst h;exact zT hu (by omega)
  cases h
theorem readM_le{l:List UInt8}{K:Key}(h:readM l=some K):K.bytes.length<=3*l.length:=by
 rw[readM_pm]at h;cases hp:pmM (split 59 l) []with
 |none=>rw[hp]at h;cases h
 |some T =>
  rw[hp]at h;exact keyM_le h (pm_len hp [112])
theorem keyM_lists{T:List Pair}{K:Key}{n:Nat}(h:keyM T=some K)(hv:∀t,(valOf t T).length<=n):(∀xs,K.hashes=some xs->xs.length<=n+1)/\∀xs,K.services=some xs->xs.length<=n+1:=by
 have hl:∀t,(listOf (valOf t T)).length<=n+1:=fun t=>by
  have h1:=split_len 58 (strip (valOf t T));have h2:=strip_le (valOf t T);have h3:=hv t;unfold listOf;omega
 have hK:K.hashes=hashOf T/\K.services=servOf T:=by
  revert h;unfold keyM;split
  ·intro h;cases h
  split
  ·intro h;cases h
  intro h;split at h
  ·injection h with h;subst h;exact⟨rfl,rfl⟩
  cases h
 rw[hK.1,hK.2];constructor
 ·intro xs
  unfold hashOf;split
  ·intro q;injection q with q;subst q;exact hl _
  intro q;cases q
 intro xs;unfold servOf;split
 ·split
  ·intro q;cases q
  intro q;injection q with q;subst q;exact hl _
 intro q;cases q
theorem readM_lists{l:List UInt8}{K:Key}(h:readM l=some K):(∀xs,K.hashes=some xs->xs.length<=l.length+1)/\∀xs,K.services=some xs->xs.length<=l.length+1:=by
 rw[readM_pm]at h;cases hp:pmM (split 59 l) []with
 |none=>rw[hp]at h;cases h
 |some T=>rw[hp]at h;exact keyM_lists h (fun t=>pm_len hp t)
theorem ErrIs.ne{err:Value}{c:Int}(h:ErrIs err c)(hc:¬c=0):∃t m,err=.iface t (.string m):=by
 rcases h with⟨_,h⟩|⟨m,h,_⟩|⟨m,h,_⟩|⟨m,h,_⟩
 ·exact absurd h hc
 all_goals exact⟨_,m,h⟩
theorem b64_18_20(ct:Code)(h:ct=tlS B64 20):tlS B64 18=joinS 2 (tlS B64 18) ct:=by subst h;kernel_rfl
theorem t18(F:Nat->Value)(ct:Code)(hct:ct=tlS B64 18)(R:Ending->World->Prop)(wo w:World){Z:Nat->Prop}{g0 tyr mp nM cH cK:Nat}{AH AK:Option Addr}{pr:Value}{body field:List UInt8}{T:List Pair}{fields:List (List UInt8)}{po vp:Nat}{pa:Addr}{v0:Value}{recs:List Rec}(hV:Hid (VQ wo Z g0 tyr mp nM cH cK AH AK pr body field T fields))(hO:Hid (VO wo po pa v0 recs))(hb:Below wo.heap.size wo w)(hvp:vp < wo.heap.size)(hdm:Hid (wo.cell? ⟨vp,0,none⟩=some (.string (B (domOf T)))))(hrk:Hid (recsOk recs/\∀r∈recs,allLe 100000000 r.tx))(h0:F 0=.slice AH fields.length cH)(h1:F 1=.iface tyr pr)(h2:F 2=.string (B field))(h4:F 4=.pointer (some ⟨po,0,none⟩))(h12:F 12=.pointer (some ⟨vp,0,none⟩))(h13:F 13=.map (some mp))(h14:F 14=.nilIface)(h21:F 21=.slice AK (keysOf T).length cK){AM:Option Addr}{cM:Nat}(ms:List (List UInt8))(h33:F 33=.slice AM ms.length cM)(h36:F 36=.pointer none)(hms:Hid (RdS w (.slice AM ms.length cM) ms))
  (hR:∀(err:Value) (w':World),ErrIs err (if among dnstxtL ms=true then judgeA fields body field recs T else 2)->Gr (fun k=>Z k\/wo.heap.size<=k) wo w'->R (.returned (.tuple #[.pointer (some ⟨vp,0,none⟩),err])) w') :
  Code.wp Tryz.prog ct (bodyPost Tryz.prog Tryz.f64 R) ⟨frS 506 F,[]⟩ w:=by
 obtain⟨ct2,hct2⟩:∃ct2,Hid (ct2=tlS B64 20):=⟨_,rfl⟩;subst hct;rw[b64_18_20 ct2 hct2.out];conv=>arg 2;whnf
 simp only[joinS];rw[fr506,h0,h1,h2,h4,h12,h13,h14,h21,h33,h36];have HR:=zH hR;have hOw:=zH (hO.out.below hb);have hVw:=zH (hV.out.below hb);have hM:=zH (hVw.out.keepJ w (Gr.refl _ _)).map;obtain⟨_,_,hm1,hmc,hml,hmA⟩:=hms.out;injection hm1 with hm1 _ hm3
 subst hm1 hm3;have HMA:=zH hmA;obtain⟨r,hr⟩:∃r,Hid (among dnstxtL ms=r):=⟨_,rfl⟩;rw[hr.out]at HR;have hdw:w.cell? ⟨vp,0,none⟩=some (.string (B (domOf T))):=(hb.cell (p:=⟨vp,0,none⟩) hvp).trans hdm.out;have kd:=cell_regrown hdw;have k0:=cell_regrown hOw.out.look;have k4:=cell_regrown hOw.out.key;have kl:∀d os,(Instr.lookup 155 (.map (some mp)) (.string ⟨#[115]⟩) false).run Tryz.prog (Go.Sort.grow (redrawn w d) os)=.ok (.string (B (valOf [115] T))) (Go.Sort.grow (redrawn w d) os):=fun d os=>(hM.out.below (below_regrown w d os)).look ⟨#[115]⟩ (by decide)
 clear hR hmA hms;go_wp2;go_loopg [14,36,242] ms.length (fun gk e1 r1 v w'=>∃k:Nat,Hid (k+gk=ms.length)/\e1=.nilIface/\r1=.pointer none/\v=.int .i64 k/\Hid (among dnstxtL (ms.drop k)=r)/\w=w')
 case atStart=>exact⟨0,Nat.zero_add _,rfl,rfl,rfl,hr,rfl⟩
 obtain⟨k,hk,rfl,rfl,rfl,hp,rfl⟩:=hrel;have hk':k<=ms.length:=by have:=hk.out;omega
 by_cases hlt:k < ms.length
 ·obtain⟨gM,oM,rfl,hmcell⟩:=HMA.out (by omega)
  have hck:=hmcell k ms[k] (zG hlt);clear hmcell;rw[List.drop_eq_getElem_cons hlt]at hp;by_cases hd:ms[k]=dnstxtL
  ·have hp1:=hp.out
   simp only[among,if_pos hd]at hp1;rw[<-hp1,if_pos rfl]at HR;rw[hd]at hck;clear hp hp1 hd;go_wp2_with (go_at_call 102;refine(c102 dnstxtL _).mono ?_;rintro e w1⟨rfl,rfl⟩;rw[show(dnstxtL == ([100,110,115,47,116,120,116]:List UInt8))=true from rfl,if_pos rfl]);refine wp_below_call 16 21 (by kernel_rfl) (by kernel_rfl) rfl ?_;simp only[List.take_succ_cons,List.take_zero,List.drop_succ_cons,List.drop_zero];repeat(quiet_step ((go_at_call 98;exact Calls.regrown_of (c98p (valOf [115] T) _ (by rw[size_B];have:=(hV.out.vals [115]).1;omega) (hV.out.vals _).2))))
   refine wpQuiet_nil ?_;intro _ hw';obtain⟨⟨dq,osq⟩,hw''⟩:=hw';subst hw'';go_wp2_with (go_at_call 136;refine(c136 pa v0 recs (domOf T) (strip (valOf [115] T)) _ (cell_regrown hOw.out.arg dq osq) (hOw.out.recs.below (below_regrown w dq osq)) hrk.out.1 (hOw.out.tab.below (below_regrown w dq osq)) (zT (strip_le _) (zT (hV.out.vals _).1 (by decide))) (zT (strip_le _) (zT (hV.out.vals _).1 (by decide)))).mono ?_;rintro e w2⟨v,err,rfl,hQ,hb2⟩);refine callQ_normal ?_;repeat(quiet_step (fail))
   refine wpQuiet_nil ?_;intro _ hw';obtain⟨nq2,hw''⟩:=hw';subst hw'';have hbr:=below_regrown w dq osq;obtain⟨w1,hw1⟩:∃w1,w1=Go.Sort.grow (redrawn w dq) osq:=⟨_,rfl⟩;rw[<-hw1]at hQ hb2 hbr;have hB:Below w.heap.size w w2:=hbr.trans (hb2.mono hbr.size);have hB2:Below wo.heap.size wo w2:=hb.trans (hB.mono hb.size);clear kd k0 k4 kl hw1;unfold judgeA at HR;have hQ2:QueryAt w2 w1.heap.size v err (nameOf T) recs:=hQ;unfold QueryAt at hQ2;clear hQ;by_cases hc:askC (nameOf T) recs=0
   ·rw[if_pos hc]at hQ2 HR
    cases hm:readM (askT (nameOf T) recs)with
    |none =>
     rw[hm]at hQ2 HR;obtain⟨rfl,m,rfl⟩:=hQ2;clear hm hc;go_wp2;exact HR.out _ _ (.inr (.inl ⟨_,rfl,rfl⟩)) ((Gr.of_below hB2).drewN nq2)
    |some K =>
     rw[hm]at hQ2 HR;obtain⟨rfl,hra⟩:=hQ2;have hkl:K.bytes.length<=536870912:=by
      have h3:=readM_le hm;have h4:(askT (nameOf T) recs).length<=100000000:=ask_le hrk.out.2 _;omega
     have hkx:(∀xs,K.hashes=some xs->xs.length<=1152921504606846976)/\∀xs,K.services=some xs->xs.length<=1152921504606846976:=by
      have h4:(askT (nameOf T) recs).length<=100000000:=ask_le hrk.out.2 _;have h5:=readM_lists hm;exact⟨fun xs q=>by have:=h5.1 xs q;omega,fun xs q=>by have:=h5.2 xs q;omega⟩
     obtain⟨gq,bv,hv,nt,sv,fv,rfl,hVC⟩:=VC.of hVw.out hB hra hbr.size hkl hkx;have HVC:=zH hVC;clear hm hc hra hVC;go_wp2;refine useF 506 _ (by kernel_rfl) ?_;refine t20 _ ct2 hct2.out R w2 _ HVC (below_drewN (zB _ _) nq2) rfl rfl rfl rfl rfl rfl ?_;intro err w' he hG;exact HR.out _ _ he (VC.gr hB2 hG)
   rw[if_neg hc]at hQ2 HR;obtain⟨rfl,hE⟩:=hQ2;obtain⟨t,m,rfl⟩:=hE.ne hc;have HE:=zH hE;clear hc hE;go_wp2;exact HR.out _ _ HE.out ((Gr.of_below hB2).drewN nq2)
  have hp1:=hp.out;simp only[among,if_neg hd]at hp1;have Hp:=zH hp1;have hdb:Hid ((ms[k] == ([100,110,115,47,116,120,116]:List UInt8))=false):=zF hd;clear hp hp1 hd;go_wp2_with (go_at_call 102;refine(c102 _ _).mono ?_;rintro e w1⟨rfl,rfl⟩;rw[hdb.out,if_neg Bool.false_ne_true]);go_roundg (gk - 1)
  case measure=>have:=hk.out;omega
  case rel=>exact⟨k+1,by have:=hk.out;unfold Hid;omega,rfl,rfl,by go_num,Hp,rfl⟩
 rw[List.drop_eq_nil_of_le (by omega)]at hp;have hp1:=hp.out;rw[<-hp1]at HR;simp only[among,if_neg Bool.false_ne_true]at HR;clear hp hp1;go_wp2;exact HR.out _ _ (.inr (.inl ⟨_,rfl,rfl⟩)) (Gr.of_below hb)
def hexD(n:Nat):UInt8:=if n < 10 then UInt8.ofNat (48+n)else UInt8.ofNat (87+n)
def escM(c:UInt8):List UInt8 :=
 if c.toNat=34\/c.toNat=92 then[92,c]
 else if 32<=c.toNat/\c.toNat<=126 then[c]
 else if c.toNat=7 then[92,97]else if c.toNat=8 then[92,98]else if c.toNat=10 then[92,110]else if c.toNat=13 then[92,114]else if c.toNat=9 then[92,116]
 else[92,120,hexD (c.toNat / 16),hexD (c.toNat % 16)]
theorem escM_len(c:UInt8):(escM c).length<=4:=by 
 unfold escM;split
 ·simp
 split
 ·simp
 split
 ·simp
 split
 ·simp
 split
 ·simp
 split
 ·simp
 split
 ·simp
 simp
theorem c282(r:Int)(w:World)(h0:0<=r)(h1:r<=127):Calls Tryz.prog 282 #[.int .i32 r] w fun e w'=>e=.returned (.bool (decide (32<=r/\r<=126)))/\w'=w:=by
 have a1:r<=255:=by omega
 have a2:¬161<=r:=by omega
 by_cases h2:32<=r
 ·by_cases h3:r<=126
  ·have hd:decide (32<=r/\r<=126)=true:=by simp[h2,h3]
   rw[hd];clear hd;go_enter Tryz.func282,Tryz.ntmps282;go_wp2;go_ret
   exact⟨rfl,rfl⟩
  have hd:decide (32<=r/\r<=126)=false:=by simp[h3]
  rw[hd];clear hd;go_enter Tryz.func282,Tryz.ntmps282;go_wp2;go_ret
  exact⟨rfl,rfl⟩
 have hd:decide (32<=r/\r<=126)=false:=by simp[h2]
 rw[hd];clear hd;go_enter Tryz.func282,Tryz.ntmps282;go_wp2;go_ret
 exact⟨rfl,rfl⟩
theorem c279(l:List UInt8)(x:UInt8)(w:World)(hx:(x.toNat:Int) < 128)(hs:l.length<=1073741824):Calls Tryz.prog 279 #[.string (B (x::l))] w fun e w'=>e=.returned (.tuple #[.int .i32 (x.toNat:Int),.int .i64 1])/\w'=w:=by
 have hne:(B (x::l)).toList.isEmpty=false:=by rw[toList_B];rfl
 have hp:0 < (B (x::l)).size:=by rw[size_B];simp
 have hg:(B (x::l))[0]'hp=x:=rfl;have hcv:IntKind.i32.wrap (x.toNat:Int)=(x.toNat:Int):=by
  have:0<=(x.toNat:Int):=by omega
  rw[IntKind.wrap_i32];omega
 go_enter Tryz.func279,Tryz.ntmps279;go_wp2;go_ret2
 exact⟨rfl,rfl⟩
theorem c284(v:Value)(l:List UInt8)(c:UInt8)(base:Nat)(w:World)(hO:OwnB w base v l)(hb:base<=w.heap.size)(hl:l.length<=4294967296)(hc:(c.toNat:Int) < 128) :
  Calls Tryz.prog 284 #[v,.int .i32 (c.toNat:Int)] w fun e w'=>∃v',e=.returned v'/\OwnB w' base v' (l++[c])/\Below base w w':=by
 obtain⟨A,cc,rfl,_⟩:=hO.slice;have HO:=zH hO;have h0:0<=(c.toNat:Int):=by omega
 have e1:IntKind.u32.wrap (c.toNat:Int)=(c.toNat:Int):=by rw[IntKind.wrap_u32];omega
 have e2:IntKind.u8.wrap (c.toNat:Int)=(c.toNat:Int):=by rw[IntKind.wrap_u8];omega
 have e3:(c.toNat:Int)<=127:=by omega
 clear hO;go_enter Tryz.func284,Tryz.ntmps284;go_wp2_with (at_builtin;refine wp_appb rfl (.tmp 8) (.tmp 11) rfl c rfl rfl HO.out (by omega) hb ?_;intro v2 w2 hO2 hg2 hb2 hl2;have hb3:=hb2 _ (zB _ _));go_ret
 exact⟨_,rfl,hO2,hb3⟩
theorem c280(v:Value)(l:List UInt8)(c:UInt8)(base:Nat)(w:World)(hO:OwnB w base v l)(hb:base<=w.heap.size)(hl:l.length<=4294967296)(hp:plainB c) :
  Calls Tryz.prog 280 #[v,.int .i32 (c.toNat:Int),.int .u8 34,.bool false,.bool false] w fun e w'=>∃v',e=.returned v'/\OwnB w' base v' (l++escM c)/\Below base w w':=by
 have hpc:c.toNat < 128/\c.toNat≠11/\c.toNat≠12:=by obtain⟨h1,h2,h3⟩:=hp;omega
 obtain⟨A,cc,rfl,_⟩:=hO.slice;have HO:=zH hO;clear hO hp;by_cases hpr:(32<=c.toNat/\c.toNat<=126)/\¬(c.toNat=34\/c.toNat=92)
 ·have he:escM c=[c]:=by unfold escM;rw[if_neg hpr.2,if_pos hpr.1]
  rw[he];have n1:((c.toNat:Int) == 34)=false:=zF (by omega);have n2:((c.toNat:Int) == 92)=false:=zF (by omega);have hd:decide (32<=(c.toNat:Int)/\(c.toNat:Int)<=126)=true:=decide_eq_true (by omega);have HPC:=zH hpc;clear hpr he hpc;go_enter Tryz.func280,Tryz.ntmps280;go_wp2_with (first
   |(go_at_call 282;refine(c282 _ _ (by have:=HPC.out;omega) (by have:=HPC.out;omega)).mono ?_;rintro e w1⟨rfl,rfl⟩;rw[hd])
   |(go_at_call 284;refine(c284 _ l c base _ HO.out hb hl (by have:=HPC.out;omega)).mono ?_;rintro e w2⟨v2,rfl,hO2,hb2⟩))
  go_ret
  exact⟨_,rfl,hO2,hb2⟩
 have hcs:c.toNat=34\/c.toNat=92\/c.toNat=7\/c.toNat=8\/c.toNat=10\/c.toNat=13\/c.toNat=9\/c.toNat=0\/c.toNat=1\/c.toNat=2\/c.toNat=3\/c.toNat=4\/c.toNat=5\/c.toNat=6\/c.toNat=14\/c.toNat=15\/c.toNat=16\/c.toNat=17\/c.toNat=18\/c.toNat=19\/c.toNat=20\/c.toNat=21\/c.toNat=22\/c.toNat=23\/c.toNat=24\/c.toNat=25\/c.toNat=26\/c.toNat=27\/c.toNat=28\/c.toNat=29\/c.toNat=30\/c.toNat=31\/c.toNat=127:=by omega
 clear hpr;rcases hcs with h|h|h|h|h|h|h|h|h|h|h|h|h|h|h|h|h|h|h|h|h|h|h|h|h|h|h|h|h|h|h|h|h
 ·have hc:c=34:=UInt8.toNat_inj.1 (by simp;omega)
  clear hpc h;subst hc;rw[show(((34:UInt8).toNat:Nat):Int)=34 from rfl];go_enter Tryz.func280,Tryz.ntmps280;go_wp2_with (first
   |(at_builtin;refine wp_appb rfl (.tmp 21) (.tmp 22) rfl 92 rfl rfl HO.out (by omega) hb ?_;intro v2 w2 hO2 hg2 hb2 hl2;have hb3:=hb2 _ (zB _ _);have HO2:=zH hO2;clear hO2)
   |(at_builtin;refine wp_appb rfl (.tmp 24) (.tmp 27) rfl 34 rfl rfl HO2.out (by rw[zA,List.length_singleton];omega) (zT hb hb3.size) ?_;intro v3 w3 hO3 hg3 hb4 hl3;have hb5:=hb4 _ hb3))
  go_ret
  exact⟨_,rfl,by simpa [escM]using hO3,hb5⟩
 ·have hc:c=92:=UInt8.toNat_inj.1 (by simp;omega)
  clear hpc h;subst hc;rw[show(((92:UInt8).toNat:Nat):Int)=92 from rfl];go_enter Tryz.func280,Tryz.ntmps280;go_wp2_with (first
   |(at_builtin;refine wp_appb rfl (.tmp 21) (.tmp 22) rfl 92 rfl rfl HO.out (by omega) hb ?_;intro v2 w2 hO2 hg2 hb2 hl2;have hb3:=hb2 _ (zB _ _);have HO2:=zH hO2;clear hO2)
   |(at_builtin;refine wp_appb rfl (.tmp 24) (.tmp 27) rfl 92 rfl rfl HO2.out (by rw[zA,List.length_singleton];omega) (zT hb hb3.size) ?_;intro v3 w3 hO3 hg3 hb4 hl3;have hb5:=hb4 _ hb3))
  go_ret
  exact⟨_,rfl,by simpa [escM]using hO3,hb5⟩
 ·have hc:c=7:=UInt8.toNat_inj.1 (by simp;omega)
  clear hpc h;subst hc;rw[show(((7:UInt8).toNat:Nat):Int)=7 from rfl];go_enter Tryz.func280,Tryz.ntmps280;go_wp2_with (first
   |(go_at_call 282;refine(c282 _ _ (by decide) (by decide)).mono ?_;rintro e w1⟨rfl,rfl⟩)
   |(at_builtin;refine wp_appB rfl (.tmp 118) (.const (.string ⟨#[92,97]⟩)) rfl rfl rfl HO.out (Src.text _ (B [92,97])) (by simp[B];omega) hb ?_;intro v2 w2 hO2 hg2 hb2 hl2;have hb3:=hb2 _ (zB _ _)))
  go_ret
  exact⟨_,rfl,by simpa [escM,B]using hO2,hb3⟩
 ·have hc:c=8:=UInt8.toNat_inj.1 (by simp;omega)
  clear hpc h;subst hc;rw[show(((8:UInt8).toNat:Nat):Int)=8 from rfl];go_enter Tryz.func280,Tryz.ntmps280;go_wp2_with (first
   |(go_at_call 282;refine(c282 _ _ (by decide) (by decide)).mono ?_;rintro e w1⟨rfl,rfl⟩)
   |(at_builtin;refine wp_appB rfl (.tmp 122) (.const (.string ⟨#[92,98]⟩)) rfl rfl rfl HO.out (Src.text _ (B [92,98])) (by simp[B];omega) hb ?_;intro v2 w2 hO2 hg2 hb2 hl2;have hb3:=hb2 _ (zB _ _)))
  go_ret
  exact⟨_,rfl,by simpa [escM,B]using hO2,hb3⟩
 ·have hc:c=10:=UInt8.toNat_inj.1 (by simp;omega)
  clear hpc h;subst hc;rw[show(((10:UInt8).toNat:Nat):Int)=10 from rfl];go_enter Tryz.func280,Tryz.ntmps280;go_wp2_with (first
   |(go_at_call 282;refine(c282 _ _ (by decide) (by decide)).mono ?_;rintro e w1⟨rfl,rfl⟩)
   |(at_builtin;refine wp_appB rfl (.tmp 130) (.const (.string ⟨#[92,110]⟩)) rfl rfl rfl HO.out (Src.text _ (B [92,110])) (by simp[B];omega) hb ?_;intro v2 w2 hO2 hg2 hb2 hl2;have hb3:=hb2 _ (zB _ _)))
  go_ret
  exact⟨_,rfl,by simpa [escM,B]using hO2,hb3⟩
 ·have hc:c=13:=UInt8.toNat_inj.1 (by simp;omega)
  clear hpc h;subst hc;rw[show(((13:UInt8).toNat:Nat):Int)=13 from rfl];go_enter Tryz.func280,Tryz.ntmps280;go_wp2_with (first
   |(go_at_call 282;refine(c282 _ _ (by decide) (by decide)).mono ?_;rintro e w1⟨rfl,rfl⟩)
   |(at_builtin;refine wp_appB rfl (.tmp 134) (.const (.string ⟨#[92,114]⟩)) rfl rfl rfl HO.out (Src.text _ (B [92,114])) (by simp[B];omega) hb ?_;intro v2 w2 hO2 hg2 hb2 hl2;have hb3:=hb2 _ (zB _ _)))
  go_ret
  exact⟨_,rfl,by simpa [escM,B]using hO2,hb3⟩
 ·have hc:c=9:=UInt8.toNat_inj.1 (by simp;omega)
  clear hpc h;subst hc;rw[show(((9:UInt8).toNat:Nat):Int)=9 from rfl];go_enter Tryz.func280,Tryz.ntmps280;go_wp2_with (first
   |(go_at_call 282;refine(c282 _ _ (by decide) (by decide)).mono ?_;rintro e w1⟨rfl,rfl⟩)
   |(at_builtin;refine wp_appB rfl (.tmp 138) (.const (.string ⟨#[92,116]⟩)) rfl rfl rfl HO.out (Src.text _ (B [92,116])) (by simp[B];omega) hb ?_;intro v2 w2 hO2 hg2 hb2 hl2;have hb3:=hb2 _ (zB _ _)))
  go_ret
  exact⟨_,rfl,by simpa [escM,B]using hO2,hb3⟩
 ·have hc:c=0:=UInt8.toNat_inj.1 (by simp;omega)
  clear hpc h;subst hc;rw[show(((0:UInt8).toNat:Nat):Int)=0 from rfl];go_enter Tryz.func280,Tryz.ntmps280;go_wp2_with (first
   |(go_at_call 282;refine(c282 _ _ (by decide) (by decide)).mono ?_;rintro e w1⟨rfl,rfl⟩)
   |(at_builtin;refine wp_appB rfl (.tmp 70) (.const (.string ⟨#[92,120]⟩)) rfl rfl rfl HO.out (Src.text _ (B [92,120])) (by simp[B];omega) hb ?_;intro v2 w2 hO2 hg2 hb2 hl2;have hb3:=hb2 _ (zB _ _);have HO2:=zH hO2;clear hO2)
   |(at_builtin;refine wp_appb rfl (.tmp 72) (.tmp 77) rfl 48 rfl rfl HO2.out (by simp[B];omega) (zT hb hb3.size) ?_;intro v3 w3 hO3 hg3 hb4 hl3;have hb5:=hb4 _ hb3;have HO3:=zH hO3;clear hO3)
   |(at_builtin;refine wp_appb rfl (.tmp 79) (.tmp 84) rfl 48 rfl rfl HO3.out (by simp[B];omega) (zT hb hb5.size) ?_;intro v4 w4 hO4 hg4 hb6 hl4;have hb7:=hb6 _ hb5))
  go_ret
  exact⟨_,rfl,by simpa [escM,B,hexD]using hO4,hb7⟩
 ·have hc:c=1:=UInt8.toNat_inj.1 (by simp;omega)
  clear hpc h;subst hc;rw[show(((1:UInt8).toNat:Nat):Int)=1 from rfl];go_enter Tryz.func280,Tryz.ntmps280;go_wp2_with (first
   |(go_at_call 282;refine(c282 _ _ (by decide) (by decide)).mono ?_;rintro e w1⟨rfl,rfl⟩)
   |(at_builtin;refine wp_appB rfl (.tmp 70) (.const (.string ⟨#[92,120]⟩)) rfl rfl rfl HO.out (Src.text _ (B [92,120])) (by simp[B];omega) hb ?_;intro v2 w2 hO2 hg2 hb2 hl2;have hb3:=hb2 _ (zB _ _);have HO2:=zH hO2;clear hO2)
   |(at_builtin;refine wp_appb rfl (.tmp 72) (.tmp 77) rfl 48 rfl rfl HO2.out (by simp[B];omega) (zT hb hb3.size) ?_;intro v3 w3 hO3 hg3 hb4 hl3;have hb5:=hb4 _ hb3;have HO3:=zH hO3;clear hO3)
   |(at_builtin;refine wp_appb rfl (.tmp 79) (.tmp 84) rfl 49 rfl rfl HO3.out (by simp[B];omega) (zT hb hb5.size) ?_;intro v4 w4 hO4 hg4 hb6 hl4;have hb7:=hb6 _ hb5))
  go_ret
  exact⟨_,rfl,by simpa [escM,B,hexD]using hO4,hb7⟩
 ·have hc:c=2:=UInt8.toNat_inj.1 (by simp;omega)
  clear hpc h;subst hc;rw[show(((2:UInt8).toNat:Nat):Int)=2 from rfl];go_enter Tryz.func280,Tryz.ntmps280;go_wp2_with (first
   |(go_at_call 282;refine(c282 _ _ (by decide) (by decide)).mono ?_;rintro e w1⟨rfl,rfl⟩)
   |(at_builtin;refine wp_appB rfl (.tmp 70) (.const (.string ⟨#[92,120]⟩)) rfl rfl rfl HO.out (Src.text _ (B [92,120])) (by simp[B];omega) hb ?_;intro v2 w2 hO2 hg2 hb2 hl2;have hb3:=hb2 _ (zB _ _);have HO2:=zH hO2;clear hO2)
   |(at_builtin;refine wp_appb rfl (.tmp 72) (.tmp 77) rfl 48 rfl rfl HO2.out (by simp[B];omega) (zT hb hb3.size) ?_;intro v3 w3 hO3 hg3 hb4 hl3;have hb5:=hb4 _ hb3;have HO3:=zH hO3;clear hO3)
   |(at_builtin;refine wp_appb rfl (.tmp 79) (.tmp 84) rfl 50 rfl rfl HO3.out (by simp[B];omega) (zT hb hb5.size) ?_;intro v4 w4 hO4 hg4 hb6 hl4;have hb7:=hb6 _ hb5))
  go_ret
  exact⟨_,rfl,by simpa [escM,B,hexD]using hO4,hb7⟩
 ·have hc:c=3:=UInt8.toNat_inj.1 (by simp;omega)
  clear hpc h;subst hc;rw[show(((3:UInt8).toNat:Nat):Int)=3 from rfl];go_enter Tryz.func280,Tryz.ntmps280;go_wp2_with (first
   |(go_at_call 282;refine(c282 _ _ (by decide) (by decide)).mono ?_;rintro e w1⟨rfl,rfl⟩)
   |(at_builtin;refine wp_appB rfl (.tmp 70) (.const (.string ⟨#[92,120]⟩)) rfl rfl rfl HO.out (Src.text _ (B [92,120])) (by simp[B];omega) hb ?_;intro v2 w2 hO2 hg2 hb2 hl2;have hb3:=hb2 _ (zB _ _);have HO2:=zH hO2;clear hO2)
   |(at_builtin;refine wp_appb rfl (.tmp 72) (.tmp 77) rfl 48 rfl rfl HO2.out (by simp[B];omega) (zT hb hb3.size) ?_;intro v3 w3 hO3 hg3 hb4 hl3;have hb5:=hb4 _ hb3;have HO3:=zH hO3;clear hO3)
   |(at_builtin;refine wp_appb rfl (.tmp 79) (.tmp 84) rfl 51 rfl rfl HO3.out (by simp[B];omega) (zT hb hb5.size) ?_;intro v4 w4 hO4 hg4 hb6 hl4;have hb7:=hb6 _ hb5))
  go_ret
  exact⟨_,rfl,by simpa [escM,B,hexD]using hO4,hb7⟩
 ·have hc:c=4:=UInt8.toNat_inj.1 (by simp;omega)
  clear hpc h;subst hc;rw[show(((4:UInt8).toNat:Nat):Int)=4 from rfl];go_enter Tryz.func280,Tryz.ntmps280;go_wp2_with (first
   |(go_at_call 282;refine(c282 _ _ (by decide) (by decide)).mono ?_;rintro e w1⟨rfl,rfl⟩)
   |(at_builtin;refine wp_appB rfl (.tmp 70) (.const (.string ⟨#[92,120]⟩)) rfl rfl rfl HO.out (Src.text _ (B [92,120])) (by simp[B];omega) hb ?_;intro v2 w2 hO2 hg2 hb2 hl2;have hb3:=hb2 _ (zB _ _);have HO2:=zH hO2;clear hO2)
   |(at_builtin;refine wp_appb rfl (.tmp 72) (.tmp 77) rfl 48 rfl rfl HO2.out (by simp[B];omega) (zT hb hb3.size) ?_;intro v3 w3 hO3 hg3 hb4 hl3;have hb5:=hb4 _ hb3;have HO3:=zH hO3;clear hO3)
   |(at_builtin;refine wp_appb rfl (.tmp 79) (.tmp 84) rfl 52 rfl rfl HO3.out (by simp[B];omega) (zT hb hb5.size) ?_;intro v4 w4 hO4 hg4 hb6 hl4;have hb7:=hb6 _ hb5))
  go_ret
  exact⟨_,rfl,by simpa [escM,B,hexD]using hO4,hb7⟩
 ·have hc:c=5:=UInt8.toNat_inj.1 (by simp;omega)
  clear hpc h;subst hc;rw[show(((5:UInt8).toNat:Nat):Int)=5 from rfl];go_enter Tryz.func280,Tryz.ntmps280;go_wp2_with (first
   |(go_at_call 282;refine(c282 _ _ (by decide) (by decide)).mono ?_;rintro e w1⟨rfl,rfl⟩)
   |(at_builtin;refine wp_appB rfl (.tmp 70) (.const (.string ⟨#[92,120]⟩)) rfl rfl rfl HO.out (Src.text _ (B [92,120])) (by simp[B];omega) hb ?_;intro v2 w2 hO2 hg2 hb2 hl2;have hb3:=hb2 _ (zB _ _);have HO2:=zH hO2;clear hO2)
   |(at_builtin;refine wp_appb rfl (.tmp 72) (.tmp 77) rfl 48 rfl rfl HO2.out (by simp[B];omega) (zT hb hb3.size) ?_;intro v3 w3 hO3 hg3 hb4 hl3;have hb5:=hb4 _ hb3;have HO3:=zH hO3;clear hO3)
   |(at_builtin;refine wp_appb rfl (.tmp 79) (.tmp 84) rfl 53 rfl rfl HO3.out (by simp[B];omega) (zT hb hb5.size) ?_;intro v4 w4 hO4 hg4 hb6 hl4;have hb7:=hb6 _ hb5))
  go_ret
  exact⟨_,rfl,by simpa [escM,B,hexD]using hO4,hb7⟩
 ·have hc:c=6:=UInt8.toNat_inj.1 (by simp;omega)
  clear hpc h;subst hc;rw[show(((6:UInt8).toNat:Nat):Int)=6 from rfl];go_enter Tryz.func280,Tryz.ntmps280;go_wp2_with (first
   |(go_at_call 282;refine(c282 _ _ (by decide) (by decide)).mono ?_;rintro e w1⟨rfl,rfl⟩)
   |(at_builtin;refine wp_appB rfl (.tmp 70) (.const (.string ⟨#[92,120]⟩)) rfl rfl rfl HO.out (Src.text _ (B [92,120])) (by simp[B];omega) hb ?_;intro v2 w2 hO2 hg2 hb2 hl2;have hb3:=hb2 _ (zB _ _);have HO2:=zH hO2;clear hO2)
   |(at_builtin;refine wp_appb rfl (.tmp 72) (.tmp 77) rfl 48 rfl rfl HO2.out (by simp[B];omega) (zT hb hb3.size) ?_;intro v3 w3 hO3 hg3 hb4 hl3;have hb5:=hb4 _ hb3;have HO3:=zH hO3;clear hO3)
   |(at_builtin;refine wp_appb rfl (.tmp 79) (.tmp 84) rfl 54 rfl rfl HO3.out (by simp[B];omega) (zT hb hb5.size) ?_;intro v4 w4 hO4 hg4 hb6 hl4;have hb7:=hb6 _ hb5))
  go_ret
  exact⟨_,rfl,by simpa [escM,B,hexD]using hO4,hb7⟩
 ·have hc:c=14:=UInt8.toNat_inj.1 (by simp;omega)
  clear hpc h;subst hc;rw[show(((14:UInt8).toNat:Nat):Int)=14 from rfl];go_enter Tryz.func280,Tryz.ntmps280;go_wp2_with (first
   |(go_at_call 282;refine(c282 _ _ (by decide) (by decide)).mono ?_;rintro e w1⟨rfl,rfl⟩)
   |(at_builtin;refine wp_appB rfl (.tmp 70) (.const (.string ⟨#[92,120]⟩)) rfl rfl rfl HO.out (Src.text _ (B [92,120])) (by simp[B];omega) hb ?_;intro v2 w2 hO2 hg2 hb2 hl2;have hb3:=hb2 _ (zB _ _);have HO2:=zH hO2;clear hO2)
   |(at_builtin;refine wp_appb rfl (.tmp 72) (.tmp 77) rfl 48 rfl rfl HO2.out (by simp[B];omega) (zT hb hb3.size) ?_;intro v3 w3 hO3 hg3 hb4 hl3;have hb5:=hb4 _ hb3;have HO3:=zH hO3;clear hO3)
   |(at_builtin;refine wp_appb rfl (.tmp 79) (.tmp 84) rfl 101 rfl rfl HO3.out (by simp[B];omega) (zT hb hb5.size) ?_;intro v4 w4 hO4 hg4 hb6 hl4;have hb7:=hb6 _ hb5))
  go_ret
  exact⟨_,rfl,by simpa [escM,B,hexD]using hO4,hb7⟩
 ·have hc:c=15:=UInt8.toNat_inj.1 (by simp;omega)
  clear hpc h;subst hc;rw[show(((15:UInt8).toNat:Nat):Int)=15 from rfl];go_enter Tryz.func280,Tryz.ntmps280;go_wp2_with (first
   |(go_at_call 282;refine(c282 _ _ (by decide) (by decide)).mono ?_;rintro e w1⟨rfl,rfl⟩)
   |(at_builtin;refine wp_appB rfl (.tmp 70) (.const (.string ⟨#[92,120]⟩)) rfl rfl rfl HO.out (Src.text _ (B [92,120])) (by simp[B];omega) hb ?_;intro v2 w2 hO2 hg2 hb2 hl2;have hb3:=hb2 _ (zB _ _);have HO2:=zH hO2;clear hO2)
   |(at_builtin;refine wp_appb rfl (.tmp 72) (.tmp 77) rfl 48 rfl rfl HO2.out (by simp[B];omega) (zT hb hb3.size) ?_;intro v3 w3 hO3 hg3 hb4 hl3;have hb5:=hb4 _ hb3;have HO3:=zH hO3;clear hO3)
   |(at_builtin;refine wp_appb rfl (.tmp 79) (.tmp 84) rfl 102 rfl rfl HO3.out (by simp[B];omega) (zT hb hb5.size) ?_;intro v4 w4 hO4 hg4 hb6 hl4;have hb7:=hb6 _ hb5))
  go_ret
  exact⟨_,rfl,by simpa [escM,B,hexD]using hO4,hb7⟩
 ·have hc:c=16:=UInt8.toNat_inj.1 (by simp;omega)
  clear hpc h;subst hc;rw[show(((16:UInt8).toNat:Nat):Int)=16 from rfl];go_enter Tryz.func280,Tryz.ntmps280;go_wp2_with (first
   |(go_at_call 282;refine(c282 _ _ (by decide) (by decide)).mono ?_;rintro e w1⟨rfl,rfl⟩)
   |(at_builtin;refine wp_appB rfl (.tmp 70) (.const (.string ⟨#[92,120]⟩)) rfl rfl rfl HO.out (Src.text _ (B [92,120])) (by simp[B];omega) hb ?_;intro v2 w2 hO2 hg2 hb2 hl2;have hb3:=hb2 _ (zB _ _);have HO2:=zH hO2;clear hO2)
   |(at_builtin;refine wp_appb rfl (.tmp 72) (.tmp 77) rfl 49 rfl rfl HO2.out (by simp[B];omega) (zT hb hb3.size) ?_;intro v3 w3 hO3 hg3 hb4 hl3;have hb5:=hb4 _ hb3;have HO3:=zH hO3;clear hO3)
   |(at_builtin;refine wp_appb rfl (.tmp 79) (.tmp 84) rfl 48 rfl rfl HO3.out (by simp[B];omega) (zT hb hb5.size) ?_;intro v4 w4 hO4 hg4 hb6 hl4;have hb7:=hb6 _ hb5))
  go_ret
  exact⟨_,rfl,by simpa [escM,B,hexD]using hO4,hb7⟩
 ·have hc:c=17:=UInt8.toNat_inj.1 (by simp;omega)
  clear hpc h;subst hc;rw[show(((17:UInt8).toNat:Nat):Int)=17 from rfl];go_enter Tryz.func280,Tryz.ntmps280;go_wp2_with (first
   |(go_at_call 282;refine(c282 _ _ (by decide) (by decide)).mono ?_;rintro e w1⟨rfl,rfl⟩)
   |(at_builtin;refine wp_appB rfl (.tmp 70) (.const (.string ⟨#[92,120]⟩)) rfl rfl rfl HO.out (Src.text _ (B [92,120])) (by simp[B];omega) hb ?_;intro v2 w2 hO2 hg2 hb2 hl2;have hb3:=hb2 _ (zB _ _);have HO2:=zH hO2;clear hO2)
   |(at_builtin;refine wp_appb rfl (.tmp 72) (.tmp 77) rfl 49 rfl rfl HO2.out (by simp[B];omega) (zT hb hb3.size) ?_;intro v3 w3 hO3 hg3 hb4 hl3;have hb5:=hb4 _ hb3;have HO3:=zH hO3;clear hO3)
   |(at_builtin;refine wp_appb rfl (.tmp 79) (.tmp 84) rfl 49 rfl rfl HO3.out (by simp[B];omega) (zT hb hb5.size) ?_;intro v4 w4 hO4 hg4 hb6 hl4;have hb7:=hb6 _ hb5))
  go_ret
  exact⟨_,rfl,by simpa [escM,B,hexD]using hO4,hb7⟩
 ·have hc:c=18:=UInt8.toNat_inj.1 (by simp;omega)
  clear hpc h;subst hc;rw[show(((18:UInt8).toNat:Nat):Int)=18 from rfl];go_enter Tryz.func280,Tryz.ntmps280;go_wp2_with (first
   |(go_at_call 282;refine(c282 _ _ (by decide) (by decide)).mono ?_;rintro e w1⟨rfl,rfl⟩)
   |(at_builtin;refine wp_appB rfl (.tmp 70) (.const (.string ⟨#[92,120]⟩)) rfl rfl rfl HO.out (Src.text _ (B [92,120])) (by simp[B];omega) hb ?_;intro v2 w2 hO2 hg2 hb2 hl2;have hb3:=hb2 _ (zB _ _);have HO2:=zH hO2;clear hO2)
   |(at_builtin;refine wp_appb rfl (.tmp 72) (.tmp 77) rfl 49 rfl rfl HO2.out (by simp[B];omega) (zT hb hb3.size) ?_;intro v3 w3 hO3 hg3 hb4 hl3;have hb5:=hb4 _ hb3;have HO3:=zH hO3;clear hO3)
   |(at_builtin;refine wp_appb rfl (.tmp 79) (.tmp 84) rfl 50 rfl rfl HO3.out (by simp[B];omega) (zT hb hb5.size) ?_;intro v4 w4 hO4 hg4 hb6 hl4;have hb7:=hb6 _ hb5))
  go_ret
  exact⟨_,rfl,by simpa [escM,B,hexD]using hO4,hb7⟩
 ·have hc:c=19:=UInt8.toNat_inj.1 (by simp;omega)
  clear hpc h;subst hc;rw[show(((19:UInt8).toNat:Nat):Int)=19 from rfl];go_enter Tryz.func280,Tryz.ntmps280;go_wp2_with (first
   |(go_at_call 282;refine(c282 _ _ (by decide) (by decide)).mono ?_;rintro e w1⟨rfl,rfl⟩)
   |(at_builtin;refine wp_appB rfl (.tmp 70) (.const (.string ⟨#[92,120]⟩)) rfl rfl rfl HO.out (Src.text _ (B [92,120])) (by simp[B];omega) hb ?_;intro v2 w2 hO2 hg2 hb2 hl2;have hb3:=hb2 _ (zB _ _);have HO2:=zH hO2;clear hO2)
   |(at_builtin;refine wp_appb rfl (.tmp 72) (.tmp 77) rfl 49 rfl rfl HO2.out (by simp[B];omega) (zT hb hb3.size) ?_;intro v3 w3 hO3 hg3 hb4 hl3;have hb5:=hb4 _ hb3;have HO3:=zH hO3;clear hO3)
   |(at_builtin;refine wp_appb rfl (.tmp 79) (.tmp 84) rfl 51 rfl rfl HO3.out (by simp[B];omega) (zT hb hb5.size) ?_;intro v4 w4 hO4 hg4 hb6 hl4;have hb7:=hb6 _ hb5))
  go_ret
  exact⟨_,rfl,by simpa [escM,B,hexD]using hO4,hb7⟩
 ·have hc:c=20:=UInt8.toNat_inj.1 (by simp;omega)
  clear hpc h;subst hc;rw[show(((20:UInt8).toNat:Nat):Int)=20 from rfl];go_enter Tryz.func280,Tryz.ntmps280;go_wp2_with (first
   |(go_at_call 282;refine(c282 _ _ (by decide) (by decide)).mono ?_;rintro e w1⟨rfl,rfl⟩)
   |(at_builtin;refine wp_appB rfl (.tmp 70) (.const (.string ⟨#[92,120]⟩)) rfl rfl rfl HO.out (Src.text _ (B [92,120])) (by simp[B];omega) hb ?_;intro v2 w2 hO2 hg2 hb2 hl2;have hb3:=hb2 _ (zB _ _);have HO2:=zH hO2;clear hO2)
   |(at_builtin;refine wp_appb rfl (.tmp 72) (.tmp 77) rfl 49 rfl rfl HO2.out (by simp[B];omega) (zT hb hb3.size) ?_;intro v3 w3 hO3 hg3 hb4 hl3;have hb5:=hb4 _ hb3;have HO3:=zH hO3;clear hO3)
   |(at_builtin;refine wp_appb rfl (.tmp 79) (.tmp 84) rfl 52 rfl rfl HO3.out (by simp[B];omega) (zT hb hb5.size) ?_;intro v4 w4 hO4 hg4 hb6 hl4;have hb7:=hb6 _ hb5))
  go_ret
  exact⟨_,rfl,by simpa [escM,B,hexD]using hO4,hb7⟩
 ·have hc:c=21:=UInt8.toNat_inj.1 (by simp;omega)
  clear hpc h;subst hc;rw[show(((21:UInt8).toNat:Nat):Int)=21 from rfl];go_enter Tryz.func280,Tryz.ntmps280;go_wp2_with (first
   |(go_at_call 282;refine(c282 _ _ (by decide) (by decide)).mono ?_;rintro e w1⟨rfl,rfl⟩)
   |(at_builtin;refine wp_appB rfl (.tmp 70) (.const (.string ⟨#[92,120]⟩)) rfl rfl rfl HO.out (Src.text _ (B [92,120])) (by simp[B];omega) hb ?_;intro v2 w2 hO2 hg2 hb2 hl2;have hb3:=hb2 _ (zB _ _);have HO2:=zH hO2;clear hO2)
   |(at_builtin;refine wp_appb rfl (.tmp 72) (.tmp 77) rfl 49 rfl rfl HO2.out (by simp[B];omega) (zT hb hb3.size) ?_;intro v3 w3 hO3 hg3 hb4 hl3;have hb5:=hb4 _ hb3;have HO3:=zH hO3;clear hO3)
   |(at_builtin;refine wp_appb rfl (.tmp 79) (.tmp 84) rfl 53 rfl rfl HO3.out (by simp[B];omega) (zT hb hb5.size) ?_;intro v4 w4 hO4 hg4 hb6 hl4;have hb7:=hb6 _ hb5))
  go_ret
  exact⟨_,rfl,by simpa [escM,B,hexD]using hO4,hb7⟩
 ·have hc:c=22:=UInt8.toNat_inj.1 (by simp;omega)
  clear hpc h;subst hc;rw[show(((22:UInt8).toNat:Nat):Int)=22 from rfl];go_enter Tryz.func280,Tryz.ntmps280;go_wp2_with (first
   |(go_at_call 282;refine(c282 _ _ (by decide) (by decide)).mono ?_;rintro e w1⟨rfl,rfl⟩)
   |(at_builtin;refine wp_appB rfl (.tmp 70) (.const (.string ⟨#[92,120]⟩)) rfl rfl rfl HO.out (Src.text _ (B [92,120])) (by simp[B];omega) hb ?_;intro v2 w2 hO2 hg2 hb2 hl2;have hb3:=hb2 _ (zB _ _);have HO2:=zH hO2;clear hO2)
   |(at_builtin;refine wp_appb rfl (.tmp 72) (.tmp 77) rfl 49 rfl rfl HO2.out (by simp[B];omega) (zT hb hb3.size) ?_;intro v3 w3 hO3 hg3 hb4 hl3;have hb5:=hb4 _ hb3;have HO3:=zH hO3;clear hO3)
   |(at_builtin;refine wp_appb rfl (.tmp 79) (.tmp 84) rfl 54 rfl rfl HO3.out (by simp[B];omega) (zT hb hb5.size) ?_;intro v4 w4 hO4 hg4 hb6 hl4;have hb7:=hb6 _ hb5))
  go_ret
  exact⟨_,rfl,by simpa [escM,B,hexD]using hO4,hb7⟩
 ·have hc:c=23:=UInt8.toNat_inj.1 (by simp;omega)
  clear hpc h;subst hc;rw[show(((23:UInt8).toNat:Nat):Int)=23 from rfl];go_enter Tryz.func280,Tryz.ntmps280;go_wp2_with (first
   |(go_at_call 282;refine(c282 _ _ (by decide) (by decide)).mono ?_;rintro e w1⟨rfl,rfl⟩)
   |(at_builtin;refine wp_appB rfl (.tmp 70) (.const (.string ⟨#[92,120]⟩)) rfl rfl rfl HO.out (Src.text _ (B [92,120])) (by simp[B];omega) hb ?_;intro v2 w2 hO2 hg2 hb2 hl2;have hb3:=hb2 _ (zB _ _);have HO2:=zH hO2;clear hO2)
   |(at_builtin;refine wp_appb rfl (.tmp 72) (.tmp 77) rfl 49 rfl rfl HO2.out (by simp[B];omega) (zT hb hb3.size) ?_;intro v3 w3 hO3 hg3 hb4 hl3;have hb5:=hb4 _ hb3;have HO3:=zH hO3;clear hO3)
   |(at_builtin;refine wp_appb rfl (.tmp 79) (.tmp 84) rfl 55 rfl rfl HO3.out (by simp[B];omega) (zT hb hb5.size) ?_;intro v4 w4 hO4 hg4 hb6 hl4;have hb7:=hb6 _ hb5))
  go_ret
  exact⟨_,rfl,by simpa [escM,B,hexD]using hO4,hb7⟩
 ·have hc:c=24:=UInt8.toNat_inj.1 (by simp;omega)
  clear hpc h;subst hc;rw[show(((24:UInt8).toNat:Nat):Int)=24 from rfl];go_enter Tryz.func280,Tryz.ntmps280;go_wp2_with (first
   |(go_at_call 282;refine(c282 _ _ (by decide) (by decide)).mono ?_;rintro e w1⟨rfl,rfl⟩)
   |(at_builtin;refine wp_appB rfl (.tmp 70) (.const (.string ⟨#[92,120]⟩)) rfl rfl rfl HO.out (Src.text _ (B [92,120])) (by simp[B];omega) hb ?_;intro v2 w2 hO2 hg2 hb2 hl2;have hb3:=hb2 _ (zB _ _);have HO2:=zH hO2;clear hO2)
   |(at_builtin;refine wp_appb rfl (.tmp 72) (.tmp 77) rfl 49 rfl rfl HO2.out (by simp[B];omega) (zT hb hb3.size) ?_;intro v3 w3 hO3 hg3 hb4 hl3;have hb5:=hb4 _ hb3;have HO3:=zH hO3;clear hO3)
   |(at_builtin;refine wp_appb rfl (.tmp 79) (.tmp 84) rfl 56 rfl rfl HO3.out (by simp[B];omega) (zT hb hb5.size) ?_;intro v4 w4 hO4 hg4 hb6 hl4;have hb7:=hb6 _ hb5))
  go_ret
  exact⟨_,rfl,by simpa [escM,B,hexD]using hO4,hb7⟩
 ·have hc:c=25:=UInt8.toNat_inj.1 (by simp;omega)
  clear hpc h;subst hc;rw[show(((25:UInt8).toNat:Nat):Int)=25 from rfl];go_enter Tryz.func280,Tryz.ntmps280;go_wp2_with (first
   |(go_at_call 282;refine(c282 _ _ (by decide) (by decide)).mono ?_;rintro e w1⟨rfl,rfl⟩)
   |(at_builtin;refine wp_appB rfl (.tmp 70) (.const (.string ⟨#[92,120]⟩)) rfl rfl rfl HO.out (Src.text _ (B [92,120])) (by simp[B];omega) hb ?_;intro v2 w2 hO2 hg2 hb2 hl2;have hb3:=hb2 _ (zB _ _);have HO2:=zH hO2;clear hO2)
   |(at_builtin;refine wp_appb rfl (.tmp 72) (.tmp 77) rfl 49 rfl rfl HO2.out (by simp[B];omega) (zT hb hb3.size) ?_;intro v3 w3 hO3 hg3 hb4 hl3;have hb5:=hb4 _ hb3;have HO3:=zH hO3;clear hO3)
   |(at_builtin;refine wp_appb rfl (.tmp 79) (.tmp 84) rfl 57 rfl rfl HO3.out (by simp[B];omega) (zT hb hb5.size) ?_;intro v4 w4 hO4 hg4 hb6 hl4;have hb7:=hb6 _ hb5))
  go_ret
  exact⟨_,rfl,by simpa [escM,B,hexD]using hO4,hb7⟩
 ·have hc:c=26:=UInt8.toNat_inj.1 (by simp;omega)
  clear hpc h;subst hc;rw[show(((26:UInt8).toNat:Nat):Int)=26 from rfl];go_enter Tryz.func280,Tryz.ntmps280;go_wp2_with (first
   |(go_at_call 282;refine(c282 _ _ (by decide) (by decide)).mono ?_;rintro e w1⟨rfl,rfl⟩)
   |(at_builtin;refine wp_appB rfl (.tmp 70) (.const (.string ⟨#[92,120]⟩)) rfl rfl rfl HO.out (Src.text _ (B [92,120])) (by simp[B];omega) hb ?_;intro v2 w2 hO2 hg2 hb2 hl2;have hb3:=hb2 _ (zB _ _);have HO2:=zH hO2;clear hO2)
   |(at_builtin;refine wp_appb rfl (.tmp 72) (.tmp 77) rfl 49 rfl rfl HO2.out (by simp[B];omega) (zT hb hb3.size) ?_;intro v3 w3 hO3 hg3 hb4 hl3;have hb5:=hb4 _ hb3;have HO3:=zH hO3;clear hO3)
   |(at_builtin;refine wp_appb rfl (.tmp 79) (.tmp 84) rfl 97 rfl rfl HO3.out (by simp[B];omega) (zT hb hb5.size) ?_;intro v4 w4 hO4 hg4 hb6 hl4;have hb7:=hb6 _ hb5))
  go_ret
  exact⟨_,rfl,by simpa [escM,B,hexD]using hO4,hb7⟩
 ·have hc:c=27:=UInt8.toNat_inj.1 (by simp;omega)
  clear hpc h;subst hc;rw[show(((27:UInt8).toNat:Nat):Int)=27 from rfl];go_enter Tryz.func280,Tryz.ntmps280;go_wp2_with (first
   |(go_at_call 282;refine(c282 _ _ (by decide) (by decide)).mono ?_;rintro e w1⟨rfl,rfl⟩)
   |(at_builtin;refine wp_appB rfl (.tmp 70) (.const (.string ⟨#[92,120]⟩)) rfl rfl rfl HO.out (Src.text _ (B [92,120])) (by simp[B];omega) hb ?_;intro v2 w2 hO2 hg2 hb2 hl2;have hb3:=hb2 _ (zB _ _);have HO2:=zH hO2;clear hO2)
   |(at_builtin;refine wp_appb rfl (.tmp 72) (.tmp 77) rfl 49 rfl rfl HO2.out (by simp[B];omega) (zT hb hb3.size) ?_;intro v3 w3 hO3 hg3 hb4 hl3;have hb5:=hb4 _ hb3;have HO3:=zH hO3;clear hO3)
   |(at_builtin;refine wp_appb rfl (.tmp 79) (.tmp 84) rfl 98 rfl rfl HO3.out (by simp[B];omega) (zT hb hb5.size) ?_;intro v4 w4 hO4 hg4 hb6 hl4;have hb7:=hb6 _ hb5))
  go_ret
  exact⟨_,rfl,by simpa [escM,B,hexD]using hO4,hb7⟩
 ·have hc:c=28:=UInt8.toNat_inj.1 (by simp;omega)
  clear hpc h;subst hc;rw[show(((28:UInt8).toNat:Nat):Int)=28 from rfl];go_enter Tryz.func280,Tryz.ntmps280;go_wp2_with (first
   |(go_at_call 282;refine(c282 _ _ (by decide) (by decide)).mono ?_;rintro e w1⟨rfl,rfl⟩)
   |(at_builtin;refine wp_appB rfl (.tmp 70) (.const (.string ⟨#[92,120]⟩)) rfl rfl rfl HO.out (Src.text _ (B [92,120])) (by simp[B];omega) hb ?_;intro v2 w2 hO2 hg2 hb2 hl2;have hb3:=hb2 _ (zB _ _);have HO2:=zH hO2;clear hO2)
   |(at_builtin;refine wp_appb rfl (.tmp 72) (.tmp 77) rfl 49 rfl rfl HO2.out (by simp[B];omega) (zT hb hb3.size) ?_;intro v3 w3 hO3 hg3 hb4 hl3;have hb5:=hb4 _ hb3;have HO3:=zH hO3;clear hO3)
   |(at_builtin;refine wp_appb rfl (.tmp 79) (.tmp 84) rfl 99 rfl rfl HO3.out (by simp[B];omega) (zT hb hb5.size) ?_;intro v4 w4 hO4 hg4 hb6 hl4;have hb7:=hb6 _ hb5))
  go_ret
  exact⟨_,rfl,by simpa [escM,B,hexD]using hO4,hb7⟩
 ·have hc:c=29:=UInt8.toNat_inj.1 (by simp;omega)
  clear hpc h;subst hc;rw[show(((29:UInt8).toNat:Nat):Int)=29 from rfl];go_enter Tryz.func280,Tryz.ntmps280;go_wp2_with (first
   |(go_at_call 282;refine(c282 _ _ (by decide) (by decide)).mono ?_;rintro e w1⟨rfl,rfl⟩)
   |(at_builtin;refine wp_appB rfl (.tmp 70) (.const (.string ⟨#[92,120]⟩)) rfl rfl rfl HO.out (Src.text _ (B [92,120])) (by simp[B];omega) hb ?_;intro v2 w2 hO2 hg2 hb2 hl2;have hb3:=hb2 _ (zB _ _);have HO2:=zH hO2;clear hO2)
   |(at_builtin;refine wp_appb rfl (.tmp 72) (.tmp 77) rfl 49 rfl rfl HO2.out (by simp[B];omega) (zT hb hb3.size) ?_;intro v3 w3 hO3 hg3 hb4 hl3;have hb5:=hb4 _ hb3;have HO3:=zH hO3;clear hO3)
   |(at_builtin;refine wp_appb rfl (.tmp 79) (.tmp 84) rfl 100 rfl rfl HO3.out (by simp[B];omega) (zT hb hb5.size) ?_;intro v4 w4 hO4 hg4 hb6 hl4;have hb7:=hb6 _ hb5))
  go_ret
  exact⟨_,rfl,by simpa [escM,B,hexD]using hO4,hb7⟩
 ·have hc:c=30:=UInt8.toNat_inj.1 (by simp;omega)
  clear hpc h;subst hc;rw[show(((30:UInt8).toNat:Nat):Int)=30 from rfl];go_enter Tryz.func280,Tryz.ntmps280;go_wp2_with (first
   |(go_at_call 282;refine(c282 _ _ (by decide) (by decide)).mono ?_;rintro e w1⟨rfl,rfl⟩)
   |(at_builtin;refine wp_appB rfl (.tmp 70) (.const (.string ⟨#[92,120]⟩)) rfl rfl rfl HO.out (Src.text _ (B [92,120])) (by simp[B];omega) hb ?_;intro v2 w2 hO2 hg2 hb2 hl2;have hb3:=hb2 _ (zB _ _);have HO2:=zH hO2;clear hO2)
   |(at_builtin;refine wp_appb rfl (.tmp 72) (.tmp 77) rfl 49 rfl rfl HO2.out (by simp[B];omega) (zT hb hb3.size) ?_;intro v3 w3 hO3 hg3 hb4 hl3;have hb5:=hb4 _ hb3;have HO3:=zH hO3;clear hO3)
   |(at_builtin;refine wp_appb rfl (.tmp 79) (.tmp 84) rfl 101 rfl rfl HO3.out (by simp[B];omega) (zT hb hb5.size) ?_;intro v4 w4 hO4 hg4 hb6 hl4;have hb7:=hb6 _ hb5))
  go_ret
  exact⟨_,rfl,by simpa [escM,B,hexD]using hO4,hb7⟩
 ·have hc:c=31:=UInt8.toNat_inj.1 (by simp;omega)
  clear hpc h;subst hc;rw[show(((31:UInt8).toNat:Nat):Int)=31 from rfl];go_enter Tryz.func280,Tryz.ntmps280;go_wp2_with (first
   |(go_at_call 282;refine(c282 _ _ (by decide) (by decide)).mono ?_;rintro e w1⟨rfl,rfl⟩)
   |(at_builtin;refine wp_appB rfl (.tmp 70) (.const (.string ⟨#[92,120]⟩)) rfl rfl rfl HO.out (Src.text _ (B [92,120])) (by simp[B];omega) hb ?_;intro v2 w2 hO2 hg2 hb2 hl2;have hb3:=hb2 _ (zB _ _);have HO2:=zH hO2;clear hO2)
   |(at_builtin;refine wp_appb rfl (.tmp 72) (.tmp 77) rfl 49 rfl rfl HO2.out (by simp[B];omega) (zT hb hb3.size) ?_;intro v3 w3 hO3 hg3 hb4 hl3;have hb5:=hb4 _ hb3;have HO3:=zH hO3;clear hO3)
   |(at_builtin;refine wp_appb rfl (.tmp 79) (.tmp 84) rfl 102 rfl rfl HO3.out (by simp[B];omega) (zT hb hb5.size) ?_;intro v4 w4 hO4 hg4 hb6 hl4;have hb7:=hb6 _ hb5))
  go_ret
  exact⟨_,rfl,by simpa [escM,B,hexD]using hO4,hb7⟩
 have hc:c=127:=UInt8.toNat_inj.1 (by simp;omega);clear hpc h;subst hc;rw[show(((127:UInt8).toNat:Nat):Int)=127 from rfl];go_enter Tryz.func280,Tryz.ntmps280;go_wp2_with (first
  |(go_at_call 282;refine(c282 _ _ (by decide) (by decide)).mono ?_;rintro e w1⟨rfl,rfl⟩)
  |(at_builtin;refine wp_appB rfl (.tmp 70) (.const (.string ⟨#[92,120]⟩)) rfl rfl rfl HO.out (Src.text _ (B [92,120])) (by simp[B];omega) hb ?_;intro v2 w2 hO2 hg2 hb2 hl2;have hb3:=hb2 _ (zB _ _);have HO2:=zH hO2;clear hO2)
  |(at_builtin;refine wp_appb rfl (.tmp 72) (.tmp 77) rfl 55 rfl rfl HO2.out (by simp[B];omega) (zT hb hb3.size) ?_;intro v3 w3 hO3 hg3 hb4 hl3;have hb5:=hb4 _ hb3;have HO3:=zH hO3;clear hO3)
  |(at_builtin;refine wp_appb rfl (.tmp 79) (.tmp 84) rfl 102 rfl rfl HO3.out (by simp[B];omega) (zT hb hb5.size) ?_;intro v4 w4 hO4 hg4 hb6 hl4;have hb7:=hb6 _ hb5))
 go_ret
 exact⟨_,rfl,by simpa [escM,B,hexD]using hO4,hb7⟩
end Go.Proofs.YtnkihlpmmfeioaaGreatDoor
