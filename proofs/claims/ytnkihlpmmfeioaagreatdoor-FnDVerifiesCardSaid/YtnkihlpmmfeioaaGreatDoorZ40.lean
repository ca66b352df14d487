/- Part of the proof that laws.FnDVerifies answers true: A100,A101,A102 -/
import Derived.Test.YtnkihlpmmfeioaaGreatDoorZ39
set_option linter.unusedVariables false
set_option linter.unusedSimpArgs false
set_option maxRecDepth 1000000
set_option maxHeartbeats 16000000
namespace Go.Proofs.YtnkihlpmmfeioaaGreatDoor
open Go.RowKit
theorem judgeK_eq(fields:List (List UInt8))(body field:List UInt8)(T:List Pair)(K:Key):judgeK fields body field T K=if(cutF 45 (algOf T) && (hashOk (cutZ 45 (algOf T)) K && (cutZ 45 (algOf T) == sha256L && (cutA 45 (algOf T) == K.kind) && servOk K)))=true then judgeF fields body field T K else 2:=by
 unfold judgeK algOk hashOk servOk judgeF;simp only[Bool.and_assoc];exact bool_flip _ _ _
theorem c73q(v:Value)(xs:List Rec)(n:List UInt8)(w:World)(hv:RdR w v xs):Calls Tryz.prog 73 #[v,.string (B n)] w fun e w'=>e=.returned (.tuple #[.string (B (askT n xs)),.int .i64 (askC n xs)])/\Below w.heap.size w w':=by
 have:=c73 v xs (B n) w hv;rw[L_B]at this;exact this
theorem keyM_pos{T:List Pair}{K:Key}(h:keyM T=some K):0 < K.bytes.length:=by
 revert h;unfold keyM;split
 ·intro h;cases h
 cases hq:unb64 (bare (valOf [112] T))with
 |none=>intro h;cases h
 |some b =>
  intro h;simp only at h;split at h
  ·rename_i hc
   injection h with h
   subst h;obtain⟨_,_,hk,hb⟩:=hc;rcases hk with hk|hk
   ·rw[hk,bits_rsa,decide_eq_false_iff_not]at hb;simp only;omega
   rw[hk,bits_ed]at hb;simp at hb;simp only;omega
  cases h
theorem readM_pos{l:List UInt8}{K:Key}(h:readM l=some K):0 < K.bytes.length:=by
 rw[readM_pm]at h;cases hp:pmM (split 59 l) []with
 |none=>rw[hp]at h;cases h
 |some T=>rw[hp]at h;exact keyM_pos h
theorem b45_20_26(ct:Code)(h:ct=tlS B45 26):tlS B45 20=joinS 6 (tlS B45 20) ct:=by subst h;kernel_rfl
theorem u20(F:Nat->Value)(ct:Code)(hct:ct=tlS B45 20)(R:Ending->World->Prop)(w0 w:World){fv rv:Value}{fields:List (List UInt8)}{recs:List Rec}{body field:List UInt8}{now:Int}{r v:Nat}{T:List Pair}(hZ:Hid (SZ w0 fv rv fields recs body field))(hb:Below w0.heap.size w0 w)(hrl:w0.heap.size<=r)(hvl:w0.heap.size<=v)(hne:¬r=v)(hr:Hid (Blk w r #[.string ⟨#[]⟩,.string ⟨#[]⟩,.slice none 0 0,.int .i64 0,.int .i64 0,.int .i64 0] 47))(hT:Hid (∀t,(valOf t T).length<=20000))(h0:F 0=fv)(h1:F 1=.string (B body))(h2:F 2=.string (B field))(h3:F 3=rv)(h4:F 4=.int .i64 now)(h10:F 10=.pointer (some ⟨r,0,none⟩))(h11:F 11=.pointer (some ⟨v,0,none⟩))
  {tn xn:Int}(htn:Hid (tn=(timeOf [116] T).getD 0))(hxn:Hid (xn=(timeOf [120] T).getD 0)){AK:Option Addr}{cK:Nat}(hkey:Hid (RdS w (.slice AK (keysOf T).length cK) (keysOf T)))(hak:Hid (∀a,AK=some a->w0.heap.size<=a.block/\a.block < w.heap.size/\a.block≠r/\a.block≠v)){bP:Nat}{tv:Value}(h15:F 15=tv)(hP:Hid (OwnP w bP tv T))(hPl:T.length<=1152921504606846976)(hv:Hid (Blk w v #[.string (B (domOf T)),.string (B (identOf T)),(.slice AK (keysOf T).length cK),.int .i64 tn,.int .i64 xn,.int .i64 2] 47))(hR:∀e w',JudP w0 w' e (judgeA fields body field recs T) T->R e w') :
  Code.wp Tryz.prog ct (bodyPost Tryz.prog Tryz.f45 R) ⟨frS 398 F,[]⟩ w:=by
 obtain⟨ct2,hct2⟩:∃ct2,Hid (ct2=tlS B45 26):=⟨_,rfl⟩;subst hct;rw[b45_20_26 ct2 hct2.out];conv=>arg 2;whnf
 simp only[joinS];rw[fr398,h0,h1,h2,h3,h4,h10,h11,h15];have HR:=zH hR;clear hR;have HRP:=zH (hP.out.rdP hPl);obtain⟨v1,hv1⟩:∃v1,Hid (valOf [115] T=v1):=⟨_,rfl⟩;obtain⟨v2,hv2⟩:∃v2,Hid (valOf [97] T=v2):=⟨_,rfl⟩;obtain⟨s2,hs2⟩:∃s2,Hid (strip v2=s2):=⟨_,rfl⟩;have m1:v2.length<=20000:=by rw[<-hv2.out];exact hT.out _
 have m2:s2.length<=20000:=by rw[<-hs2.out];exact zT (strip_le _) m1
 have hag:algOf T=s2:=by unfold algOf;rw[hv2.out,hs2.out]
 have HAG:=zH hag;have l1:v1.length<=20000:=by rw[<-hv1.out];exact hT.out _
 have l2:=strip_le v1;have l3:(domOf T).length<=20000:=zT (strip_le _) (hT.out [100]);have hap1:=BapC (strip v1) #[46,95,100,111,109,97,105,110,107,101,121,46];have hap2:=Bap (strip v1++domkeyL) (domOf T);rw[List.append_assoc]at hap2;have hnm:nameOf T=strip v1++(domkeyL++domOf T):=by unfold nameOf;rw[hv1.out]
 rw[<-hnm]at hap2;rw[show(#[46,95,100,111,109,97,105,110,107,101,121,46]:Array UInt8).toList=domkeyL from rfl]at hap1;go_upto_region 50 with(go_at_call 33;refine(c33q tv T [115] _ rfl _ HRP.out).mono ?_;rintro e wx⟨rfl,rfl⟩;rw[hv1.out])
 have kd0:=cell_regrown (hv.out.cell 0);have HRR:Hid (∀d os,RdR (Go.Sort.grow (redrawn w d) os) rv recs):=fun d os=>(hZ.out.rcs.below hb).below (below_regrown w d os)
 have hsz1:¬9223372036854775807 < (B (strip v1)).size+12:=by rw[size_B];omega
 have hsz2:¬9223372036854775807 < (B (strip v1++domkeyL)).size+(B (domOf T)).size:=by rw[size_B,size_B,zA,show domkeyL.length=12 from rfl];omega
 clear hnm hag;refine wp_region_quiet_below (by kernel_rfl) (by kernel_rfl) ?_;repeat(quiet_step (first
  |(go_at_call 50;exact Calls.regrown_of (c50p v1 _ (by rw[size_B];omega)))
  |(go_at_call 73;exact Calls.regrown_of (c73q rv recs (nameOf T) _ (HRR.out _ _)))))
 refine wpQuiet_nil ?_;intro _ hw';obtain⟨⟨dq,osq⟩,hw''⟩:=hw';subst hw'';have hB1:=below_regrown w dq osq;obtain⟨U,hU⟩:∃U,U=Go.Sort.grow (redrawn w dq) osq:=⟨_,rfl⟩;rw[<-hU]at hB1 ⊢;clear hU kd0 HRR hsz1 hsz2 hap1 hap2;have hbU:=hb.trans (hB1.mono hb.size);have hrU:Hid (Blk U r #[.string ⟨#[]⟩,.string ⟨#[]⟩,.slice none 0 0,.int .i64 0,.int .i64 0,.int .i64 0] 47):=hr.out.below hB1 hr.out.lt;have hvU:Hid (Blk U v #[.string (B (domOf T)),.string (B (identOf T)),(.slice AK (keysOf T).length cK),.int .i64 tn,.int .i64 xn,.int .i64 2] 47):=hv.out.below hB1 hv.out.lt;have hkU:=zH (hkey.out.below hB1);have hakU:Hid (∀a,AK=some a->w0.heap.size<=a.block/\a.block < U.heap.size/\a.block≠r/\a.block≠v):=fun a q=>⟨(hak.out a q).1,zL (hak.out a q).2.1 hB1.size,(hak.out a q).2.2⟩
 have hPU:=zH (hP.out.below hB1);unfold judgeA at HR;have hal:=ask_le hZ.out.rl (nameOf T);obtain⟨tx,htx⟩:∃tx,Hid (askT (nameOf T) recs=tx):=⟨_,rfl⟩;obtain⟨ac,hac⟩:∃ac,Hid (askC (nameOf T) recs=ac):=⟨_,rfl⟩;rw[htx.out,hac.out]at HR ⊢;rw[htx.out]at hal;by_cases h0:ac=0
 ·subst h0
  rw[if_pos rfl]at HR;cases hm:readM tx with
  |none =>
   rw[hm]at HR;have HM:=zH hm;clear hm;go_wp2_with (first
    |(go_at_call 74;refine(c74 (B tx) _ (by rw[size_B];omega)).mono ?_;rintro e w2⟨kv,rfl,hz,_,hB2⟩;rw[L_B]at hz;obtain rfl:=hz HM.out;rw[L_B,HM.out];have hPV:=zH ((hPU.out.below hB2).below ((zB _ _).alloc (zR _) (.cells #[.string ⟨#[]⟩,.slice none 0 0,.int .i64 0,.slice none 0 0,.slice none 0 0,.slice none 0 0,.string ⟨#[]⟩,.bool false,.bool false] 129)));have hRPV:=hPV.out.rdP hPl)
    |(go_at_call 33;refine(c33q tv T [97] _ rfl _ hRPV).mono ?_;rintro e wx⟨rfl,rfl⟩;rw[hv2.out])
    |(go_at_call 50;refine(c50p v2 _ (by rw[size_B];omega)).mono ?_;rintro e w3⟨rfl,hb3⟩;rw[hs2.out])
    |(go_at_call 55;refine(c55p s2 _ _ (by rw[size_B];omega)).mono ?_;rintro e w4⟨rfl,hb4⟩))
   have hA:Below U.heap.size U (w2.alloc (.cells #[.string ⟨#[]⟩,.slice none 0 0,.int .i64 0,.slice none 0 0,.slice none 0 0,.slice none 0 0,.string ⟨#[]⟩,.bool false,.bool false] 129)):=hB2.alloc hB2.size _;have hB4:=hA.trans ((hb3.trans (hb4.mono hb3.size)).mono hA.size);refine useF 398 _ (by kernel_rfl) ?_;exact u26n _ ct2 hct2.out R w0 w4 hZ (hbU.trans (hB4.mono hbU.size)) hrl hvl hne (zH (hrU.out.below hB4 hrU.out.lt)) hT rfl rfl rfl rfl rfl rfl rfl htn hxn (zH (hkU.out.below hB4)) (zH (fun a q=>⟨(hakU.out a q).1,zL (hakU.out a q).2.1 hB4.size,(hakU.out a q).2.2⟩)) rfl (zH (hvU.out.below hB4 hvU.out.lt)) HR.out
  |some K =>
   rw[hm]at HR
   replace HR:Hid (∀e w',JudP w0 w' e (judgeK fields body field T K) T->R e w'):=HR.out
   rw[judgeK_eq,HAG.out]at HR;have HM:=zH hm;have hkl:0 < K.bytes.length/\K.bytes.length<=536870912:=⟨readM_pos hm,by have:=readM_le hm;omega⟩;have hkx:(∀xs,K.hashes=some xs->xs.length<=1152921504606846976)/\∀xs,K.services=some xs->xs.length<=1152921504606846976:=by
    have h5:=readM_lists hm;exact⟨fun xs q=>by have:=h5.1 xs q;omega,fun xs q=>by have:=h5.2 xs q;omega⟩
   have hx1:(K.hashes.getD []).length<=1152921504606846976:=by cases hq:K.hashes with|none=>simp|some xs=>exact hkx.1 xs hq
   have hx2:(K.services.getD []).length<=1152921504606846976:=by cases hq:K.services with|none=>simp|some xs=>exact hkx.2 xs hq
   obtain⟨ka,hka⟩:∃ka,Hid (cutA 45 s2=ka):=⟨_,rfl⟩;obtain⟨hh,hhh⟩:∃hh,Hid (cutZ 45 s2=hh):=⟨_,rfl⟩;obtain⟨cf,hcf⟩:∃cf,Hid (cutF 45 s2=cf):=⟨_,rfl⟩;rw[hka.out,hhh.out,hcf.out]at HR;clear hm hkx;go_wp2_with (first
    |(go_at_call 74;refine(c74 (B tx) _ (by rw[size_B];omega)).mono ?_;rintro e w2⟨kv,rfl,_,hky,hB2⟩;rw[L_B]at hky;obtain⟨bv,bi,hv2',sv2,Af,nf,cff,nt,rfl,hRB,hbA,hOh,hOs⟩:=hky K HM.out;rw[L_B,HM.out];obtain⟨Ab,cb,rfl,_⟩:=id hRB;obtain⟨Ah,ch,he1,_⟩:=hOh.slice;rw[List.length_map]at he1;subst he1;obtain⟨As,cs,he2,_⟩:=hOs.slice;rw[List.length_map]at he2;subst he2;have hPV:=zH ((hPU.out.below hB2).below ((zB _ _).alloc (zR _) (.cells #[.string (B K.kind),.slice Ab K.bytes.length cb,.int .i64 bi,.slice Ah (K.hashes.getD []).length ch,.slice As (K.services.getD []).length cs,.slice Af nf cff,.string nt,.bool K.hashes.isNone,.bool K.services.isNone] 129)));have hRPV:=hPV.out.rdP hPl)
    |(go_at_call 33;refine(c33q tv T [97] _ rfl _ hRPV).mono ?_;rintro e wx⟨rfl,rfl⟩;rw[hv2.out])
    |(go_at_call 50;refine(c50p v2 _ (by rw[size_B];omega)).mono ?_;rintro e w3⟨rfl,hb3⟩;rw[hs2.out])
    |(go_at_call 55;refine(c55p s2 _ _ (by rw[size_B];omega)).mono ?_;rintro e w4⟨rfl,hb4⟩;rw[hka.out,hhh.out,hcf.out]))
   have hA:Below U.heap.size U (w2.alloc (.cells #[.string (B K.kind),.slice Ab K.bytes.length cb,.int .i64 bi,.slice Ah (K.hashes.getD []).length ch,.slice As (K.services.getD []).length cs,.slice Af nf cff,.string nt,.bool K.hashes.isNone,.bool K.services.isNone] 129)):=hB2.alloc hB2.size _;have hbN:=Blk.new w2 #[.string (B K.kind),.slice Ab K.bytes.length cb,.int .i64 bi,.slice Ah (K.hashes.getD []).length ch,.slice As (K.services.getD []).length cs,.slice Af nf cff,.string nt,.bool K.hashes.isNone,.bool K.services.isNone] 129;have hb34:=hb3.trans (hb4.mono hb3.size);have hB4:=hA.trans (hb34.mono hA.size);have hB24:Below w2.heap.size w2 w4:=((zB _ _).alloc (zR _) _).trans (hb34.mono (by simp));have hvlt:=hvU.out.lt;have hs12:=hB2.size;refine useF 398 _ (by kernel_rfl) ?_;exact u26 _ ct2 hct2.out R w0 w4 hZ (hbU.trans (hB4.mono hbU.size)) hrl hvl hne (zH (hrU.out.below hB4 hrU.out.lt)) hT rfl rfl rfl rfl rfl rfl rfl ka hh cf htn hxn (zH (hkU.out.below hB4)) (zH (fun a q=>⟨(hakU.out a q).1,zL (hakU.out a q).2.1 hB4.size,(hakU.out a q).2.2⟩)) rfl (zH (hPU.out.below hB4)) hPl rfl rfl rfl rfl rfl (zH (hbN.below hb34 hbN.lt)) (zH ((hOh.rdS hx1).below hB24)) (zH ((hOs.rdS hx2).below hB24)) (zH (hRB.below' hB24)) hkl (by omega) (fun g o n c he=>by have:=hbA g o n c he;omega) (zH (hvU.out.below hB4 hvU.out.lt)) HR.out
 rw[if_neg h0]at HR;have q5:=hvU.out.cell 5;have g5:=hvU.out.frozen 5;go_upto_region 53 with fail
 have hvV:Hid (Blk (U.setCell ⟨v,5,none⟩ (.int .i64 ac)) v #[.string (B (domOf T)),.string (B (identOf T)),(.slice AK (keysOf T).length cK),.int .i64 tn,.int .i64 xn,.int .i64 ac] 47):=(hvU.out.set_ 5 _).to (by simp);have hrV:Hid (Blk (U.setCell ⟨v,5,none⟩ (.int .i64 ac)) r #[.string ⟨#[]⟩,.string ⟨#[]⟩,.slice none 0 0,.int .i64 0,.int .i64 0,.int .i64 0] 47):=hrU.out.setNe hne;have hbV:=belowB_set (u:=.int .i64 ac) (k:=5) hbU hvl hbU.size;have hkV:=hkU.out.gr (Gr.of_grown (grown_set U v 5 (.int .i64 ac))) (fun a q h=>(hak.out a q).2.2.2 (by injection h with h;exact h.symm));obtain⟨V,hV⟩:∃V,V=U.setCell ⟨v,5,none⟩ (.int .i64 ac):=⟨_,rfl⟩;rw[<-hV]at hvV hrV hbV hkV ⊢;clear hV q5 g5;have p0:=hrV.out.cell 0;have f0:=hrV.out.frozen 0;have q0:=hvV.out.cell 0;have g0:=hvV.out.frozen 0;have p1:=hrV.out.cell 1;have f1:=hrV.out.frozen 1;have q1:=hvV.out.cell 1;have g1:=hvV.out.frozen 1;have p2:=hrV.out.cell 2;have f2:=hrV.out.frozen 2;have q2:=hvV.out.cell 2;have g2:=hvV.out.frozen 2;have p3:=hrV.out.cell 3;have f3:=hrV.out.frozen 3;have q3:=hvV.out.cell 3;have g3:=hvV.out.frozen 3;have p4:=hrV.out.cell 4;have f4:=hrV.out.frozen 4;have q4:=hvV.out.cell 4;have g4:=hvV.out.frozen 4;have p5:=hrV.out.cell 5;have f5:=hrV.out.frozen 5;have q5:=hvV.out.cell 5;have g5:=hvV.out.frozen 5;go_wp2;refine bodyPost_ret (results_cell rfl _ _ _ (by rfl) (ret6 hrV.out) (run_loadVar_row _ _ _ _ _ _ _ (ret6 hrV.out) Tryz.underlying47 rfl (by kernel_rfl))) rfl ?_;exact HR.out _ _ (JudP.of hbV hrl ⟨hkV,fun a q=>⟨(hak.out a q).2.2.1,(hak.out a q).1⟩⟩ (fun q=>absurd q h0))
theorem b45_19_20(ct:Code)(h:ct=tlS B45 20):tlS B45 19=joinS 1 (tlS B45 19) ct:=by subst h;kernel_rfl
theorem u19(F:Nat->Value)(ct:Code)(hct:ct=tlS B45 19)(R:Ending->World->Prop)(w0 w:World){fv rv:Value}{fields:List (List UInt8)}{recs:List Rec}{body field:List UInt8}{now:Int}{r v:Nat}{T:List Pair}(hZ:Hid (SZ w0 fv rv fields recs body field))(hb:Below w0.heap.size w0 w)(hrl:w0.heap.size<=r)(hvl:w0.heap.size<=v)(hne:¬r=v)(hr:Hid (Blk w r #[.string ⟨#[]⟩,.string ⟨#[]⟩,.slice none 0 0,.int .i64 0,.int .i64 0,.int .i64 0] 47))(hT:Hid (∀t,(valOf t T).length<=20000))(h0:F 0=fv)(h1:F 1=.string (B body))(h2:F 2=.string (B field))(h3:F 3=rv)(h4:F 4=.int .i64 now)(h10:F 10=.pointer (some ⟨r,0,none⟩))(h11:F 11=.pointer (some ⟨v,0,none⟩))
  {tn xn:Int}(htn:Hid (tn=(timeOf [116] T).getD 0))(hxn:Hid (xn=(timeOf [120] T).getD 0)){AK:Option Addr}{cK:Nat}(hkey:Hid (RdS w (.slice AK (keysOf T).length cK) (keysOf T)))(hak:Hid (∀a,AK=some a->w0.heap.size<=a.block/\a.block < w.heap.size/\a.block≠r/\a.block≠v)){bP:Nat}{tv:Value}(h15:F 15=tv)(hP:Hid (OwnP w bP tv T))(hPl:T.length<=1152921504606846976)(hok:¬(hasTag [113] T=true/\among dnstxtL (listOf (valOf [113] T))=false)->Early T now)(hv:Hid (Blk w v #[.string (B (domOf T)),.string (B (identOf T)),(.slice AK (keysOf T).length cK),.int .i64 tn,.int .i64 xn,.int .i64 2] 47))(hR:∀e w',JudP w0 w' e (judgeT fields body field recs now T) T->R e w') :
  Code.wp Tryz.prog ct (bodyPost Tryz.prog Tryz.f45 R) ⟨frS 398 F,[]⟩ w:=by
 obtain⟨ct2,hct2⟩:∃ct2,Hid (ct2=tlS B45 20):=⟨_,rfl⟩;subst hct;rw[b45_19_20 ct2 hct2.out];conv=>arg 2;whnf
 simp only[joinS];rw[fr398,h0,h1,h2,h3,h4,h10,h11,h15];have HR:=zH hR;clear hR;have HRP:=zH (hP.out.rdP hPl);obtain⟨v1,hv1⟩:∃v1,Hid (valOf [113] T=v1):=⟨_,rfl⟩;have l1:v1.length<=20000:=by rw[<-hv1.out];exact hT.out _
 cases hq:hasTag [113] T with
 |false =>
  have HQ:=zH hq;clear hq;go_wp2_with (go_at_call 33;refine(c33q tv T [113] _ rfl _ HRP.out).mono ?_;rintro e wx⟨rfl,rfl⟩;rw[HQ.out,hv1.out]);refine useF 398 _ (by kernel_rfl) ?_;exact u20 _ ct2 hct2.out R w0 _ hZ hb hrl hvl hne hr hT rfl rfl rfl rfl rfl rfl rfl htn hxn hkey hak rfl hP hPl hv (by rw[judgeT_yes (hok (fun q=>by rw[HQ.out]at q;cases q.1))]at HR;exact HR.out)
 |true =>
  have HQ:=zH hq;clear hq;cases ham:among dnstxtL (listOf v1)with
  |true =>
   have HAM:=zH ham;clear ham;go_wp2_with (first
    |(go_at_call 33;refine(c33q tv T [113] _ rfl _ HRP.out).mono ?_;rintro e wx⟨rfl,rfl⟩;rw[HQ.out,hv1.out])
    |(go_at_call 71;refine(c71p v1 _ (by rw[size_B];omega)).mono ?_;rintro e w2⟨lv,rfl,ho2,hB2⟩;have hrd:=rdS_list ho2 (by omega);have hrd2:=zH hrd;obtain⟨AM,cM,rfl,_⟩:=hrd;skip)
    |(go_at_call 72;refine(c72 ⟨#[100,110,115,47,116,120,116]⟩ _ (listOf v1) _ hrd2.out).mono ?_;rintro e wx⟨rfl,rfl⟩;rw[show(⟨#[100,110,115,47,116,120,116]⟩:ByteArray).data.toList=dnstxtL from rfl,HAM.out]))
   refine useF 398 _ (by kernel_rfl) ?_;exact u20 _ ct2 hct2.out R w0 w2 hZ (hb.trans (hB2.mono hb.size)) hrl hvl hne (zH (hr.out.below hB2 hr.out.lt)) hT rfl rfl rfl rfl rfl rfl rfl htn hxn (zH (hkey.out.below hB2)) (zH (fun a q=>⟨(hak.out a q).1,zL (hak.out a q).2.1 hB2.size,(hak.out a q).2.2⟩)) rfl (zH (hP.out.below hB2)) hPl (zH (hv.out.below hB2 hv.out.lt)) (by rw[judgeT_yes (hok (fun q=>by rw[hv1.out,HAM.out]at q;cases q.2))]at HR;exact HR.out)
  |false =>
   have HAM:=zH ham;clear ham;have hj:judgeT fields body field recs now T=2:=judgeT_no (fun E=>E.q ⟨HQ.out,by rw[hv1.out];exact HAM.out⟩) _ _ _ _;rw[hj]at HR;clear hj;go_wp2_with (first
    |(go_at_call 33;refine(c33q tv T [113] _ rfl _ HRP.out).mono ?_;rintro e wx⟨rfl,rfl⟩;rw[HQ.out,hv1.out])
    |(go_at_call 71;refine(c71p v1 _ (by rw[size_B];omega)).mono ?_;rintro e w2⟨lv,rfl,ho2,hB2⟩;have hrd:=rdS_list ho2 (by omega);have hrd2:=zH hrd;obtain⟨AM,cM,rfl,_⟩:=hrd;have hr2:=zH (hr.out.below hB2 hr.out.lt);have hv2:=zH (hv.out.below hB2 hv.out.lt);have p0:=hr2.out.cell 0;have f0:=hr2.out.frozen 0;have q0:=hv2.out.cell 0;have g0:=hv2.out.frozen 0;have p1:=hr2.out.cell 1;have f1:=hr2.out.frozen 1;have q1:=hv2.out.cell 1;have g1:=hv2.out.frozen 1;have p2:=hr2.out.cell 2;have f2:=hr2.out.frozen 2;have q2:=hv2.out.cell 2;have g2:=hv2.out.frozen 2;have p3:=hr2.out.cell 3;have f3:=hr2.out.frozen 3;have q3:=hv2.out.cell 3;have g3:=hv2.out.frozen 3;have p4:=hr2.out.cell 4;have f4:=hr2.out.frozen 4;have q4:=hv2.out.cell 4;have g4:=hv2.out.frozen 4;have p5:=hr2.out.cell 5;have f5:=hr2.out.frozen 5;have q5:=hv2.out.cell 5;have g5:=hv2.out.frozen 5)
    |(go_at_call 72;refine(c72 ⟨#[100,110,115,47,116,120,116]⟩ _ (listOf v1) _ hrd2.out).mono ?_;rintro e wx⟨rfl,rfl⟩;rw[show(⟨#[100,110,115,47,116,120,116]⟩:ByteArray).data.toList=dnstxtL from rfl,HAM.out]))
   refine bodyPost_ret (results_cell rfl _ _ _ (by rfl) (ret6 hr2.out) (run_loadVar_row _ _ _ _ _ _ _ (ret6 hr2.out) Tryz.underlying47 rfl (by kernel_rfl))) rfl ?_;exact HR.out _ _ (JudP.of (hb.trans (hB2.mono hb.size)) hrl ⟨(hkey.out.below hB2),fun a q=>⟨(hak.out a q).2.2.1,(hak.out a q).1⟩⟩ (fun q=>by cases q))
structure TL(w0 W:World)(gl r v bP cK:Nat)(AK:Option Addr)(tv:Value)(T:List Pair)(now:Int)(k:Nat)(tn xn:Int):Prop where
 b:Below w0.heap.size w0 W
 rb:Blk W r #[.string ⟨#[]⟩,.string ⟨#[]⟩,.slice none 0 0,.int .i64 0,.int .i64 0,.int .i64 0] 47
 vb:Blk W v #[.string (B (domOf T)),.string (B (identOf T)),(.slice AK (keysOf T).length cK),.int .i64 tn,.int .i64 xn,.int .i64 2] 47
 key:RdS W (.slice AK (keysOf T).length cK) (keysOf T)
 ak:∀a,AK=some a->w0.heap.size<=a.block/\a.block < W.heap.size/\a.block≠r/\a.block≠v
 p:OwnP W bP tv T
 l:Blk W gl #[.string ⟨#[116]⟩,.string ⟨#[120]⟩] 9
 t:tn=if k=0 then 0 else(timeOf [116] T).getD 0
 ts:0 < k->(timeOf [116] T).isSome=true
 x:xn=if k<=1 then 0 else(timeOf [120] T).getD 0
 xs:1 < k->(timeOf [120] T).isSome=true/\¬(hasTag [120] T=true/\now > (timeOf [120] T).getD 0)
theorem OwnP.blk_ne{W:World}{b g:Nat}{tv:Value}{xs:List Pair}{cs:Array Value}{e:TypeId}(h:OwnP W b tv xs)(hg:Blk W g cs e)(he:¬e=101):tv.ownBlock=none\/tv.ownBlock≠some g:=by
 obtain⟨_,h2⟩:=h;rcases h2 with⟨rfl,_⟩|⟨q,cap,cur,rfl,_,h3,_⟩
 ·exact .inl rfl
 refine .inr fun hq=>he ?_
 injection hq with hq
 subst hq;have:=hg.symm.trans h3;injection this with this
 injection this with _ h5
theorem OwnP.setNe{W:World}{b g k:Nat}{u:Value}{tv:Value}{xs:List Pair}{cs:Array Value}{e:TypeId}(h:OwnP W b tv xs)(hg:Blk W g cs e)(he:¬e=101):OwnP (W.setCell ⟨g,k,none⟩ u) b tv xs :=
 World.ownsRow.kept h (grown_set W g k u) (h.blk_ne hg he)
theorem TL.below{w0 W W2:World}{gl r v bP cK:Nat}{AK:Option Addr}{tv:Value}{T:List Pair}{now:Int}{k:Nat}{tn xn:Int}(h:TL w0 W gl r v bP cK AK tv T now k tn xn)(hB:Below W.heap.size W W2):TL w0 W2 gl r v bP cK AK tv T now k tn xn :=
 ⟨h.b.trans (hB.mono h.b.size),h.rb.below hB h.rb.lt,h.vb.below hB h.vb.lt,h.key.below hB,fun a q=>⟨(h.ak a q).1,zL (h.ak a q).2.1 hB.size,(h.ak a q).2.2⟩,h.p.below hB,h.l.below hB h.l.lt,h.t,h.ts,h.x,h.xs⟩
theorem b45_18_19(ct:Code)(h:ct=tlS B45 19):tlS B45 18=joinS 1 (tlS B45 18) ct:=by subst h;kernel_rfl
theorem u18(F:Nat->Value)(ct:Code)(hct:ct=tlS B45 18)(R:Ending->World->Prop)(w0 w:World){fv rv:Value}{fields:List (List UInt8)}{recs:List Rec}{body field:List UInt8}{now:Int}{r v:Nat}{T:List Pair}(hZ:Hid (SZ w0 fv rv fields recs body field))(hb:Below w0.heap.size w0 w)(hrl:w0.heap.size<=r)(hvl:w0.heap.size<=v)(hne:¬r=v)(hr:Hid (Blk w r #[.string ⟨#[]⟩,.string ⟨#[]⟩,.slice none 0 0,.int .i64 0,.int .i64 0,.int .i64 0] 47))(hT:Hid (∀t,(valOf t T).length<=20000))(h0:F 0=fv)(h1:F 1=.string (B body))(h2:F 2=.string (B field))(h3:F 3=rv)(h4:F 4=.int .i64 now)(h10:F 10=.pointer (some ⟨r,0,none⟩))(h11:F 11=.pointer (some ⟨v,0,none⟩))
  {AK:Option Addr}{cK:Nat}(hkey:Hid (RdS w (.slice AK (keysOf T).length cK) (keysOf T)))(hak:Hid (∀a,AK=some a->w0.heap.size<=a.block/\a.block < w.heap.size/\a.block≠r/\a.block≠v)){bP:Nat}{tv:Value}(h15:F 15=tv)(hP:Hid (OwnP w bP tv T))(hPl:T.length<=1152921504606846976)(hok:(timeOf [116] T).isSome=true->(timeOf [120] T).isSome=true->¬(hasTag [120] T=true/\now > (timeOf [120] T).getD 0)->(¬(hasTag [113] T=true/\among dnstxtL (listOf (valOf [113] T))=false)->Early T now))(hv:Hid (Blk w v #[.string (B (domOf T)),.string (B (identOf T)),(.slice AK (keysOf T).length cK),.int .i64 0,.int .i64 0,.int .i64 2] 47))(hR:∀e w',JudP w0 w' e (judgeT fields body field recs now T) T->R e w') :
  Code.wp Tryz.prog ct (bodyPost Tryz.prog Tryz.f45 R) ⟨frS 398 F,[]⟩ w:=by
 obtain⟨ct2,hct2⟩:∃ct2,Hid (ct2=tlS B45 19):=⟨_,rfl⟩;subst hct;rw[b45_18_19 ct2 hct2.out];conv=>arg 2;whnf
 simp only[joinS];rw[fr398,h0,h1,h2,h3,h4,h10,h11,h15];have HR:=zH hR;clear hR;obtain⟨gl,hgl0⟩:∃gl,Hid (w.heap.size=gl):=⟨_,rfl⟩;have hA:Hid (Below w.heap.size w (w.alloc (.cells #[.string ⟨#[116]⟩,.string ⟨#[120]⟩] 9))):=(zB _ _).alloc (zR _) _;have hgl:Hid (¬gl=v):=by have:=hv.out.lt;have:=hgl0.out;unfold Hid;omega
 have hS0:Hid (TL w0 (w.alloc (.cells #[.string ⟨#[116]⟩,.string ⟨#[120]⟩] 9)) gl r v bP cK AK tv T now 0 0 0):=by
  refine⟨hb.trans (hA.out.mono hb.size),hr.out.below hA.out hr.out.lt,hv.out.below hA.out hv.out.lt,hkey.out.below hA.out,fun a q=>⟨(hak.out a q).1,zL (hak.out a q).2.1 hA.out.size,(hak.out a q).2.2⟩,hP.out.below hA.out,by rw[<-hgl0.out];exact Blk.new _ _ _,rfl,fun q=>absurd q (by decide),rfl,fun q=>absurd q (by decide)⟩
 have e40:((⟨#[116]⟩:ByteArray).toList == [116])=true:=by decide +kernel
 have e41:((⟨#[120]⟩:ByteArray).toList == [116])=false:=by decide +kernel
 clear hr hv hkey hak hP hb;go_wp2;rw[hgl0.out];go_loopg [175] 2 (fun gk i w'=>∃(k:Nat) (tn xn:Int),Hid (k+gk=2)/\i=.int .i64 k/\Hid (TL w0 w' gl r v bP cK AK tv T now k tn xn))
 case atStart=>exact⟨0,0,0,rfl,rfl,hS0⟩
 obtain⟨k,tn,xn,hk,rfl,hS⟩:=hrel;have hk2:k<=2:=by have:=hk.out;omega
 by_cases h0:k=0
 ·subst h0
  have hc:=hS.out.l.cell 0;have HRP:=zH (hS.out.p.rdP hPl);have hTO:timeOf [116] T=if hasTag [116] T=true then whole (strip (valOf [116] T))else some 0:=rfl
  obtain⟨v1,hv1⟩:∃v1,Hid (valOf [116] T=v1):=⟨_,rfl⟩;have l1:v1.length<=20000:=by rw[<-hv1.out];exact hT.out _
  obtain⟨O,hO⟩:∃O,Hid (whole (strip v1)=O):=⟨_,rfl⟩;cases hq:hasTag [116] T with
  |false =>
   have HQ:=zH hq;clear hq;go_wp2_with (first
    |(go_at_call 33;refine(c33q tv T [116] _ rfl _ HRP.out).mono ?_;rintro e wx⟨rfl,rfl⟩;rw[HQ.out,hv1.out])
    |(go_at_call 34;refine(c34 (B v1) _ (by rw[size_B];omega)).mono ?_;rintro e w2⟨rfl,hB2⟩;rw[L_B,hO.out];have h2:=zH (hS.out.below hB2);skip))
   have hS2:TL w0 w2 gl r v bP cK AK tv T now 1 tn xn:=by
    obtain⟨b1,b2,b3,b4,b5,b6,b7,b8,b9,b10,b11⟩:=h2.out;exact⟨b1,b2,b3,b4,b5,b6,b7,by rw[b8,if_pos rfl,if_neg (by decide),hTO,HQ.out,if_neg Bool.false_ne_true];rfl,fun _=>by rw[hTO,HQ.out,if_neg Bool.false_ne_true];rfl,b10,fun q=>absurd q (by decide)⟩
   go_roundg (gk - 1)
   case measure=>have:=hk.out;omega
   case rel=>exact⟨1,tn,xn,by have:=hk.out;unfold Hid;omega,by go_num,zH hS2⟩
  |true =>
   have HQ:=zH hq;clear hq;cases O with
   |none =>
    have hj:judgeT fields body field recs now T=2:=judgeT_no (fun E=>by have h1:=E.t;rw[hTO,HQ.out,if_pos rfl,hv1.out,hO.out]at h1;cases h1) _ _ _ _;rw[hj]at HR;go_wp2_with (first
     |(go_at_call 33;refine(c33q tv T [116] _ rfl _ HRP.out).mono ?_;rintro e wx⟨rfl,rfl⟩;rw[HQ.out,hv1.out])
     |(go_at_call 34;refine(c34 (B v1) _ (by rw[size_B];omega)).mono ?_;rintro e w2⟨rfl,hB2⟩;rw[L_B,hO.out];have h2:=zH (hS.out.below hB2);have hr2:=zH h2.out.rb;have hv2:=zH h2.out.vb;have p0:=hr2.out.cell 0;have f0:=hr2.out.frozen 0;have q0:=hv2.out.cell 0;have g0:=hv2.out.frozen 0;have p1:=hr2.out.cell 1;have f1:=hr2.out.frozen 1;have q1:=hv2.out.cell 1;have g1:=hv2.out.frozen 1;have p2:=hr2.out.cell 2;have f2:=hr2.out.frozen 2;have q2:=hv2.out.cell 2;have g2:=hv2.out.frozen 2;have p3:=hr2.out.cell 3;have f3:=hr2.out.frozen 3;have q3:=hv2.out.cell 3;have g3:=hv2.out.frozen 3;have p4:=hr2.out.cell 4;have f4:=hr2.out.frozen 4;have q4:=hv2.out.cell 4;have g4:=hv2.out.frozen 4;have p5:=hr2.out.cell 5;have f5:=hr2.out.frozen 5;have q5:=hv2.out.cell 5;have g5:=hv2.out.frozen 5))
    refine bodyPost_ret (results_cell rfl _ _ _ (by rfl) (ret6 hr2.out) (run_loadVar_row _ _ _ _ _ _ _ (ret6 hr2.out) Tryz.underlying47 rfl (by kernel_rfl))) rfl ?_;exact HR.out _ _ (JudP.of h2.out.b hrl ⟨h2.out.key,fun a q=>⟨(h2.out.ak a q).2.2.1,(h2.out.ak a q).1⟩⟩ (fun q=>by cases q))
   |some n =>
    go_wp2_with (first
     |(go_at_call 33;refine(c33q tv T [116] _ rfl _ HRP.out).mono ?_;rintro e wx⟨rfl,rfl⟩;rw[HQ.out,hv1.out])
     |(go_at_call 34;refine(c34 (B v1) _ (by rw[size_B];omega)).mono ?_;rintro e w2⟨rfl,hB2⟩;rw[L_B,hO.out];have h2:=zH (hS.out.below hB2);have c3:=h2.out.vb.cell 3;have z3:=h2.out.vb.frozen 3))
    have hS2:TL w0 (w2.setCell ⟨v,3,none⟩ (.int .i64 n)) gl r v bP cK AK tv T now 1 n xn:=by
     obtain⟨b1,b2,b3,b4,b5,b6,b7,b8,b9,b10,b11⟩:=h2.out;refine⟨belowB_set b1 hvl b1.size,b2.setNe hne,(b3.set_ 3 _).to (by simp),b4.gr (Gr.of_grown (grown_set w2 v 3 _)) (fun a q h=>(b5 a q).2.2.2 (by injection h with h;exact h.symm)),fun a q=>⟨(b5 a q).1,by rw[World.size_setCell];exact(b5 a q).2.1,(b5 a q).2.2⟩,b6.setNe b3 (by decide),b7.setNe hgl.out,by rw[if_neg (by decide),hTO,HQ.out,if_pos rfl,hv1.out,hO.out];rfl,fun _=>by rw[hTO,HQ.out,if_pos rfl,hv1.out,hO.out];rfl,b10,fun q=>absurd q (by decide)⟩
    go_roundg (gk - 1)
    case measure=>have:=hk.out;omega
    case rel=>exact⟨1,n,xn,by have:=hk.out;unfold Hid;omega,by go_num,zH hS2⟩
 by_cases h1:k=1
 ·subst h1
  have hc:=hS.out.l.cell 1;have HRP:=zH (hS.out.p.rdP hPl);have hTO:timeOf [120] T=if hasTag [120] T=true then whole (strip (valOf [120] T))else some 0:=rfl
  obtain⟨v1,hv1⟩:∃v1,Hid (valOf [120] T=v1):=⟨_,rfl⟩;have l1:v1.length<=20000:=by rw[<-hv1.out];exact hT.out _
  obtain⟨O,hO⟩:∃O,Hid (whole (strip v1)=O):=⟨_,rfl⟩;cases hq:hasTag [120] T with
  |false =>
   have HQ:=zH hq;clear hq;go_wp2_with (first
    |(go_at_call 33;refine(c33q tv T [120] _ rfl _ HRP.out).mono ?_;rintro e wx⟨rfl,rfl⟩;rw[HQ.out,hv1.out])
    |(go_at_call 34;refine(c34 (B v1) _ (by rw[size_B];omega)).mono ?_;rintro e w2⟨rfl,hB2⟩;rw[L_B,hO.out];have h2:=zH (hS.out.below hB2);skip))
   have hS2:TL w0 w2 gl r v bP cK AK tv T now 2 tn xn:=by
    obtain⟨b1,b2,b3,b4,b5,b6,b7,b8,b9,b10,b11⟩:=h2.out;exact⟨b1,b2,b3,b4,b5,b6,b7,b8,fun _=>b9 (by decide),by rw[b10,if_pos (by decide),if_neg (by decide),hTO,HQ.out,if_neg Bool.false_ne_true];rfl,fun _=>⟨by rw[hTO,HQ.out,if_neg Bool.false_ne_true];rfl,fun q=>by rw[HQ.out]at q;cases q.1⟩⟩
   go_roundg (gk - 1)
   case measure=>have:=hk.out;omega
   case rel=>exact⟨2,tn,xn,by have:=hk.out;unfold Hid;omega,by go_num,zH hS2⟩
  |true =>
   have HQ:=zH hq;clear hq;cases O with
   |none =>
    have hj:judgeT fields body field recs now T=2:=judgeT_no (fun E=>by have h1:=E.x;rw[hTO,HQ.out,if_pos rfl,hv1.out,hO.out]at h1;cases h1) _ _ _ _;rw[hj]at HR;go_wp2_with (first
     |(go_at_call 33;refine(c33q tv T [120] _ rfl _ HRP.out).mono ?_;rintro e wx⟨rfl,rfl⟩;rw[HQ.out,hv1.out])
     |(go_at_call 34;refine(c34 (B v1) _ (by rw[size_B];omega)).mono ?_;rintro e w2⟨rfl,hB2⟩;rw[L_B,hO.out];have h2:=zH (hS.out.below hB2);have hr2:=zH h2.out.rb;have hv2:=zH h2.out.vb;have p0:=hr2.out.cell 0;have f0:=hr2.out.frozen 0;have q0:=hv2.out.cell 0;have g0:=hv2.out.frozen 0;have p1:=hr2.out.cell 1;have f1:=hr2.out.frozen 1;have q1:=hv2.out.cell 1;have g1:=hv2.out.frozen 1;have p2:=hr2.out.cell 2;have f2:=hr2.out.frozen 2;have q2:=hv2.out.cell 2;have g2:=hv2.out.frozen 2;have p3:=hr2.out.cell 3;have f3:=hr2.out.frozen 3;have q3:=hv2.out.cell 3;have g3:=hv2.out.frozen 3;have p4:=hr2.out.cell 4;have f4:=hr2.out.frozen 4;have q4:=hv2.out.cell 4;have g4:=hv2.out.frozen 4;have p5:=hr2.out.cell 5;have f5:=hr2.out.frozen 5;have q5:=hv2.out.cell 5;have g5:=hv2.out.frozen 5))
    refine bodyPost_ret (results_cell rfl _ _ _ (by rfl) (ret6 hr2.out) (run_loadVar_row _ _ _ _ _ _ _ (ret6 hr2.out) Tryz.underlying47 rfl (by kernel_rfl))) rfl ?_;exact HR.out _ _ (JudP.of h2.out.b hrl ⟨h2.out.key,fun a q=>⟨(h2.out.ak a q).2.2.1,(h2.out.ak a q).1⟩⟩ (fun q=>by cases q))
   |some n =>
    by_cases hex:now > n
    ·have hj:judgeT fields body field recs now T=2:=judgeT_no (fun E=>E.exp ⟨HQ.out,by rw[hTO,HQ.out,if_pos rfl,hv1.out,hO.out];exact hex⟩) _ _ _ _
     rw[hj]at HR;go_upto_region 43 with(first
      |(go_at_call 33;refine(c33q tv T [120] _ rfl _ HRP.out).mono ?_;rintro e wx⟨rfl,rfl⟩;rw[HQ.out,hv1.out])
      |(go_at_call 34;refine(c34 (B v1) _ (by rw[size_B];omega)).mono ?_;rintro e w2⟨rfl,hB2⟩;rw[L_B,hO.out];have h2:=zH (hS.out.below hB2);have c4:=h2.out.vb.cell 4;have z4:=h2.out.vb.frozen 4))
     have hv3:Hid (Blk (w2.setCell ⟨v,4,none⟩ (.int .i64 n)) v #[.string (B (domOf T)),.string (B (identOf T)),(.slice AK (keysOf T).length cK),.int .i64 tn,.int .i64 n,.int .i64 2] 47):=(h2.out.vb.set_ 4 _).to (by simp);have hr3:Hid (Blk (w2.setCell ⟨v,4,none⟩ (.int .i64 n)) r #[.string ⟨#[]⟩,.string ⟨#[]⟩,.slice none 0 0,.int .i64 0,.int .i64 0,.int .i64 0] 47):=h2.out.rb.setNe hne;have hb3:=belowB_set (u:=.int .i64 n) (k:=4) h2.out.b hvl h2.out.b.size;have hk3:=h2.out.key.gr (Gr.of_grown (grown_set w2 v 4 (.int .i64 n))) (fun a q h=>(h2.out.ak a q).2.2.2 (by injection h with h;exact h.symm));obtain⟨V,hV⟩:∃V,V=w2.setCell ⟨v,4,none⟩ (.int .i64 n):=⟨_,rfl⟩;rw[<-hV]at hv3 hr3 hb3 hk3 ⊢;clear hV c4 z4;have p0:=hr3.out.cell 0;have f0:=hr3.out.frozen 0;have q0:=hv3.out.cell 0;have g0:=hv3.out.frozen 0;have p1:=hr3.out.cell 1;have f1:=hr3.out.frozen 1;have q1:=hv3.out.cell 1;have g1:=hv3.out.frozen 1;have p2:=hr3.out.cell 2;have f2:=hr3.out.frozen 2;have q2:=hv3.out.cell 2;have g2:=hv3.out.frozen 2;have p3:=hr3.out.cell 3;have f3:=hr3.out.frozen 3;have q3:=hv3.out.cell 3;have g3:=hv3.out.frozen 3;have p4:=hr3.out.cell 4;have f4:=hr3.out.frozen 4;have q4:=hv3.out.cell 4;have g4:=hv3.out.frozen 4;have p5:=hr3.out.cell 5;have f5:=hr3.out.frozen 5;have q5:=hv3.out.cell 5;have g5:=hv3.out.frozen 5;go_wp2;refine bodyPost_ret (results_cell rfl _ _ _ (by rfl) (ret6 hr3.out) (run_loadVar_row _ _ _ _ _ _ _ (ret6 hr3.out) Tryz.underlying47 rfl (by kernel_rfl))) rfl ?_;exact HR.out _ _ (JudP.of hb3 hrl ⟨hk3,fun a q=>⟨(h2.out.ak a q).2.2.1,(h2.out.ak a q).1⟩⟩ (fun q=>by cases q))
    go_wp2_with (first
     |(go_at_call 33;refine(c33q tv T [120] _ rfl _ HRP.out).mono ?_;rintro e wx⟨rfl,rfl⟩;rw[HQ.out,hv1.out])
     |(go_at_call 34;refine(c34 (B v1) _ (by rw[size_B];omega)).mono ?_;rintro e w2⟨rfl,hB2⟩;rw[L_B,hO.out];have h2:=zH (hS.out.below hB2);have c4:=h2.out.vb.cell 4;have z4:=h2.out.vb.frozen 4))
    have hS2:TL w0 (w2.setCell ⟨v,4,none⟩ (.int .i64 n)) gl r v bP cK AK tv T now 2 tn n:=by
     obtain⟨b1,b2,b3,b4,b5,b6,b7,b8,b9,b10,b11⟩:=h2.out;refine⟨belowB_set b1 hvl b1.size,b2.setNe hne,(b3.set_ 4 _).to (by simp),b4.gr (Gr.of_grown (grown_set w2 v 4 _)) (fun a q h=>(b5 a q).2.2.2 (by injection h with h;exact h.symm)),fun a q=>⟨(b5 a q).1,by rw[World.size_setCell];exact(b5 a q).2.1,(b5 a q).2.2⟩,b6.setNe b3 (by decide),b7.setNe hgl.out,b8,(fun _=>b9 (by decide)),by rw[if_neg (by decide),hTO,HQ.out,if_pos rfl,hv1.out,hO.out];rfl,fun _=>⟨by rw[hTO,HQ.out,if_pos rfl,hv1.out,hO.out];rfl,fun q=>by have:=q.2;rw[hTO,HQ.out,if_pos rfl,hv1.out,hO.out]at this;simp only[Option.getD_some]at this;omega⟩⟩
    go_roundg (gk - 1)
    case measure=>have:=hk.out;omega
    case rel=>exact⟨2,tn,n,by have:=hk.out;unfold Hid;omega,by go_num,zH hS2⟩
 obtain rfl:k=2:=by omega
 go_wp2;obtain⟨b1,b2,b3,b4,b5,b6,b7,b8,b9,b10,b11⟩:=hS.out;refine useF 398 _ (by kernel_rfl) ?_;exact u19 _ ct2 hct2.out R w0 _ hZ b1 hrl hvl hne (zH b2) hT rfl rfl rfl rfl rfl rfl rfl (zH (b8.trans (if_neg (by decide)))) (zH (b10.trans (if_neg (by decide)))) (zH b4) (zH b5) rfl (zH b6) hPl (fun q=>hok (b9 (by decide)) (b11 (by decide)).1 (b11 (by decide)).2 q) (zH b3) HR.out
end Go.Proofs.YtnkihlpmmfeioaaGreatDoor
