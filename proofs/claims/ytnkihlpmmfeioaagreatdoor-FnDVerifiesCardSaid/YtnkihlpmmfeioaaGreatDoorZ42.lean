/- Part of the proof that laws.FnDVerifies answers true: A103,A104,A105,A106 -/
import Derived.Test.YtnkihlpmmfeioaaGreatDoorZ40
import Derived.Test.YtnkihlpmmfeioaaGreatDoorZ41
set_option linter.unusedVariables false
set_option linter.unusedSimpArgs false
set_option maxRecDepth 1000000
set_option maxHeartbeats 16000000
namespace Go.Proofs.YtnkihlpmmfeioaaGreatDoor
open Go.RowKit
theorem b45_12_18(ct:Code)(h:ct=tlS B45 18):tlS B45 12=joinS 6 (tlS B45 12) ct:=by subst h;kernel_rfl
theorem u12(F:Nat->Value)(ct:Code)(hct:ct=tlS B45 12)(R:Ending->World->Prop)(w0 w:World){fv rv:Value}{fields:List (List UInt8)}{recs:List Rec}{body field:List UInt8}{now:Int}{r v:Nat}{T:List Pair}(hZ:Hid (SZ w0 fv rv fields recs body field))(hb:Below w0.heap.size w0 w)(hrl:w0.heap.size<=r)(hvl:w0.heap.size<=v)(hne:¬r=v)(hr:Hid (Blk w r #[.string ⟨#[]⟩,.string ⟨#[]⟩,.slice none 0 0,.int .i64 0,.int .i64 0,.int .i64 0] 47))(hT:Hid (∀t,(valOf t T).length<=20000))(h0:F 0=fv)(h1:F 1=.string (B body))(h2:F 2=.string (B field))(h3:F 3=rv)(h4:F 4=.int .i64 now)(h10:F 10=.pointer (some ⟨r,0,none⟩))(h11:F 11=.pointer (some ⟨v,0,none⟩))
  {bP:Nat}{tv:Value}(h15:F 15=tv)(hP:Hid (OwnP w bP tv T))(hPl:T.length<=1152921504606846976)(hok:hasFrom T=true->((timeOf [116] T).isSome=true->(timeOf [120] T).isSome=true->¬(hasTag [120] T=true/\now > (timeOf [120] T).getD 0)->¬(hasTag [113] T=true/\among dnstxtL (listOf (valOf [113] T))=false)->Early T now))(hv:Hid (Blk w v #[.string (B (domOf T)),.string (B (identOf T)),(.slice none 0 0),.int .i64 0,.int .i64 0,.int .i64 2] 47))(hR:∀e w',JudP w0 w' e (judgeT fields body field recs now T) T->R e w') :
  Code.wp Tryz.prog ct (bodyPost Tryz.prog Tryz.f45 R) ⟨frS 398 F,[]⟩ w:=by
 obtain⟨ct2,hct2⟩:∃ct2,Hid (ct2=tlS B45 18):=⟨_,rfl⟩;subst hct;rw[b45_12_18 ct2 hct2.out];conv=>arg 2;whnf
 simp only[joinS];rw[fr398,h0,h1,h2,h3,h4,h10,h11,h15];have HR:=zH hR;clear hR;have HRP:=zH (hP.out.rdP hPl);have hl104:=hT.out [104];have hlr:=hr.out.lt;have hlv:=hv.out.lt;go_upto_region 24 with(first
  |(go_at_call 33;refine(c33q tv T [104] _ rfl _ HRP.out).mono ?_;rintro e wx⟨rfl,rfl⟩)
  |(go_at_call 71;refine(c71p (valOf [104] T) _ (by rw[size_B];omega)).mono ?_;rintro e w2⟨lv,rfl,ho2,hB2⟩;have hrd:=rdS_list ho2 (by omega);have hrd2:=zH hrd;obtain⟨AK,cK,rfl,_⟩:=hrd;have hbl:=Own.blk ho2))
 have hkey:Hid (RdS w2 (.slice AK (keysOf T).length cK) (keysOf T)):=hrd2;have hbz:=hb.trans (hB2.mono hb.size);have hak:Hid (∀a,AK=some a->w0.heap.size<=a.block/\a.block < w2.heap.size/\a.block≠r/\a.block≠v):=fun a q=>by have:=hbl a q;have:=hb.size;omega
 obtain⟨_,_,hm1,hmc,hml,hmA⟩:=hkey.out;injection hm1 with hm1 _ hm3
 subst hm1 hm3;have HMA:=zH hmA;obtain⟨f,hf⟩:∃f,Hid (((keysOf T).any fun k=>lower k == fromL)=f):=⟨_,rfl⟩;have HF:Hid (hasFrom T=f):=hf.out;have hkl:=(keys_le hT.out).2;rw[show(listOf (valOf [104] T)).length=(keysOf T).length from rfl];clear hmA hrd2 hbl ho2;go_wp2;go_loopg [30,31] (keysOf T).length (fun gk b i w'=>∃(k:Nat) (fb:Bool),Hid (k+gk=(keysOf T).length)/\b=.bool fb/\i=.int .i64 k/\Hid ((fb || ((keysOf T).drop k).any fun k=>lower k == fromL)=f)/\Hid (Below w2.heap.size w2 w'))
 case atStart=>exact⟨0,false,Nat.zero_add _,rfl,rfl,hf,zB _ _⟩
 obtain⟨k,fb,hk,rfl,rfl,hp,hB⟩:=hrel;have hk':k<=(keysOf T).length:=by have:=hk.out;omega
 by_cases hlt:k < (keysOf T).length
 ·rw[List.drop_eq_getElem_cons hlt,List.any_cons]at hp
  cases fb with
  |true =>
   rw[Bool.true_or]at hp;go_wp2;go_roundg (gk - 1)
   case measure=>have:=hk.out;omega
   case rel=>exact⟨k+1,true,by have:=hk.out;unfold Hid;omega,rfl,by go_num,by unfold Hid;rw[Bool.true_or];exact hp.out,hB⟩
  |false =>
   obtain⟨gM,oM,rfl,hmcell⟩:=HMA.out (by omega);have hck:=(hB.out.cell (p:=⟨gM,oM+k,none⟩) (hak.out _ rfl).2.1).trans (hmcell k (keysOf T)[k] (zG hlt));obtain⟨x,hx⟩:∃x:List UInt8,Hid ((keysOf T)[k]=x):=⟨(keysOf T)[k],zH rfl⟩;have hxl:x.length<=20000:=by rw[<-hx.out];exact hkl _ (List.getElem_mem hlt)
   rw[hx.out]at hck hp;rw[Bool.false_or]at hp;clear hmcell;obtain⟨y,hy⟩:∃y,Hid (lower x=y):=⟨_,rfl⟩;rw[hy.out]at hp;cases hd:y == fromL with
   |true =>
    have e1:((B y).toList == [102,114,111,109])=true:=by rw[toList_B];exact hd
    rw[hd]at hp;clear hd;go_wp2_with (go_at_call 24;refine(c24p x _ (by rw[size_B];omega)).mono ?_;rintro e w3⟨rfl,hb3⟩;rw[hy.out];have hB3:=hB.out.trans (hb3.mono hB.out.size));go_roundg (gk - 1)
    case measure=>have:=hk.out;omega
    case rel=>exact⟨k+1,true,by have:=hk.out;unfold Hid;omega,rfl,by go_num,by unfold Hid;rw[Bool.true_or];rw[Bool.true_or]at hp;exact hp.out,hB3⟩
   |false =>
    have e1:((B y).toList == [102,114,111,109])=false:=by rw[toList_B];exact hd
    rw[hd,Bool.false_or]at hp;clear hd;go_wp2_with (go_at_call 24;refine(c24p x _ (by rw[size_B];omega)).mono ?_;rintro e w3⟨rfl,hb3⟩;rw[hy.out];have hB3:=hB.out.trans (hb3.mono hB.out.size));go_roundg (gk - 1)
    case measure=>have:=hk.out;omega
    case rel=>exact⟨k+1,false,by have:=hk.out;unfold Hid;omega,rfl,by go_num,by unfold Hid;rw[Bool.false_or];exact hp.out,hB3⟩
 rw[List.drop_eq_nil_of_le (by omega),List.any_nil,Bool.or_false]at hp;have hBw:=hbz.trans (hB.out.mono hbz.size);have hB1:=hB2.trans (hB.out.mono hB2.size);have hrw:Hid (Blk wr r #[.string ⟨#[]⟩,.string ⟨#[]⟩,.slice none 0 0,.int .i64 0,.int .i64 0,.int .i64 0] 47):=hr.out.below hB1 hlr;have hvw:Hid (Blk wr v #[.string (B (domOf T)),.string (B (identOf T)),(.slice none 0 0),.int .i64 0,.int .i64 0,.int .i64 2] 47):=hv.out.below hB1 hlv;have HFB:Hid (hasFrom T=fb):=HF.out.trans hp.out.symm;clear hp;cases fb with
 |true =>
  have q2:=hvw.out.cell 2;have f2:=hvw.out.frozen 2;go_wp2;refine useF 398 _ (by kernel_rfl) ?_;exact u18 _ ct2 hct2.out R w0 _ hZ (belowB_set hBw hvl hBw.size) hrl hvl hne (zH (hrw.out.setNe hne)) hT rfl rfl rfl rfl rfl rfl rfl (zH ((hkey.out.below hB.out).gr (Gr.of_grown (grown_set wr v 2 _)) (fun a q h=>(hak.out a q).2.2.2 (by injection h with h;exact h.symm)))) (zH (fun a q=>⟨(hak.out a q).1,by rw[World.size_setCell];exact zL (hak.out a q).2.1 hB.out.size,(hak.out a q).2.2⟩)) rfl (zH ((hP.out.below hB1).setNe hvw.out (by decide))) hPl (hok HFB.out) (zH ((hvw.out.set_ 2 _).to (by simp))) HR.out
 |false =>
  have hj:judgeT fields body field recs now T=2:=judgeT_no (fun E=>by have:=E.frm;rw[HFB.out]at this;cases this) _ _ _ _;rw[hj]at HR;clear hj;have p0:=hrw.out.cell 0;have f0:=hrw.out.frozen 0;have q0:=hvw.out.cell 0;have g0:=hvw.out.frozen 0;have p1:=hrw.out.cell 1;have f1:=hrw.out.frozen 1;have q1:=hvw.out.cell 1;have g1:=hvw.out.frozen 1;have p2:=hrw.out.cell 2;have f2:=hrw.out.frozen 2;have q2:=hvw.out.cell 2;have g2:=hvw.out.frozen 2;have p3:=hrw.out.cell 3;have f3:=hrw.out.frozen 3;have q3:=hvw.out.cell 3;have g3:=hvw.out.frozen 3;have p4:=hrw.out.cell 4;have f4:=hrw.out.frozen 4;have q4:=hvw.out.cell 4;have g4:=hvw.out.frozen 4;have p5:=hrw.out.cell 5;have f5:=hrw.out.frozen 5;have q5:=hvw.out.cell 5;have g5:=hvw.out.frozen 5;go_wp2;refine bodyPost_ret (results_cell rfl _ _ _ (by rfl) (ret6 hrw.out) (run_loadVar_row _ _ _ _ _ _ _ (ret6 hrw.out) Tryz.underlying47 rfl (by kernel_rfl))) rfl ?_;exact HR.out _ _ (JudP.of hBw hrl ⟨RdS.nil _,fun a q=>by cases q⟩ (fun q=>by cases q))
theorem consD(c:UInt8)(l:List UInt8):(⟨#[c]⟩:ByteArray)++B l=B (c::l):=by rw[<-B_L (⟨#[c]⟩++B l),L_append,L_B];rfl
theorem c70q(s t:List UInt8)(rr:Bool)(w:World)(hs:s.length<=20000)(ht:t.length<=30000)(h:endsWith s t=rr):Calls Tryz.prog 70 #[.string (B s),.string (B t)] w fun e w'=>e=.returned (.bool rr)/\w=w':=by
 have:=c70 (B s) (B t) w (by rw[size_B];omega) (by rw[size_B];omega);rw[L_B,L_B,h]at this;exact this
theorem b45_9_12(ct:Code)(h:ct=tlS B45 12):tlS B45 9=joinS 3 (tlS B45 9) ct:=by subst h;kernel_rfl
theorem u9(F:Nat->Value)(ct:Code)(hct:ct=tlS B45 9)(R:Ending->World->Prop)(w0 w:World){fv rv:Value}{fields:List (List UInt8)}{recs:List Rec}{body field:List UInt8}{now:Int}{r v:Nat}{T:List Pair}(hZ:Hid (SZ w0 fv rv fields recs body field))(hb:Below w0.heap.size w0 w)(hrl:w0.heap.size<=r)(hvl:w0.heap.size<=v)(hne:¬r=v)(hr:Hid (Blk w r #[.string ⟨#[]⟩,.string ⟨#[]⟩,.slice none 0 0,.int .i64 0,.int .i64 0,.int .i64 0] 47))(hT:Hid (∀t,(valOf t T).length<=20000))(h0:F 0=fv)(h1:F 1=.string (B body))(h2:F 2=.string (B field))(h3:F 3=rv)(h4:F 4=.int .i64 now)(h10:F 10=.pointer (some ⟨r,0,none⟩))(h11:F 11=.pointer (some ⟨v,0,none⟩))
  {bP:Nat}{tv:Value}(h15:F 15=tv)(hP:Hid (OwnP w bP tv T))(hPl:T.length<=1152921504606846976)(hok:identOk T=true->hasFrom T=true->((timeOf [116] T).isSome=true->(timeOf [120] T).isSome=true->¬(hasTag [120] T=true/\now > (timeOf [120] T).getD 0)->¬(hasTag [113] T=true/\among dnstxtL (listOf (valOf [113] T))=false)->Early T now))(hv:Hid (Blk w v #[.string (B (domOf T)),.string ⟨#[]⟩,(.slice none 0 0),.int .i64 0,.int .i64 0,.int .i64 2] 47))(hR:∀e w',JudP w0 w' e (judgeT fields body field recs now T) T->R e w') :
  Code.wp Tryz.prog ct (bodyPost Tryz.prog Tryz.f45 R) ⟨frS 398 F,[]⟩ w:=by
 obtain⟨ct2,hct2⟩:∃ct2,Hid (ct2=tlS B45 12):=⟨_,rfl⟩;subst hct;rw[b45_9_12 ct2 hct2.out];conv=>arg 2;whnf
 simp only[joinS];rw[fr398,h0,h1,h2,h3,h4,h10,h11,h15];have HR:=zH hR;clear hR;have HRP:=zH (hP.out.rdP hPl);obtain⟨v1,hv1⟩:∃v1,Hid (valOf [105] T=v1):=⟨_,rfl⟩;have l1:v1.length<=20000:=by rw[<-hv1.out];exact hT.out _
 obtain⟨idt,hidt⟩:∃idt,Hid (strip v1=idt):=⟨_,rfl⟩;have hil:idt.length<=20000:=by rw[<-hidt.out];exact zT (strip_le _) l1
 have hdl:(domOf T).length<=20000:=zT (strip_le _) (hT.out [100]);have hdB:(B (domOf T)).size<=20000:=by rw[size_B];exact hdl
 have hl64:(64::domOf T).length<=30000:=by rw[List.length_cons];omega
 have hl46:(46::domOf T).length<=30000:=by rw[List.length_cons];omega
 obtain⟨bi,hbi⟩:∃bi,Hid (hasTag [105] T=bi):=⟨_,rfl⟩;go_upto_region 18 with(first
  |(go_at_call 33;refine(c33q tv T [105] _ rfl _ HRP.out).mono ?_;rintro e wx⟨rfl,rfl⟩;rw[hbi.out,hv1.out])
  |(go_at_call 50;refine(c50p v1 _ (by rw[size_B];omega)).mono ?_;rintro e w2⟨rfl,hB2⟩;rw[hidt.out];have hvw:=zH (hv.out.below hB2 hv.out.lt);have q1:=hvw.out.cell 1;have f1:=hvw.out.frozen 1))
 have hb2:=hb.trans (hB2.mono hb.size);have hvV:Hid (Blk (w2.setCell ⟨v,1,none⟩ (.string (B idt))) v #[.string (B (domOf T)),.string (B idt),(.slice none 0 0),.int .i64 0,.int .i64 0,.int .i64 2] 47):=(hvw.out.set_ 1 _).to (by simp);have hrV:Hid (Blk (w2.setCell ⟨v,1,none⟩ (.string (B idt))) r #[.string ⟨#[]⟩,.string ⟨#[]⟩,.slice none 0 0,.int .i64 0,.int .i64 0,.int .i64 0] 47):=(hr.out.below hB2 hr.out.lt).setNe hne;have hbV:=belowB_set (u:=.string (B idt)) (k:=1) hb2 hvl hb2.size;have hPV:Hid (OwnP (w2.setCell ⟨v,1,none⟩ (.string (B idt))) bP tv T):=(hP.out.below hB2).setNe hvw.out (by decide);obtain⟨V,hV⟩:∃V,V=w2.setCell ⟨v,1,none⟩ (.string (B idt)):=⟨_,rfl⟩;rw[<-hV]at hvV hrV hbV hPV ⊢;clear hV q1 f1;have hap1:=consD 64 (domOf T);have hap2:=consD 46 (domOf T);have p0:=hrV.out.cell 0;have f0:=hrV.out.frozen 0;have q0:=hvV.out.cell 0;have g0:=hvV.out.frozen 0;have p1:=hrV.out.cell 1;have f1:=hrV.out.frozen 1;have q1:=hvV.out.cell 1;have g1:=hvV.out.frozen 1;have p2:=hrV.out.cell 2;have f2:=hrV.out.frozen 2;have q2:=hvV.out.cell 2;have g2:=hvV.out.frozen 2;have p3:=hrV.out.cell 3;have f3:=hrV.out.frozen 3;have q3:=hvV.out.cell 3;have g3:=hvV.out.frozen 3;have p4:=hrV.out.cell 4;have f4:=hrV.out.frozen 4;have q4:=hvV.out.cell 4;have g4:=hvV.out.frozen 4;have p5:=hrV.out.cell 5;have f5:=hrV.out.frozen 5;have q5:=hvV.out.cell 5;have g5:=hvV.out.frozen 5;cases bi with
 |false =>
  have hIO:identOf T=64::domOf T:=by unfold identOf;rw[if_neg (by rw[hbi.out];decide)]
  have HIO:=zH hIO;clear hIO;go_wp2;refine useF 398 _ (by kernel_rfl) ?_;exact u12 _ ct2 hct2.out R w0 _ hZ (belowB_set hbV hvl hbV.size) hrl hvl hne (zH (hrV.out.setNe hne)) hT rfl rfl rfl rfl rfl rfl rfl rfl (zH (hPV.out.setNe hvV.out (by decide))) hPl (hok (by unfold identOk;rw[hbi.out];rfl)) (zH ((hvV.out.set_ 1 _).to (by rw[HIO.out];simp))) HR.out
 |true =>
  have hIO:identOf T=idt:=by unfold identOf;rw[if_pos hbi.out,hv1.out,hidt.out]
  have HIO:=zH hIO;clear hIO;cases h1:endsWith idt (64::domOf T)with
  |true =>
   go_wp2_with (first
    |(go_at_call_of 70 (B (64::domOf T));refine(c70q idt (64::domOf T) true _ hil hl64 h1).mono ?_;rintro e wx⟨rfl,rfl⟩)
    |(go_at_call_of 70 (B (46::domOf T));refine(c70q idt (46::domOf T) true _ hil hl46 h1).mono ?_;rintro e wx⟨rfl,rfl⟩))
   refine useF 398 _ (by kernel_rfl) ?_;exact u12 _ ct2 hct2.out R w0 _ hZ hbV hrl hvl hne hrV hT rfl rfl rfl rfl rfl rfl rfl rfl hPV hPl (hok (by unfold identOk;rw[HIO.out,h1,Bool.or_true,Bool.true_or])) (zH (hvV.out.to (by rw[HIO.out]))) HR.out
  |false =>
   cases h2:endsWith idt (46::domOf T)with
   |true =>
    go_wp2_with (first
     |(go_at_call_of 70 (B (64::domOf T));refine(c70q idt (64::domOf T) false _ hil hl64 h1).mono ?_;rintro e wx⟨rfl,rfl⟩)
     |(go_at_call_of 70 (B (46::domOf T));refine(c70q idt (46::domOf T) true _ hil hl46 h2).mono ?_;rintro e wx⟨rfl,rfl⟩))
    refine useF 398 _ (by kernel_rfl) ?_;exact u12 _ ct2 hct2.out R w0 _ hZ hbV hrl hvl hne hrV hT rfl rfl rfl rfl rfl rfl rfl rfl hPV hPl (hok (by unfold identOk;rw[HIO.out,h2,Bool.or_true])) (zH (hvV.out.to (by rw[HIO.out]))) HR.out
   |false =>
    have hj:judgeT fields body field recs now T=2:=judgeT_no (fun E=>by have:=E.ident;unfold identOk at this;rw[HIO.out,h1,h2,hbi.out]at this;cases this) _ _ _ _;rw[hj]at HR;clear hj;go_wp2_with (first
     |(go_at_call_of 70 (B (64::domOf T));refine(c70q idt (64::domOf T) false _ hil hl64 h1).mono ?_;rintro e wx⟨rfl,rfl⟩)
     |(go_at_call_of 70 (B (46::domOf T));refine(c70q idt (46::domOf T) false _ hil hl46 h2).mono ?_;rintro e wx⟨rfl,rfl⟩))
    refine bodyPost_ret (results_cell rfl _ _ _ (by rfl) (ret6 hrV.out) (run_loadVar_row _ _ _ _ _ _ _ (ret6 hrV.out) Tryz.underlying47 rfl (by kernel_rfl))) rfl ?_;exact HR.out _ _ (JudP.of hbV hrl ⟨RdS.nil _,fun a q=>by cases q⟩ (fun q=>by cases q))
theorem b45_8_9(ct:Code)(h:ct=tlS B45 9):tlS B45 8=joinS 1 (tlS B45 8) ct:=by subst h;kernel_rfl
theorem u8(F:Nat->Value)(ct:Code)(hct:ct=tlS B45 8)(R:Ending->World->Prop)(w0 w:World){fv rv:Value}{fields:List (List UInt8)}{recs:List Rec}{body field:List UInt8}{now:Int}{r v:Nat}{T:List Pair}(hZ:Hid (SZ w0 fv rv fields recs body field))(hb:Below w0.heap.size w0 w)(hrl:w0.heap.size<=r)(hvl:w0.heap.size<=v)(hne:¬r=v)(hr:Hid (Blk w r #[.string ⟨#[]⟩,.string ⟨#[]⟩,.slice none 0 0,.int .i64 0,.int .i64 0,.int .i64 0] 47))(hT:Hid (∀t,(valOf t T).length<=20000))(h0:F 0=fv)(h1:F 1=.string (B body))(h2:F 2=.string (B field))(h3:F 3=rv)(h4:F 4=.int .i64 now)(h10:F 10=.pointer (some ⟨r,0,none⟩))(h11:F 11=.pointer (some ⟨v,0,none⟩))
  {bP:Nat}{tv:Value}(h15:F 15=tv)(hP:Hid (OwnP w bP tv T))(hPl:T.length<=1152921504606846976)(hok:(∀t∈reqd,hasTag t T=true)->identOk T=true->hasFrom T=true->((timeOf [116] T).isSome=true->(timeOf [120] T).isSome=true->¬(hasTag [120] T=true/\now > (timeOf [120] T).getD 0)->¬(hasTag [113] T=true/\among dnstxtL (listOf (valOf [113] T))=false)->Early T now))(hv:Hid (Blk w v #[.string (B (domOf T)),.string ⟨#[]⟩,(.slice none 0 0),.int .i64 0,.int .i64 0,.int .i64 2] 47))(hR:∀e w',JudP w0 w' e (judgeT fields body field recs now T) T->R e w') :
  Code.wp Tryz.prog ct (bodyPost Tryz.prog Tryz.f45 R) ⟨frS 398 F,[]⟩ w:=by
 obtain⟨ct2,hct2⟩:∃ct2,Hid (ct2=tlS B45 9):=⟨_,rfl⟩;subst hct;rw[b45_8_9 ct2 hct2.out];conv=>arg 2;whnf
 simp only[joinS];rw[fr398,h0,h1,h2,h3,h4,h10,h11,h15];have HR:=zH hR;clear hR;obtain⟨gl,hgl⟩:∃gl,Hid (w.heap.size=gl):=⟨_,rfl⟩;have hA:Hid (Below w.heap.size w (w.alloc (.cells #[.string ⟨#[118]⟩,.string ⟨#[97]⟩,.string ⟨#[98]⟩,.string ⟨#[98,104]⟩,.string ⟨#[100]⟩,.string ⟨#[104]⟩,.string ⟨#[115]⟩] 9))):=(zB _ _).alloc (zR _) _;have hL:Hid (Blk (w.alloc (.cells #[.string ⟨#[118]⟩,.string ⟨#[97]⟩,.string ⟨#[98]⟩,.string ⟨#[98,104]⟩,.string ⟨#[100]⟩,.string ⟨#[104]⟩,.string ⟨#[115]⟩] 9)) gl (reqd.map strV).toArray 9):=by rw[<-hgl.out];exact Blk.new _ _ _
 obtain⟨W,hW⟩:∃W,Hid (W=w.alloc (.cells #[.string ⟨#[118]⟩,.string ⟨#[97]⟩,.string ⟨#[98]⟩,.string ⟨#[98,104]⟩,.string ⟨#[100]⟩,.string ⟨#[104]⟩,.string ⟨#[115]⟩] 9)):=⟨_,rfl⟩;rw[<-hW.out]at hA hL;have hbW:=hb.trans (hA.out.mono hb.size);have hrW:Hid (Blk W r #[.string ⟨#[]⟩,.string ⟨#[]⟩,.slice none 0 0,.int .i64 0,.int .i64 0,.int .i64 0] 47):=hr.out.below hA.out hr.out.lt;have hvW:Hid (Blk W v #[.string (B (domOf T)),.string ⟨#[]⟩,(.slice none 0 0),.int .i64 0,.int .i64 0,.int .i64 2] 47):=hv.out.below hA.out hv.out.lt;have hPW:=zH (hP.out.below hA.out);have HRP:=zH (hPW.out.rdP hPl);clear hr hv hP hb;go_wp2;rw[hgl.out,<-hW.out];clear hW hA;go_loopg [101] 7 (fun gk i w'=>∃k:Nat,Hid (k+gk=7)/\i=.int .i64 k/\Hid (∀i x,i < k->reqd[i]?=some x->hasTag x T=true)/\W=w')
 case atStart=>exact⟨0,rfl,rfl,fun i x h=>absurd h (Nat.not_lt_zero _),rfl⟩
 obtain⟨k,hk,rfl,hp,rfl⟩:=hrel;have hk':k<=7:=by have:=hk.out;omega
 by_cases hlt:k < 7
 ·obtain⟨x,hx⟩:∃x,reqd[k]?=some x:=⟨_,zG (show k < reqd.length from hlt)⟩
  have hck:W.cell? ⟨gl,k,none⟩=some (.string (B x)):=by rw[hL.out.cell k];simp[hx,strV]
  have hxm:x∈reqd:=List.mem_of_getElem? hx;have HX:=zH hx;clear hx;cases ht:hasTag x T with
  |false =>
   have HT:=zH ht;have hj:judgeT fields body field recs now T=2:=judgeT_no (fun E=>by have:=E.req x hxm;rw[HT.out]at this;cases this) _ _ _ _;rw[hj]at HR;clear ht hj;have p0:=hrW.out.cell 0;have f0:=hrW.out.frozen 0;have q0:=hvW.out.cell 0;have g0:=hvW.out.frozen 0;have p1:=hrW.out.cell 1;have f1:=hrW.out.frozen 1;have q1:=hvW.out.cell 1;have g1:=hvW.out.frozen 1;have p2:=hrW.out.cell 2;have f2:=hrW.out.frozen 2;have q2:=hvW.out.cell 2;have g2:=hvW.out.frozen 2;have p3:=hrW.out.cell 3;have f3:=hrW.out.frozen 3;have q3:=hvW.out.cell 3;have g3:=hvW.out.frozen 3;have p4:=hrW.out.cell 4;have f4:=hrW.out.frozen 4;have q4:=hvW.out.cell 4;have g4:=hvW.out.frozen 4;have p5:=hrW.out.cell 5;have f5:=hrW.out.frozen 5;have q5:=hvW.out.cell 5;have g5:=hvW.out.frozen 5;go_wp2_with (go_at_call 33;refine(c33q tv T x _ rfl _ HRP.out).mono ?_;rintro e wx⟨rfl,rfl⟩;rw[HT.out]);refine bodyPost_ret (results_cell rfl _ _ _ (by rfl) (ret6 hrW.out) (run_loadVar_row _ _ _ _ _ _ _ (ret6 hrW.out) Tryz.underlying47 rfl (by kernel_rfl))) rfl ?_;exact HR.out _ _ (JudP.of hbW hrl ⟨RdS.nil _,fun a q=>by cases q⟩ (fun q=>by cases q))
  |true =>
   have HT:=zH ht;clear ht;go_wp2_with (go_at_call 33;refine(c33q tv T x _ rfl _ HRP.out).mono ?_;rintro e wx⟨rfl,rfl⟩;rw[HT.out]);go_roundg (gk - 1)
   case measure=>have:=hk.out;omega
   case rel =>
    refine⟨k+1,by have:=hk.out;unfold Hid;omega,by go_num,fun i y hi hy=>?_,rfl⟩;by_cases hik:i=k
    ·subst hik
     have:=HX.out.symm.trans hy;injection this with this
     subst this;exact HT.out
    exact hp.out i y (by omega) hy
 have hall:∀t∈reqd,hasTag t T=true:=fun t ht=>by
  obtain⟨i,hi,hit⟩:=List.getElem_of_mem ht;have hi7:i < 7:=hi;exact hp.out i t (by omega) (by rw[<-hit];exact zG hi)
 go_wp2;refine useF 398 _ (by kernel_rfl) ?_;exact u9 _ ct2 hct2.out R w0 _ hZ hbW hrl hvl hne hrW hT rfl rfl rfl rfl rfl rfl rfl rfl hPW hPl (hok hall) hvW HR.out
theorem body45(ct:Code)(h:ct=tlS B45 8):Tryz.f45.body=some (joinS 8 B45 ct):=by subst h;kernel_rfl
theorem c45(w0:World)(fv rv:Value)(fields:List (List UInt8))(recs:List Rec)(body field:List UInt8)(now:Int)(hZ0:SZ w0 fv rv fields recs body field) :
  Calls Tryz.prog 45 #[fv,.string (B body),.string (B field),rv,.int .i64 now] w0 fun e w'=>∃T,JudP w0 w' e (judgeC fields body field recs now) T/\(judgeC fields body field recs now=0->tagsM (split 59 (cutZ 58 field)) []=some T):=by
 have hZ:=zH hZ0;clear hZ0;rw[judgeC_tags];obtain⟨vl,hvl⟩:∃vl,Hid (cutZ 58 field=vl):=⟨_,rfl⟩;have hvl1:vl.length<=20000:=by rw[<-hvl.out];exact zT (cutZ_le _ _) hZ.out.fl
 have hfl:=hZ.out.fl;rw[hvl.out];obtain⟨O,hO⟩:∃O,Hid (tagsM (split 59 vl) []=O):=⟨_,rfl⟩;rw[hO.out]
 suffices H:∀R:Ending->World->Prop,(∀e w',(∃T,JudP w0 w' e (match O with|none=>2|some T=>judgeT fields body field recs now T) T/\((match O with|none=>(2:Int)|some T=>judgeT fields body field recs now T)=0->O=some T))->R e w')->Calls Tryz.prog 45 #[fv,.string (B body),.string (B field),rv,.int .i64 now] w0 R from H _ (fun _ _ h=>h)
 intro R hR;have HR0:=zH hR;clear hR;obtain⟨r,hr0⟩:∃r,Hid (w0.heap.size=r):=⟨_,rfl⟩;have hA:Hid (Below w0.heap.size w0 ((w0.alloc (.cells #[.string ⟨#[]⟩,.string ⟨#[]⟩,.slice none 0 0,.int .i64 0,.int .i64 0,.int .i64 0] 47)).alloc (.cells #[.string ⟨#[]⟩,.string ⟨#[]⟩,(.slice none 0 0),.int .i64 0,.int .i64 0,.int .i64 2] 47))):=((zB _ w0).alloc (zR _) _).alloc (by simp) _;have hrA:Hid (Blk ((w0.alloc (.cells #[.string ⟨#[]⟩,.string ⟨#[]⟩,.slice none 0 0,.int .i64 0,.int .i64 0,.int .i64 0] 47)).alloc (.cells #[.string ⟨#[]⟩,.string ⟨#[]⟩,(.slice none 0 0),.int .i64 0,.int .i64 0,.int .i64 2] 47)) r #[.string ⟨#[]⟩,.string ⟨#[]⟩,.slice none 0 0,.int .i64 0,.int .i64 0,.int .i64 0] 47):=by
  rw[<-hr0.out];exact(Blk.new w0 #[.string ⟨#[]⟩,.string ⟨#[]⟩,.slice none 0 0,.int .i64 0,.int .i64 0,.int .i64 0] 47).below ((zB _ _).alloc (zR _) _) (by simp)
 have hvA:Hid (Blk ((w0.alloc (.cells #[.string ⟨#[]⟩,.string ⟨#[]⟩,.slice none 0 0,.int .i64 0,.int .i64 0,.int .i64 0] 47)).alloc (.cells #[.string ⟨#[]⟩,.string ⟨#[]⟩,(.slice none 0 0),.int .i64 0,.int .i64 0,.int .i64 2] 47)) (r+1) #[.string ⟨#[]⟩,.string ⟨#[]⟩,(.slice none 0 0),.int .i64 0,.int .i64 0,.int .i64 2] 47):=by
  have h3:=Blk.new (w0.alloc (.cells #[.string ⟨#[]⟩,.string ⟨#[]⟩,.slice none 0 0,.int .i64 0,.int .i64 0,.int .i64 0] 47)) #[.string ⟨#[]⟩,.string ⟨#[]⟩,(.slice none 0 0),.int .i64 0,.int .i64 0,.int .i64 2] 47;have h4:(w0.alloc (.cells #[.string ⟨#[]⟩,.string ⟨#[]⟩,.slice none 0 0,.int .i64 0,.int .i64 0,.int .i64 0] 47)).heap.size=r+1:=by rw[<-hr0.out];simp
  rw[h4]at h3;exact h3
 obtain⟨ct,hct⟩:∃ct,Hid (ct=tlS B45 8):=⟨_,rfl⟩;refine calls_of_wp Tryz.func45 (body45 ct hct.out) ?_;simp only[Tryz.ntmps45,List.size_toArray,List.length_cons,List.length_nil,Nat.reduceAdd,Nat.reduceSub,Array.replicate_succ,Array.replicate_zero,List.push_toArray,List.append_toArray,List.nil_append,List.cons_append];conv=>arg 2;arg 2;whnf
 simp only[joinS];go_upto_region 2 with fail
 obtain⟨W,hW⟩:∃W,Hid (W=(w0.alloc (.cells #[.string ⟨#[]⟩,.string ⟨#[]⟩,.slice none 0 0,.int .i64 0,.int .i64 0,.int .i64 0] 47)).alloc (.cells #[.string ⟨#[]⟩,.string ⟨#[]⟩,(.slice none 0 0),.int .i64 0,.int .i64 0,.int .i64 2] 47)):=⟨_,rfl⟩;rw[<-hW.out,hr0.out];rw[<-hW.out]at hA hrA hvA;obtain⟨v,hv0⟩:∃v,Hid (v=r+1):=⟨_,rfl⟩;rw[<-hv0.out]at hvA ⊢;have hne:¬r=v:=by have:=hv0.out;omega
 have hrl:w0.heap.size<=r:=Nat.le_of_eq hr0.out;have hvl0:w0.heap.size<=v:=by have:=hv0.out;omega
 have hrlt:=hrA.out.lt;have hvlt:=hvA.out.lt;clear hW hv0 hr0;cases O with
 |none =>
  have HR:Hid (∀e w',JudP w0 w' e 2 []->R e w'):=fun e w' h=>HR0.out e w' ⟨[],h,fun q=>by cases q⟩
  go_wp2_with (first
   |(go_at_call 55;refine(c55p field _ _ (by rw[size_B];omega)).mono ?_;rintro e w1⟨rfl,hb1⟩;rw[hvl.out])
   |(go_at_call 32;refine(c32 (B vl) _ (by rw[size_B];omega)).mono ?_;rintro e w2⟨tv,rfl,hp,hb2⟩;rw[L_B,hO.out]at hp ⊢;have hb12:=hb1.trans (hb2.mono hb1.size);have hr2:=zH (hrA.out.below hb12 hrlt);have hv2:=zH (hvA.out.below hb12 hvlt);have p0:=hr2.out.cell 0;have f0:=hr2.out.frozen 0;have q0:=hv2.out.cell 0;have g0:=hv2.out.frozen 0;have p1:=hr2.out.cell 1;have f1:=hr2.out.frozen 1;have q1:=hv2.out.cell 1;have g1:=hv2.out.frozen 1;have p2:=hr2.out.cell 2;have f2:=hr2.out.frozen 2;have q2:=hv2.out.cell 2;have g2:=hv2.out.frozen 2;have p3:=hr2.out.cell 3;have f3:=hr2.out.frozen 3;have q3:=hv2.out.cell 3;have g3:=hv2.out.frozen 3;have p4:=hr2.out.cell 4;have f4:=hr2.out.frozen 4;have q4:=hv2.out.cell 4;have g4:=hv2.out.frozen 4;have p5:=hr2.out.cell 5;have f5:=hr2.out.frozen 5;have q5:=hv2.out.cell 5;have g5:=hv2.out.frozen 5;rw[Option.isSome_none];rw[Option.getD_none]at hp)
   |(go_at_call 33;refine(c33q tv [] [118] _ rfl _ hp).mono ?_;rintro e wx⟨rfl,rfl⟩))
  refine bodyPost_ret (results_cell rfl _ _ _ (by rfl) (ret6 hr2.out) (run_loadVar_row _ _ _ _ _ _ _ (ret6 hr2.out) Tryz.underlying47 rfl (by kernel_rfl))) rfl ?_;exact HR.out _ _ (JudP.of (hA.out.trans (hb12.mono hA.out.size)) hrl ⟨RdS.nil _,fun a q=>by cases q⟩ (fun q=>by cases q))
 |some T =>
  have hT:Hid (∀t,(valOf t T).length<=20000):=fun t=>by
   have h1:=split_allLe 59 vl;have h2:=valOf_le (tagsM_le _ _ _ h1 (by simp) hO.out) t;omega
  have C32:Hid (∀W2:World,Calls Tryz.prog 32 #[.string (B vl)] W2 fun e w'=>∃tv,e=.returned (.tuple #[tv,.bool true])/\(∃base,OwnP w' base tv T/\T.length<=1152921504606846976)/\Below W2.heap.size W2 w'):=fun W2=>by
   have:=c32o (B vl) W2 (by rw[size_B];omega);rw[L_B,hO.out]at this;exact this
  have hsv:((B (valOf [118] T)).toList == [49])=(valOf [118] T == [49]):=by rw[toList_B]
  by_cases hv1:valOf [118] T=[49]
  ·have e1:((B (valOf [118] T)).toList == [49])=true:=by rw[hsv,hv1];rfl
   have e2:(!((B (valOf [118] T)).toList == [49]))=false:=by rw[e1];rfl
   have HV:=zH hv1;clear hsv hv1;go_wp2_with (first
    |(go_at_call 55;refine(c55p field _ _ (by rw[size_B];omega)).mono ?_;rintro e w1⟨rfl,hb1⟩;rw[hvl.out])
    |(go_at_call 32;refine(C32.out _).mono ?_;rintro e w2⟨tv,rfl,⟨base,hp,hpl⟩,hb2⟩;have HP:=zH hp;have HRP:=zH (hp.rdP hpl);clear hp)
    |(go_at_call_of 33 (Value.string ⟨#[118]⟩);refine(c33q tv T [118] _ rfl _ HRP.out).mono ?_;rintro e wx⟨rfl,rfl⟩)
    |(go_at_call_of 33 (Value.string ⟨#[100]⟩);refine(c33q tv T [100] _ rfl _ HRP.out).mono ?_;rintro e wx⟨rfl,rfl⟩)
    |(go_at_call 50;refine(c50p (valOf [100] T) _ (by rw[size_B];have:=hT.out [100];omega)).mono ?_;rintro e w3⟨rfl,hb3⟩;have hb13:=hb1.trans ((hb2.trans (hb3.mono hb2.size)).mono hb1.size);have hv3:=zH (hvA.out.below hb13 hvlt);have q0:=hv3.out.cell 0;have f0:=hv3.out.frozen 0))
   have hbz:=hA.out.trans (hb13.mono hA.out.size);refine useF 398 _ (by kernel_rfl) ?_;refine u8 _ ct hct.out _ w0 _ hZ (belowB_set hbz hvl0 hbz.size) hrl hvl0 hne (zH ((hrA.out.below hb13 hrlt).setNe hne)) hT rfl rfl rfl rfl rfl rfl rfl rfl (zH ((HP.out.below hb3).setNe hv3.out (by decide))) hpl (fun a b c d e f g=>⟨HV.out,a,b,c,d,e,f,g⟩) (zH ((hv3.out.set_ 0 _).to (by simp;rfl))) ?_;exact fun e w' h=>HR0.out e w' ⟨T,h,fun _=>rfl⟩
  have e1:((B (valOf [118] T)).toList == [49])=false:=by rw[hsv];exact zF hv1
  have e2:(!((B (valOf [118] T)).toList == [49]))=true:=by rw[e1];rfl
  have hj:judgeT fields body field recs now T=2:=judgeT_no (fun E=>hv1 E.v) _ _ _ _;have HR:Hid (∀e w',JudP w0 w' e 2 T->R e w'):=fun e w' h=>HR0.out e w' ⟨T,by simp only[hj];exact h,fun _=>rfl⟩
  clear hsv hv1 hj;go_wp2_with (first
   |(go_at_call 55;refine(c55p field _ _ (by rw[size_B];omega)).mono ?_;rintro e w1⟨rfl,hb1⟩;rw[hvl.out])
   |(go_at_call 32;refine(C32.out _).mono ?_;rintro e w2⟨tv,rfl,⟨base,hp,hpl⟩,hb2⟩;have HRP:=zH (hp.rdP hpl);have hb12:=hb1.trans (hb2.mono hb1.size);have hr2:=zH (hrA.out.below hb12 hrlt);have hv2:=zH (hvA.out.below hb12 hvlt);have p0:=hr2.out.cell 0;have f0:=hr2.out.frozen 0;have q0:=hv2.out.cell 0;have g0:=hv2.out.frozen 0;have p1:=hr2.out.cell 1;have f1:=hr2.out.frozen 1;have q1:=hv2.out.cell 1;have g1:=hv2.out.frozen 1;have p2:=hr2.out.cell 2;have f2:=hr2.out.frozen 2;have q2:=hv2.out.cell 2;have g2:=hv2.out.frozen 2;have p3:=hr2.out.cell 3;have f3:=hr2.out.frozen 3;have q3:=hv2.out.cell 3;have g3:=hv2.out.frozen 3;have p4:=hr2.out.cell 4;have f4:=hr2.out.frozen 4;have q4:=hv2.out.cell 4;have g4:=hv2.out.frozen 4;have p5:=hr2.out.cell 5;have f5:=hr2.out.frozen 5;have q5:=hv2.out.cell 5;have g5:=hv2.out.frozen 5)
   |(go_at_call_of 33 (Value.string ⟨#[118]⟩);refine(c33q tv T [118] _ rfl _ HRP.out).mono ?_;rintro e wx⟨rfl,rfl⟩))
  refine bodyPost_ret (results_cell rfl _ _ _ (by rfl) (ret6 hr2.out) (run_loadVar_row _ _ _ _ _ _ _ (ret6 hr2.out) Tryz.underlying47 rfl (by kernel_rfl))) rfl ?_;exact HR.out _ _ (JudP.of (hA.out.trans (hb12.mono hA.out.size)) hrl ⟨RdS.nil _,fun a q=>by cases q⟩ (fun q=>by cases q))
end Go.Proofs.YtnkihlpmmfeioaaGreatDoor
