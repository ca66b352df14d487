/- Part of the proof that laws.FnDVerifies answers true: A98,A99 -/
import Derived.Test.YtnkihlpmmfeioaaGreatDoorZ38
set_option linter.unusedVariables false
set_option linter.unusedSimpArgs false
set_option maxRecDepth 1000000
set_option maxHeartbeats 16000000
namespace Go.Proofs.YtnkihlpmmfeioaaGreatDoor
open Go.RowKit
theorem forms_none{T:List Pair}(h:hasTag [99] T=false):formA (valOf [99] T)=simpleL/\formB (valOf [99] T)=simpleL:=by rw[valOf_none h];exact⟨rfl,rfl⟩
theorem b45_27_32(ct:Code)(h:ct=tlS B45 32):tlS B45 27=joinS 5 (tlS B45 27) ct:=by subst h;kernel_rfl
theorem u27(F:Nat->Value)(ct:Code)(hct:ct=tlS B45 27)(R:Ending->World->Prop)(w0 w:World){fv rv:Value}{fields:List (List UInt8)}{recs:List Rec}{body field:List UInt8}{now:Int}{r v:Nat}{T:List Pair}(hZ:Hid (SZ w0 fv rv fields recs body field))(hb:Below w0.heap.size w0 w)(hrl:w0.heap.size<=r)(hvl:w0.heap.size<=v)(hne:¬r=v)(hr:Hid (Blk w r #[.string ⟨#[]⟩,.string ⟨#[]⟩,.slice none 0 0,.int .i64 0,.int .i64 0,.int .i64 0] 47))(hT:Hid (∀t,(valOf t T).length<=20000))(h0:F 0=fv)(h1:F 1=.string (B body))(h2:F 2=.string (B field))(h3:F 3=rv)(h4:F 4=.int .i64 now)(h10:F 10=.pointer (some ⟨r,0,none⟩))(h11:F 11=.pointer (some ⟨v,0,none⟩))
  {kk:Nat}{bv:Value}{K:Key}{tn xn:Int}(htn:Hid (tn=(timeOf [116] T).getD 0))(hxn:Hid (xn=(timeOf [120] T).getD 0)){AK:Option Addr}{cK:Nat}(hkey:Hid (RdS w (.slice AK (keysOf T).length cK) (keysOf T)))(hak:Hid (∀a,AK=some a->w0.heap.size<=a.block/\a.block < w.heap.size/\a.block≠r/\a.block≠v)){bP:Nat}{tv:Value}(h15:F 15=tv)(hP:Hid (OwnP w bP tv T))(hPl:T.length<=1152921504606846976)(h44:F 44=.pointer (some ⟨kk,0,none⟩))(hkc:Hid (w.cell? ⟨kk,1,none⟩=some bv))(hkb:Hid (RdB w bv K.bytes))(hkl:0 < K.bytes.length/\K.bytes.length<=536870912)(hkv:¬kk=v)(hkb2:∀g o n c,bv=.slice (some ⟨g,o,none⟩) n c->¬g=v)(hv:Hid (Blk w v #[.string (B (domOf T)),.string (B (identOf T)),(.slice AK (keysOf T).length cK),.int .i64 tn,.int .i64 xn,.int .i64 2] 47))(hR:∀e w',JudP w0 w' e (judgeF fields body field T K) T->R e w') :
  Code.wp Tryz.prog ct (bodyPost Tryz.prog Tryz.f45 R) ⟨frS 398 F,[]⟩ w:=by
 obtain⟨ct2,hct2⟩:∃ct2,Hid (ct2=tlS B45 32):=⟨_,rfl⟩;subst hct;rw[b45_27_32 ct2 hct2.out];conv=>arg 2;whnf
 simp only[joinS];rw[fr398,h0,h1,h2,h3,h4,h10,h11,h15,h44];have HR:=zH hR;clear hR;have HRP:=zH (hP.out.rdP hPl);obtain⟨fa,hfa⟩:∃fa,Hid (formA (valOf [99] T)=fa):=⟨_,rfl⟩;obtain⟨fb,hfb⟩:∃fb,Hid (formB (valOf [99] T)=fb):=⟨_,rfl⟩;unfold judgeF at HR;rw[hfa.out,hfb.out]at HR;cases hc:hasTag [99] T with
 |false =>
  have HC:=zH hc;obtain⟨hf1,hf2⟩:=forms_none hc;obtain rfl:fa=simpleL:=hfa.out.symm.trans hf1;obtain rfl:fb=simpleL:=hfb.out.symm.trans hf2;rw[if_neg (by decide)]at HR;clear hc hf1 hf2;cases hl:hasTag [108] T with
  |true =>
   have HL:=zH hl;rw[if_pos hl]at HR;clear hl;go_upto_region 68 with(first
    |(go_at_call_of 33 (Value.string ⟨#[99]⟩);refine(c33q tv T [99] _ rfl _ HRP.out).mono ?_;rintro e wx⟨rfl,rfl⟩;rw[HC.out])
    |(go_at_call 75;refine(c75 (B (valOf [99] T)) _ (by rw[size_B];have:=hT.out [99];omega)).mono ?_;rintro e w2⟨rfl,hB2⟩;rw[L_B,hfa.out,hfb.out,show(known simpleL && known simpleL)=true from rfl];have hrp2:=zH (hP.out.below hB2);have hrp3:=zH (hrp2.out.rdP hPl);have hr2:=zH (hr.out.below hB2 hr.out.lt);have hv2:=zH (hv.out.below hB2 hv.out.lt);have p0:=hr2.out.cell 0;have f0:=hr2.out.frozen 0;have q0:=hv2.out.cell 0;have g0:=hv2.out.frozen 0;have p1:=hr2.out.cell 1;have f1:=hr2.out.frozen 1;have q1:=hv2.out.cell 1;have g1:=hv2.out.frozen 1;have p2:=hr2.out.cell 2;have f2:=hr2.out.frozen 2;have q2:=hv2.out.cell 2;have g2:=hv2.out.frozen 2;have p3:=hr2.out.cell 3;have f3:=hr2.out.frozen 3;have q3:=hv2.out.cell 3;have g3:=hv2.out.frozen 3;have p4:=hr2.out.cell 4;have f4:=hr2.out.frozen 4;have q4:=hv2.out.cell 4;have g4:=hv2.out.frozen 4;have p5:=hr2.out.cell 5;have f5:=hr2.out.frozen 5;have q5:=hv2.out.cell 5;have g5:=hv2.out.frozen 5)
    |(go_at_call_of 33 (Value.string ⟨#[108]⟩);refine(c33q tv T [108] _ rfl _ hrp3.out).mono ?_;rintro e wx⟨rfl,rfl⟩;rw[HL.out]))
   have hvV:Hid (Blk (w2.setCell ⟨v,5,none⟩ (.int .i64 1)) v #[.string (B (domOf T)),.string (B (identOf T)),(.slice AK (keysOf T).length cK),.int .i64 tn,.int .i64 xn,.int .i64 1] 47):=(hv2.out.set_ 5 _).to (by simp);have hrV:Hid (Blk (w2.setCell ⟨v,5,none⟩ (.int .i64 1)) r #[.string ⟨#[]⟩,.string ⟨#[]⟩,.slice none 0 0,.int .i64 0,.int .i64 0,.int .i64 0] 47):=hr2.out.setNe hne;have hbz:=hb.trans (hB2.mono hb.size);have hbV:=belowB_set (u:=.int .i64 1) (k:=5) hbz hvl hbz.size;have hkV:=(hkey.out.below hB2).gr (Gr.of_grown (grown_set w2 v 5 (.int .i64 1))) (fun a q h=>(hak.out a q).2.2.2 (by injection h with h;exact h.symm));obtain⟨V,hV⟩:∃V,V=w2.setCell ⟨v,5,none⟩ (.int .i64 1):=⟨_,rfl⟩;rw[<-hV]at hvV hrV hbV hkV ⊢;clear hV p0 f0 q0 g0 p1 f1 q1 g1 p2 f2 q2 g2 p3 f3 q3 g3 p4 f4 q4 g4 p5 f5 q5 g5;have p0:=hrV.out.cell 0;have f0:=hrV.out.frozen 0;have q0:=hvV.out.cell 0;have g0:=hvV.out.frozen 0;have p1:=hrV.out.cell 1;have f1:=hrV.out.frozen 1;have q1:=hvV.out.cell 1;have g1:=hvV.out.frozen 1;have p2:=hrV.out.cell 2;have f2:=hrV.out.frozen 2;have q2:=hvV.out.cell 2;have g2:=hvV.out.frozen 2;have p3:=hrV.out.cell 3;have f3:=hrV.out.frozen 3;have q3:=hvV.out.cell 3;have g3:=hvV.out.frozen 3;have p4:=hrV.out.cell 4;have f4:=hrV.out.frozen 4;have q4:=hvV.out.cell 4;have g4:=hvV.out.frozen 4;have p5:=hrV.out.cell 5;have f5:=hrV.out.frozen 5;have q5:=hvV.out.cell 5;have g5:=hvV.out.frozen 5;go_wp2;refine bodyPost_ret (results_cell rfl _ _ _ (by rfl) (ret6 hrV.out) (run_loadVar_row _ _ _ _ _ _ _ (ret6 hrV.out) Tryz.underlying47 rfl (by kernel_rfl))) rfl ?_;exact HR.out _ _ (JudP.of hbV hrl ⟨hkV,fun a q=>⟨(hak.out a q).2.2.1,(hak.out a q).1⟩⟩ (fun q=>by cases q))
  |false =>
   have HL:=zH hl;rw[if_neg (by rw[hl];decide)]at HR;clear hl;go_wp2_with (first
    |(go_at_call_of 33 (Value.string ⟨#[99]⟩);refine(c33q tv T [99] _ rfl _ HRP.out).mono ?_;rintro e wx⟨rfl,rfl⟩;rw[HC.out])
    |(go_at_call 75;refine(c75 (B (valOf [99] T)) _ (by rw[size_B];have:=hT.out [99];omega)).mono ?_;rintro e w2⟨rfl,hB2⟩;rw[L_B,hfa.out,hfb.out,show(known simpleL && known simpleL)=true from rfl];have hrp2:=zH (hP.out.below hB2);have hrp3:=zH (hrp2.out.rdP hPl))
    |(go_at_call_of 33 (Value.string ⟨#[108]⟩);refine(c33q tv T [108] _ rfl _ hrp3.out).mono ?_;rintro e wx⟨rfl,rfl⟩;rw[HL.out]))
   refine useF 398 _ (by kernel_rfl) ?_;exact u32 _ ct2 hct2.out R w0 w2 hZ (hb.trans (hB2.mono hb.size)) hrl hvl hne (zH (hr.out.below hB2 hr.out.lt)) hT rfl rfl rfl rfl rfl rfl rfl htn hxn (zH (hkey.out.below hB2)) (zH (fun a q=>⟨(hak.out a q).1,zL (hak.out a q).2.1 hB2.size,(hak.out a q).2.2⟩)) rfl (zH (hP.out.below hB2)) hPl rfl (congrArg (fun l=>Value.string (B l)) hfa.out.symm) (congrArg (fun l=>Value.string (B l)) hfb.out.symm) (zH ((hB2.cell (cell_lt hkc.out)).trans hkc.out)) (zH (hkb.out.below' hB2)) hkl hkv hkb2 (zH (hv.out.below hB2 hv.out.lt)) HR.out
 |true =>
  have HC:=zH hc;clear hc;cases hk:known fa && known fb with
  |false =>
   have HK0:=zH hk;rw[if_pos hk]at HR;clear hk;go_wp2_with (first
    |(go_at_call_of 33 (Value.string ⟨#[99]⟩);refine(c33q tv T [99] _ rfl _ HRP.out).mono ?_;rintro e wx⟨rfl,rfl⟩;rw[HC.out])
    |(go_at_call 75;refine(c75 (B (valOf [99] T)) _ (by rw[size_B];have:=hT.out [99];omega)).mono ?_;rintro e w2⟨rfl,hB2⟩;rw[L_B,hfa.out,hfb.out,HK0.out];have hrp2:=zH (hP.out.below hB2);have hrp3:=zH (hrp2.out.rdP hPl);have hr2:=zH (hr.out.below hB2 hr.out.lt);have hv2:=zH (hv.out.below hB2 hv.out.lt);have p0:=hr2.out.cell 0;have f0:=hr2.out.frozen 0;have q0:=hv2.out.cell 0;have g0:=hv2.out.frozen 0;have p1:=hr2.out.cell 1;have f1:=hr2.out.frozen 1;have q1:=hv2.out.cell 1;have g1:=hv2.out.frozen 1;have p2:=hr2.out.cell 2;have f2:=hr2.out.frozen 2;have q2:=hv2.out.cell 2;have g2:=hv2.out.frozen 2;have p3:=hr2.out.cell 3;have f3:=hr2.out.frozen 3;have q3:=hv2.out.cell 3;have g3:=hv2.out.frozen 3;have p4:=hr2.out.cell 4;have f4:=hr2.out.frozen 4;have q4:=hv2.out.cell 4;have g4:=hv2.out.frozen 4;have p5:=hr2.out.cell 5;have f5:=hr2.out.frozen 5;have q5:=hv2.out.cell 5;have g5:=hv2.out.frozen 5)
    |(go_at_call_of 33 (Value.string ⟨#[108]⟩);refine(c33q tv T [108] _ rfl _ hrp3.out).mono ?_;rintro e wx⟨rfl,rfl⟩;rw[(rfl:hasTag [108] T=_)]))
   refine bodyPost_ret (results_cell rfl _ _ _ (by rfl) (ret6 hr2.out) (run_loadVar_row _ _ _ _ _ _ _ (ret6 hr2.out) Tryz.underlying47 rfl (by kernel_rfl))) rfl ?_;exact HR.out _ _ (JudP.of (hb.trans (hB2.mono hb.size)) hrl ⟨(hkey.out.below hB2),fun a q=>⟨(hak.out a q).2.2.1,(hak.out a q).1⟩⟩ (fun q=>by cases q))
  |true =>
   have HK0:=zH hk;rw[if_neg (by rw[hk];decide)]at HR;clear hk;cases hl:hasTag [108] T with
   |true =>
    have HL:=zH hl;rw[if_pos hl]at HR;clear hl;go_upto_region 68 with(first
     |(go_at_call_of 33 (Value.string ⟨#[99]⟩);refine(c33q tv T [99] _ rfl _ HRP.out).mono ?_;rintro e wx⟨rfl,rfl⟩;rw[HC.out])
     |(go_at_call 75;refine(c75 (B (valOf [99] T)) _ (by rw[size_B];have:=hT.out [99];omega)).mono ?_;rintro e w2⟨rfl,hB2⟩;rw[L_B,hfa.out,hfb.out,HK0.out];have hrp2:=zH (hP.out.below hB2);have hrp3:=zH (hrp2.out.rdP hPl);have hr2:=zH (hr.out.below hB2 hr.out.lt);have hv2:=zH (hv.out.below hB2 hv.out.lt);have p0:=hr2.out.cell 0;have f0:=hr2.out.frozen 0;have q0:=hv2.out.cell 0;have g0:=hv2.out.frozen 0;have p1:=hr2.out.cell 1;have f1:=hr2.out.frozen 1;have q1:=hv2.out.cell 1;have g1:=hv2.out.frozen 1;have p2:=hr2.out.cell 2;have f2:=hr2.out.frozen 2;have q2:=hv2.out.cell 2;have g2:=hv2.out.frozen 2;have p3:=hr2.out.cell 3;have f3:=hr2.out.frozen 3;have q3:=hv2.out.cell 3;have g3:=hv2.out.frozen 3;have p4:=hr2.out.cell 4;have f4:=hr2.out.frozen 4;have q4:=hv2.out.cell 4;have g4:=hv2.out.frozen 4;have p5:=hr2.out.cell 5;have f5:=hr2.out.frozen 5;have q5:=hv2.out.cell 5;have g5:=hv2.out.frozen 5)
     |(go_at_call_of 33 (Value.string ⟨#[108]⟩);refine(c33q tv T [108] _ rfl _ hrp3.out).mono ?_;rintro e wx⟨rfl,rfl⟩;rw[HL.out]))
    have hvV:Hid (Blk (w2.setCell ⟨v,5,none⟩ (.int .i64 1)) v #[.string (B (domOf T)),.string (B (identOf T)),(.slice AK (keysOf T).length cK),.int .i64 tn,.int .i64 xn,.int .i64 1] 47):=(hv2.out.set_ 5 _).to (by simp);have hrV:Hid (Blk (w2.setCell ⟨v,5,none⟩ (.int .i64 1)) r #[.string ⟨#[]⟩,.string ⟨#[]⟩,.slice none 0 0,.int .i64 0,.int .i64 0,.int .i64 0] 47):=hr2.out.setNe hne;have hbz:=hb.trans (hB2.mono hb.size);have hbV:=belowB_set (u:=.int .i64 1) (k:=5) hbz hvl hbz.size;have hkV:=(hkey.out.below hB2).gr (Gr.of_grown (grown_set w2 v 5 (.int .i64 1))) (fun a q h=>(hak.out a q).2.2.2 (by injection h with h;exact h.symm));obtain⟨V,hV⟩:∃V,V=w2.setCell ⟨v,5,none⟩ (.int .i64 1):=⟨_,rfl⟩;rw[<-hV]at hvV hrV hbV hkV ⊢;clear hV p0 f0 q0 g0 p1 f1 q1 g1 p2 f2 q2 g2 p3 f3 q3 g3 p4 f4 q4 g4 p5 f5 q5 g5;have p0:=hrV.out.cell 0;have f0:=hrV.out.frozen 0;have q0:=hvV.out.cell 0;have g0:=hvV.out.frozen 0;have p1:=hrV.out.cell 1;have f1:=hrV.out.frozen 1;have q1:=hvV.out.cell 1;have g1:=hvV.out.frozen 1;have p2:=hrV.out.cell 2;have f2:=hrV.out.frozen 2;have q2:=hvV.out.cell 2;have g2:=hvV.out.frozen 2;have p3:=hrV.out.cell 3;have f3:=hrV.out.frozen 3;have q3:=hvV.out.cell 3;have g3:=hvV.out.frozen 3;have p4:=hrV.out.cell 4;have f4:=hrV.out.frozen 4;have q4:=hvV.out.cell 4;have g4:=hvV.out.frozen 4;have p5:=hrV.out.cell 5;have f5:=hrV.out.frozen 5;have q5:=hvV.out.cell 5;have g5:=hvV.out.frozen 5;go_wp2;refine bodyPost_ret (results_cell rfl _ _ _ (by rfl) (ret6 hrV.out) (run_loadVar_row _ _ _ _ _ _ _ (ret6 hrV.out) Tryz.underlying47 rfl (by kernel_rfl))) rfl ?_;exact HR.out _ _ (JudP.of hbV hrl ⟨hkV,fun a q=>⟨(hak.out a q).2.2.1,(hak.out a q).1⟩⟩ (fun q=>by cases q))
   |false =>
    have HL:=zH hl;rw[if_neg (by rw[hl];decide)]at HR;clear hl;go_wp2_with (first
     |(go_at_call_of 33 (Value.string ⟨#[99]⟩);refine(c33q tv T [99] _ rfl _ HRP.out).mono ?_;rintro e wx⟨rfl,rfl⟩;rw[HC.out])
     |(go_at_call 75;refine(c75 (B (valOf [99] T)) _ (by rw[size_B];have:=hT.out [99];omega)).mono ?_;rintro e w2⟨rfl,hB2⟩;rw[L_B,hfa.out,hfb.out,HK0.out];have hrp2:=zH (hP.out.below hB2);have hrp3:=zH (hrp2.out.rdP hPl))
     |(go_at_call_of 33 (Value.string ⟨#[108]⟩);refine(c33q tv T [108] _ rfl _ hrp3.out).mono ?_;rintro e wx⟨rfl,rfl⟩;rw[HL.out]))
    refine useF 398 _ (by kernel_rfl) ?_;exact u32 _ ct2 hct2.out R w0 w2 hZ (hb.trans (hB2.mono hb.size)) hrl hvl hne (zH (hr.out.below hB2 hr.out.lt)) hT rfl rfl rfl rfl rfl rfl rfl htn hxn (zH (hkey.out.below hB2)) (zH (fun a q=>⟨(hak.out a q).1,zL (hak.out a q).2.1 hB2.size,(hak.out a q).2.2⟩)) rfl (zH (hP.out.below hB2)) hPl rfl (congrArg (fun l=>Value.string (B l)) hfa.out.symm) (congrArg (fun l=>Value.string (B l)) hfb.out.symm) (zH ((hB2.cell (cell_lt hkc.out)).trans hkc.out)) (zH (hkb.out.below' hB2)) hkl hkv hkb2 (zH (hv.out.below hB2 hv.out.lt)) HR.out
theorem b45_26_27(ct:Code)(h:ct=tlS B45 27):tlS B45 26=joinS 1 (tlS B45 26) ct:=by subst h;kernel_rfl
theorem u26n(F:Nat->Value)(ct:Code)(hct:ct=tlS B45 26)(R:Ending->World->Prop)(w0 w:World){fv rv:Value}{fields:List (List UInt8)}{recs:List Rec}{body field:List UInt8}{now:Int}{r v:Nat}{T:List Pair}(hZ:Hid (SZ w0 fv rv fields recs body field))(hb:Below w0.heap.size w0 w)(hrl:w0.heap.size<=r)(hvl:w0.heap.size<=v)(hne:¬r=v)(hr:Hid (Blk w r #[.string ⟨#[]⟩,.string ⟨#[]⟩,.slice none 0 0,.int .i64 0,.int .i64 0,.int .i64 0] 47))(hT:Hid (∀t,(valOf t T).length<=20000))(h0:F 0=fv)(h1:F 1=.string (B body))(h2:F 2=.string (B field))(h3:F 3=rv)(h4:F 4=.int .i64 now)(h10:F 10=.pointer (some ⟨r,0,none⟩))(h11:F 11=.pointer (some ⟨v,0,none⟩))
  {tn xn:Int}(htn:Hid (tn=(timeOf [116] T).getD 0))(hxn:Hid (xn=(timeOf [120] T).getD 0)){AK:Option Addr}{cK:Nat}(hkey:Hid (RdS w (.slice AK (keysOf T).length cK) (keysOf T)))(hak:Hid (∀a,AK=some a->w0.heap.size<=a.block/\a.block < w.heap.size/\a.block≠r/\a.block≠v))(h43:F 43=.int .i64 2)(hv:Hid (Blk w v #[.string (B (domOf T)),.string (B (identOf T)),(.slice AK (keysOf T).length cK),.int .i64 tn,.int .i64 xn,.int .i64 2] 47))(hR:∀e w',JudP w0 w' e (2) T->R e w') :
  Code.wp Tryz.prog ct (bodyPost Tryz.prog Tryz.f45 R) ⟨frS 398 F,[]⟩ w:=by
 obtain⟨ct2,hct2⟩:∃ct2,Hid (ct2=tlS B45 27):=⟨_,rfl⟩;subst hct;rw[b45_26_27 ct2 hct2.out];conv=>arg 2;whnf
 simp only[joinS];rw[fr398,h0,h1,h2,h3,h4,h10,h11,h43];have HR:=zH hR;clear hR;have p0:=hr.out.cell 0;have f0:=hr.out.frozen 0;have q0:=hv.out.cell 0;have g0:=hv.out.frozen 0;have p1:=hr.out.cell 1;have f1:=hr.out.frozen 1;have q1:=hv.out.cell 1;have g1:=hv.out.frozen 1;have p2:=hr.out.cell 2;have f2:=hr.out.frozen 2;have q2:=hv.out.cell 2;have g2:=hv.out.frozen 2;have p3:=hr.out.cell 3;have f3:=hr.out.frozen 3;have q3:=hv.out.cell 3;have g3:=hv.out.frozen 3;have p4:=hr.out.cell 4;have f4:=hr.out.frozen 4;have q4:=hv.out.cell 4;have g4:=hv.out.frozen 4;have p5:=hr.out.cell 5;have f5:=hr.out.frozen 5;have q5:=hv.out.cell 5;have g5:=hv.out.frozen 5;go_wp2;refine bodyPost_ret (results_cell rfl _ _ _ (by rfl) (ret6 hr.out) (run_loadVar_row _ _ _ _ _ _ _ (ret6 hr.out) Tryz.underlying47 rfl (by kernel_rfl))) rfl ?_;exact HR.out _ _ (JudP.of hb hrl ⟨hkey.out,fun a q=>⟨(hak.out a q).2.2.1,(hak.out a q).1⟩⟩ (fun q=>by cases q))
theorem hashOk_some{h:List UInt8}{K:Key}{hs:List (List UInt8)}(q:K.hashes=some hs):hashOk h K=among h hs:=by unfold hashOk;rw[q]
theorem hashOk_none{h:List UInt8}{K:Key}(q:K.hashes=none):hashOk h K=true:=by unfold hashOk;rw[q]
theorem servOk_some{K:Key}{ss:List (List UInt8)}(q:K.services=some ss):servOk K=among emailL ss:=by unfold servOk;rw[q]
theorem servOk_none{K:Key}(q:K.services=none):servOk K=true:=by unfold servOk;rw[q]
theorem b45_26_27y(ct:Code)(h:ct=tlS B45 27):tlS B45 26=joinS 1 (tlS B45 26) ct:=by subst h;kernel_rfl
theorem u26(F:Nat->Value)(ct:Code)(hct:ct=tlS B45 26)(R:Ending->World->Prop)(w0 w:World){fv rv:Value}{fields:List (List UInt8)}{recs:List Rec}{body field:List UInt8}{now:Int}{r v:Nat}{T:List Pair}(hZ:Hid (SZ w0 fv rv fields recs body field))(hb:Below w0.heap.size w0 w)(hrl:w0.heap.size<=r)(hvl:w0.heap.size<=v)(hne:¬r=v)(hr:Hid (Blk w r #[.string ⟨#[]⟩,.string ⟨#[]⟩,.slice none 0 0,.int .i64 0,.int .i64 0,.int .i64 0] 47))(hT:Hid (∀t,(valOf t T).length<=20000))(h0:F 0=fv)(h1:F 1=.string (B body))(h2:F 2=.string (B field))(h3:F 3=rv)(h4:F 4=.int .i64 now)(h10:F 10=.pointer (some ⟨r,0,none⟩))(h11:F 11=.pointer (some ⟨v,0,none⟩))
  {kk:Nat}{bv bits hv2 sv2 fv2 nt2:Value}{K:Key}(ka hh:List UInt8)(cf:Bool){tn xn:Int}(htn:Hid (tn=(timeOf [116] T).getD 0))(hxn:Hid (xn=(timeOf [120] T).getD 0)){AK:Option Addr}{cK:Nat}(hkey:Hid (RdS w (.slice AK (keysOf T).length cK) (keysOf T)))(hak:Hid (∀a,AK=some a->w0.heap.size<=a.block/\a.block < w.heap.size/\a.block≠r/\a.block≠v)){bP:Nat}{tv:Value}(h15:F 15=tv)(hP:Hid (OwnP w bP tv T))(hPl:T.length<=1152921504606846976)(h43:F 43=.int .i64 0)(h44:F 44=.pointer (some ⟨kk,0,none⟩))(h47:F 47=.string (B ka))(h48:F 48=.string (B hh))(h49:F 49=.bool cf)(hkB:Hid (Blk w kk #[.string (B K.kind),bv,bits,hv2,sv2,fv2,nt2,.bool K.hashes.isNone,.bool K.services.isNone] 129))(hkh:Hid (RdS w hv2 (K.hashes.getD [])))(hks:Hid (RdS w sv2 (K.services.getD [])))(hkb:Hid (RdB w bv K.bytes))(hkl:0 < K.bytes.length/\K.bytes.length<=536870912)(hkv:¬kk=v)(hkb2:∀g o n c,bv=.slice (some ⟨g,o,none⟩) n c->¬g=v)(hv:Hid (Blk w v #[.string (B (domOf T)),.string (B (identOf T)),(.slice AK (keysOf T).length cK),.int .i64 tn,.int .i64 xn,.int .i64 2] 47))(hR:∀e w',JudP w0 w' e (if(cf && (hashOk hh K && (hh == sha256L && (ka == K.kind) && servOk K)))=true then judgeF fields body field T K else 2) T->R e w') :
  Code.wp Tryz.prog ct (bodyPost Tryz.prog Tryz.f45 R) ⟨frS 398 F,[]⟩ w:=by
 obtain⟨ct2,hct2⟩:∃ct2,Hid (ct2=tlS B45 27):=⟨_,rfl⟩;subst hct;rw[b45_26_27y ct2 hct2.out];conv=>arg 2;whnf
 simp only[joinS];rw[fr398,h0,h1,h2,h3,h4,h10,h11,h15,h43,h44,h47,h48,h49];have HR:=zH hR;clear hR;have p0:=hr.out.cell 0;have f0:=hr.out.frozen 0;have q0:=hv.out.cell 0;have g0:=hv.out.frozen 0;have p1:=hr.out.cell 1;have f1:=hr.out.frozen 1;have q1:=hv.out.cell 1;have g1:=hv.out.frozen 1;have p2:=hr.out.cell 2;have f2:=hr.out.frozen 2;have q2:=hv.out.cell 2;have g2:=hv.out.frozen 2;have p3:=hr.out.cell 3;have f3:=hr.out.frozen 3;have q3:=hv.out.cell 3;have g3:=hv.out.frozen 3;have p4:=hr.out.cell 4;have f4:=hr.out.frozen 4;have q4:=hv.out.cell 4;have g4:=hv.out.frozen 4;have p5:=hr.out.cell 5;have f5:=hr.out.frozen 5;have q5:=hv.out.cell 5;have g5:=hv.out.frozen 5;have k0:=hkB.out.cell 0;have k3:=hkB.out.cell 3;have k4:=hkB.out.cell 4;have k7:=hkB.out.cell 7;have k8:=hkB.out.cell 8;have hs2:((B hh).toList == [115,104,97,50,53,54])=(hh == sha256L):=by rw[toList_B];rfl
 have hs3:=beq_str (B ka) (B K.kind);rw[L_B,L_B]at hs3;cases cf with
 |false =>
  rw[Bool.false_and,if_neg Bool.false_ne_true]at HR;clear hs2 hs3;go_wp2;refine bodyPost_ret (results_cell rfl _ _ _ (by rfl) (ret6 hr.out) (run_loadVar_row _ _ _ _ _ _ _ (ret6 hr.out) Tryz.underlying47 rfl (by kernel_rfl))) rfl ?_;exact HR.out _ _ (JudP.of hb hrl ⟨hkey.out,fun a q=>⟨(hak.out a q).2.2.1,(hak.out a q).1⟩⟩ (fun q=>by cases q))
 |true =>
  rw[Bool.true_and]at HR;cases hhs:K.hashes with
  |none =>
   rw[hashOk_none hhs]at HR;have k7':w.cell? ⟨kk,7,none⟩=some (.bool true):=by rw[k7,hhs];rfl
   clear k7 hhs;rw[Bool.true_and]at HR;by_cases h1:hh=sha256L
   ·have e1:((B hh).toList == [115,104,97,50,53,54])=true:=by rw[hs2,h1];rfl
    have e2:(!((B hh).toList == [115,104,97,50,53,54]))=false:=by rw[e1];rfl
    rw[show(hh == sha256L)=true by rw[h1];rfl,Bool.true_and]at HR;clear h1 hs2;by_cases h2:ka=K.kind
    ·have e3:((B ka).toList == (B K.kind).toList)=true:=by rw[hs3,h2];simp
     have e4:(!((B ka).toList == (B K.kind).toList))=false:=by rw[e3];rfl
     rw[show(ka == K.kind)=true by rw[h2];simp,Bool.true_and]at HR;clear h2 hs3;cases hsv:K.services with
     |none =>
      rw[servOk_none hsv,if_pos rfl]at HR;have k8':w.cell? ⟨kk,8,none⟩=some (.bool true):=by rw[k8,hsv];rfl
      clear k8 hsv;go_wp2;refine useF 398 _ (by kernel_rfl) ?_;exact u27 _ ct2 hct2.out R w0 _ hZ hb hrl hvl hne hr hT rfl rfl rfl rfl rfl rfl rfl htn hxn hkey hak rfl hP hPl rfl (zH ((hkB.out.cell 1).trans rfl)) hkb hkl hkv hkb2 hv HR.out
     |some ss =>
      rw[servOk_some hsv]at HR;have k8':w.cell? ⟨kk,8,none⟩=some (.bool false):=by rw[k8,hsv];rfl
      have HRS:Hid (RdS w sv2 ss):=by have:=hks.out;rw[hsv]at this;exact this
      clear k8 hsv;cases hae:among emailL ss with
      |true =>
       rw[hae,if_pos rfl]at HR;have HAE:=zH hae;clear hae;go_wp2_with (first
        |(go_at_call_of 72 (Value.string ⟨#[101,109,97,105,108]⟩);refine(c72 ⟨#[101,109,97,105,108]⟩ sv2 ss _ HRS.out).mono ?_;rintro e wx⟨rfl,rfl⟩;rw[show(⟨#[101,109,97,105,108]⟩:ByteArray).data.toList=emailL from rfl,HAE.out]))
       refine useF 398 _ (by kernel_rfl) ?_;exact u27 _ ct2 hct2.out R w0 _ hZ hb hrl hvl hne hr hT rfl rfl rfl rfl rfl rfl rfl htn hxn hkey hak rfl hP hPl rfl (zH ((hkB.out.cell 1).trans rfl)) hkb hkl hkv hkb2 hv HR.out
      |false =>
       rw[hae,if_neg Bool.false_ne_true]at HR;have HAE:=zH hae;clear hae;go_wp2_with (first
        |(go_at_call_of 72 (Value.string ⟨#[101,109,97,105,108]⟩);refine(c72 ⟨#[101,109,97,105,108]⟩ sv2 ss _ HRS.out).mono ?_;rintro e wx⟨rfl,rfl⟩;rw[show(⟨#[101,109,97,105,108]⟩:ByteArray).data.toList=emailL from rfl,HAE.out]))
       refine bodyPost_ret (results_cell rfl _ _ _ (by rfl) (ret6 hr.out) (run_loadVar_row _ _ _ _ _ _ _ (ret6 hr.out) Tryz.underlying47 rfl (by kernel_rfl))) rfl ?_;exact HR.out _ _ (JudP.of hb hrl ⟨hkey.out,fun a q=>⟨(hak.out a q).2.2.1,(hak.out a q).1⟩⟩ (fun q=>by cases q))
    have e3:((B ka).toList == (B K.kind).toList)=false:=by rw[hs3];exact zF h2
    have e4:(!((B ka).toList == (B K.kind).toList))=true:=by rw[e3];rfl
    rw[show(ka == K.kind)=false from zF h2,Bool.false_and,if_neg Bool.false_ne_true]at HR;clear h2 hs3;go_wp2;refine bodyPost_ret (results_cell rfl _ _ _ (by rfl) (ret6 hr.out) (run_loadVar_row _ _ _ _ _ _ _ (ret6 hr.out) Tryz.underlying47 rfl (by kernel_rfl))) rfl ?_;exact HR.out _ _ (JudP.of hb hrl ⟨hkey.out,fun a q=>⟨(hak.out a q).2.2.1,(hak.out a q).1⟩⟩ (fun q=>by cases q))
   have e1:((B hh).toList == [115,104,97,50,53,54])=false:=by rw[hs2];exact zF h1
   have e2:(!((B hh).toList == [115,104,97,50,53,54]))=true:=by rw[e1];rfl
   rw[show(hh == sha256L)=false from zF h1,Bool.false_and,Bool.false_and,if_neg Bool.false_ne_true]at HR;clear h1 hs2 hs3;go_wp2;refine bodyPost_ret (results_cell rfl _ _ _ (by rfl) (ret6 hr.out) (run_loadVar_row _ _ _ _ _ _ _ (ret6 hr.out) Tryz.underlying47 rfl (by kernel_rfl))) rfl ?_;exact HR.out _ _ (JudP.of hb hrl ⟨hkey.out,fun a q=>⟨(hak.out a q).2.2.1,(hak.out a q).1⟩⟩ (fun q=>by cases q))
  |some hs =>
   rw[hashOk_some hhs]at HR;have k7':w.cell? ⟨kk,7,none⟩=some (.bool false):=by rw[k7,hhs];rfl
   have HRH:Hid (RdS w hv2 hs):=by have:=hkh.out;rw[hhs]at this;exact this
   clear k7 hhs;cases hah:among hh hs with
   |true =>
    rw[hah]at HR;have HAH:=zH hah;clear hah;rw[Bool.true_and]at HR;by_cases h1:hh=sha256L
    ·have e1:((B hh).toList == [115,104,97,50,53,54])=true:=by rw[hs2,h1];rfl
     have e2:(!((B hh).toList == [115,104,97,50,53,54]))=false:=by rw[e1];rfl
     rw[show(hh == sha256L)=true by rw[h1];rfl,Bool.true_and]at HR;clear h1 hs2;by_cases h2:ka=K.kind
     ·have e3:((B ka).toList == (B K.kind).toList)=true:=by rw[hs3,h2];simp
      have e4:(!((B ka).toList == (B K.kind).toList))=false:=by rw[e3];rfl
      rw[show(ka == K.kind)=true by rw[h2];simp,Bool.true_and]at HR;clear h2 hs3;cases hsv:K.services with
      |none =>
       rw[servOk_none hsv,if_pos rfl]at HR;have k8':w.cell? ⟨kk,8,none⟩=some (.bool true):=by rw[k8,hsv];rfl
       clear k8 hsv;go_wp2_with (first
        |(go_at_call_of 72 (Value.string (B hh));refine(c72 (B hh) hv2 hs _ HRH.out).mono ?_;rintro e wx⟨rfl,rfl⟩;rw[L_B,HAH.out]))
       refine useF 398 _ (by kernel_rfl) ?_;exact u27 _ ct2 hct2.out R w0 _ hZ hb hrl hvl hne hr hT rfl rfl rfl rfl rfl rfl rfl htn hxn hkey hak rfl hP hPl rfl (zH ((hkB.out.cell 1).trans rfl)) hkb hkl hkv hkb2 hv HR.out
      |some ss =>
       rw[servOk_some hsv]at HR;have k8':w.cell? ⟨kk,8,none⟩=some (.bool false):=by rw[k8,hsv];rfl
       have HRS:Hid (RdS w sv2 ss):=by have:=hks.out;rw[hsv]at this;exact this
       clear k8 hsv;cases hae:among emailL ss with
       |true =>
        rw[hae,if_pos rfl]at HR;have HAE:=zH hae;clear hae;go_wp2_with (first
         |(go_at_call_of 72 (Value.string (B hh));refine(c72 (B hh) hv2 hs _ HRH.out).mono ?_;rintro e wx⟨rfl,rfl⟩;rw[L_B,HAH.out])
         |(go_at_call_of 72 (Value.string ⟨#[101,109,97,105,108]⟩);refine(c72 ⟨#[101,109,97,105,108]⟩ sv2 ss _ HRS.out).mono ?_;rintro e wx⟨rfl,rfl⟩;rw[show(⟨#[101,109,97,105,108]⟩:ByteArray).data.toList=emailL from rfl,HAE.out]))
        refine useF 398 _ (by kernel_rfl) ?_;exact u27 _ ct2 hct2.out R w0 _ hZ hb hrl hvl hne hr hT rfl rfl rfl rfl rfl rfl rfl htn hxn hkey hak rfl hP hPl rfl (zH ((hkB.out.cell 1).trans rfl)) hkb hkl hkv hkb2 hv HR.out
       |false =>
        rw[hae,if_neg Bool.false_ne_true]at HR;have HAE:=zH hae;clear hae;go_wp2_with (first
         |(go_at_call_of 72 (Value.string (B hh));refine(c72 (B hh) hv2 hs _ HRH.out).mono ?_;rintro e wx⟨rfl,rfl⟩;rw[L_B,HAH.out])
         |(go_at_call_of 72 (Value.string ⟨#[101,109,97,105,108]⟩);refine(c72 ⟨#[101,109,97,105,108]⟩ sv2 ss _ HRS.out).mono ?_;rintro e wx⟨rfl,rfl⟩;rw[show(⟨#[101,109,97,105,108]⟩:ByteArray).data.toList=emailL from rfl,HAE.out]))
        refine bodyPost_ret (results_cell rfl _ _ _ (by rfl) (ret6 hr.out) (run_loadVar_row _ _ _ _ _ _ _ (ret6 hr.out) Tryz.underlying47 rfl (by kernel_rfl))) rfl ?_;exact HR.out _ _ (JudP.of hb hrl ⟨hkey.out,fun a q=>⟨(hak.out a q).2.2.1,(hak.out a q).1⟩⟩ (fun q=>by cases q))
     have e3:((B ka).toList == (B K.kind).toList)=false:=by rw[hs3];exact zF h2
     have e4:(!((B ka).toList == (B K.kind).toList))=true:=by rw[e3];rfl
     rw[show(ka == K.kind)=false from zF h2,Bool.false_and,if_neg Bool.false_ne_true]at HR;clear h2 hs3;go_wp2_with (first
      |(go_at_call_of 72 (Value.string (B hh));refine(c72 (B hh) hv2 hs _ HRH.out).mono ?_;rintro e wx⟨rfl,rfl⟩;rw[L_B,HAH.out]))
     refine bodyPost_ret (results_cell rfl _ _ _ (by rfl) (ret6 hr.out) (run_loadVar_row _ _ _ _ _ _ _ (ret6 hr.out) Tryz.underlying47 rfl (by kernel_rfl))) rfl ?_;exact HR.out _ _ (JudP.of hb hrl ⟨hkey.out,fun a q=>⟨(hak.out a q).2.2.1,(hak.out a q).1⟩⟩ (fun q=>by cases q))
    have e1:((B hh).toList == [115,104,97,50,53,54])=false:=by rw[hs2];exact zF h1
    have e2:(!((B hh).toList == [115,104,97,50,53,54]))=true:=by rw[e1];rfl
    rw[show(hh == sha256L)=false from zF h1,Bool.false_and,Bool.false_and,if_neg Bool.false_ne_true]at HR;clear h1 hs2 hs3;go_wp2_with (first
     |(go_at_call_of 72 (Value.string (B hh));refine(c72 (B hh) hv2 hs _ HRH.out).mono ?_;rintro e wx⟨rfl,rfl⟩;rw[L_B,HAH.out]))
    refine bodyPost_ret (results_cell rfl _ _ _ (by rfl) (ret6 hr.out) (run_loadVar_row _ _ _ _ _ _ _ (ret6 hr.out) Tryz.underlying47 rfl (by kernel_rfl))) rfl ?_;exact HR.out _ _ (JudP.of hb hrl ⟨hkey.out,fun a q=>⟨(hak.out a q).2.2.1,(hak.out a q).1⟩⟩ (fun q=>by cases q))
   |false =>
    rw[hah,Bool.false_and,if_neg Bool.false_ne_true]at HR;have HAH:=zH hah;clear hah hs2 hs3;go_wp2_with (first
     |(go_at_call_of 72 (Value.string (B hh));refine(c72 (B hh) hv2 hs _ HRH.out).mono ?_;rintro e wx⟨rfl,rfl⟩;rw[L_B,HAH.out]))
    refine bodyPost_ret (results_cell rfl _ _ _ (by rfl) (ret6 hr.out) (run_loadVar_row _ _ _ _ _ _ _ (ret6 hr.out) Tryz.underlying47 rfl (by kernel_rfl))) rfl ?_;exact HR.out _ _ (JudP.of hb hrl ⟨hkey.out,fun a q=>⟨(hak.out a q).2.2.1,(hak.out a q).1⟩⟩ (fun q=>by cases q))
end Go.Proofs.YtnkihlpmmfeioaaGreatDoor
