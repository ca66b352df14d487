/- Part of the proof that laws.FnDVerifies answers true: A93,A94,K13 -/
import Derived.Test.YtnkihlpmmfeioaaGreatDoorZ44
set_option linter.unusedVariables false
set_option linter.unusedSimpArgs false
set_option maxRecDepth 1000000
set_option maxHeartbeats 16000000
namespace Go.Proofs.YtnkihlpmmfeioaaGreatDoor
open Go.RowKit
theorem ends_suf(s t:List UInt8):Lib.hasSuffix s t=endsWith s t:=by
 rw[Bool.eq_iff_iff];simp only[Lib.hasSuffix,endsWith,Bool.and_eq_true,decide_eq_true_eq,beq_iff_eq,List.isSuffixOf_iff_suffix];constructor
 ·intro h;exact⟨h.length_le,(List.suffix_iff_eq_drop.1 h).symm⟩
 rintro⟨_,h⟩;exact List.suffix_iff_eq_drop.2 h.symm
theorem cHS(s t:List UInt8)(r:Bool)(w:World)(hs:s.length<=9223372036854775807)(h:endsWith s t=r):Calls Tryz.prog 99 #[.string (B s),.string (B t)] w fun e w'=>e=.returned (.bool r)/\Below w.heap.size w w':=by
 refine(Tryz.strings_HasSuffix (B s) (B t) w (by rw[size_B];exact hs)).mono ?_;rintro e w'⟨rfl,rfl⟩;refine⟨?_,zB _ _⟩;rw[L_B,L_B,ends_suf,h]
section
variable {P:Program}{ops:Array Oper}{C:World->Prop}{Q:Act->Prop}{a:Act}{o:Oper}{rest:List Oper}{Y:Act->Prop}
theorem wpQuiet_startY{l:List Oper}(h:∀Y:Act->Prop,Hid (Y=wpQuiet P ops C Q l)->Y a):wpQuiet P ops C Q l a:=h _ (zH rfl)
theorem wpQuiet_wantY(hY:Hid (Y=wpQuiet P ops C Q (o::rest)))(h0:Region.wanted o (yielded ops a.tmps)=true)
  (h:∀K Y2:Act->Prop,Hid (Y2=wpQuiet P ops C Q rest)->(∀a,Y2 a->K a)->o.quiet P a C K):Y a:=by
 rw[hY.out];unfold wpQuiet;rw[if_pos h0];exact h _ _ (zH rfl) (fun _ h=>h)
theorem wpQuiet_skipY(hY:Hid (Y=wpQuiet P ops C Q (o::rest)))(h0:Region.wanted o (yielded ops a.tmps)=false)
  (h:∀Y2:Act->Prop,Hid (Y2=wpQuiet P ops C Q rest)->Y2 (a.put o.dst undef)):Y a:=by
 rw[hY.out];unfold wpQuiet;rw[if_neg (by rw[h0];decide)];exact h _ (zH rfl)
theorem wpQuiet_nilY(hY:Hid (Y=wpQuiet P ops C Q []))(h:Q a):Y a:=by rw[hY.out];exact h
end
theorem consB(c:UInt8)(l:List UInt8):(⟨#[c]⟩:ByteArray)++B l=B (c::l):=by rw[<-B_L (⟨#[c]⟩++B l),L_append,L_B];rfl
theorem b64_7_8(ct:Code)(h:ct=tlS B64 8):tlS B64 7=joinS 1 (tlS B64 7) ct:=by subst h;kernel_rfl
theorem t7(F:Nat->Value)(ct:Code)(hct:ct=tlS B64 7)(R:Ending->World->Prop)(w0 w:World){Z:Nat->Prop}{g0 tyr po cH:Nat}{AH:Option Addr}{pr:Value}{pa:Addr}{v0:Value}{recs:List Rec}{pS pR:Addr}{txS txR:ByteArray}{now:Int}{nb:Bool}{body field:List UInt8}{fields:List (List UInt8)}{vp mp nM:Nat}{T:List Pair}  (hZ:Hid (VZ w0 Z g0 tyr po cH AH pr pa v0 recs pS pR txS txR now nb body field fields))(hb:Below w0.heap.size w0 w)(hvp:w0.heap.size<=vp)(hvb:Hid (Blk w vp #[.string (B (domOf T)),.string ⟨#[]⟩,(.slice none 0 0),.int .i64 0,.bool false,.int .i64 0,.bool false,.nilIface] 90))(hM:Hid (OwnM w mp nM T))(hmp:w0.heap.size<=mp)(hT:Hid (∀t,(valOf t T).length<=20000/\plainL (valOf t T)))(h0:F 0=.slice AH fields.length cH)(h1:F 1=.iface tyr pr)(h2:F 2=.string (B field))(h4:F 4=.pointer (some ⟨po,0,none⟩))(h12:F 12=.pointer (some ⟨vp,0,none⟩))(h13:F 13=.map (some mp))(h14:F 14=.nilIface)(hok:identOk T=true->hasFrom T=true->((timeOf [116] T).isSome=true->(timeOf [120] T).isSome=true->¬(hasTag [120] T=true/\now > (timeOf [120] T).getD 0)->¬(hasTag [113] T=true/\among dnstxtL (listOf (valOf [113] T))=false)->Early T now))
  (hR:∀(err:Value) (w':World),ErrIs err (judgeT fields body field recs now T)->VerB w' vp T (judgeT fields body field recs now T)->Gr (fun k=>Z k\/w0.heap.size<=k) w0 w'->R (.returned (.tuple #[.pointer (some ⟨vp,0,none⟩),err])) w') :
  Code.wp Tryz.prog ct (bodyPost Tryz.prog Tryz.f64 R) ⟨frS 506 F,[]⟩ w:=by
 obtain⟨ct2,hct2⟩:∃ct2,Hid (ct2=tlS B64 8):=⟨_,rfl⟩;subst hct;rw[b64_7_8 ct2 hct2.out];conv=>arg 2;whnf
 simp only[joinS];rw[fr506,h0,h1,h2,h4,h12,h13,h14];have HR:=zH hR;have hk:=hM.out.look_ok ⟨#[105]⟩ (by decide);rw[show(⟨#[105]⟩:ByteArray).data.toList=[105]from rfl]at hk;have hap1:=consB 64 (domOf T);have hap2:=consB 46 (domOf T);have hdl:(domOf T).length<=20000:=zT (strip_le _) (hT.out [100]).1;have hdB:(B (domOf T)).size<=20000:=by rw[size_B];exact hdl
 have hne:=hM.out.ne_blk hvb.out;have hvl:=hvb.out.lt;clear hR;cases hi:hasTag [105] T with
 |true =>
  rw[hi]at hk;obtain⟨idt,hidt⟩:∃idt,Hid (strip (valOf [105] T)=idt):=⟨_,rfl⟩;have hIO:identOf T=idt:=by unfold identOf;rw[if_pos hi];exact hidt.out
  have hil:idt.length<=9223372036854775807:=by have h1:=strip_le (valOf [105] T);have h2:=(hT.out [105]).1;rw[hidt.out]at h1;omega
  go_upto_region 18 with(go_at_call 98;refine(c98p (valOf [105] T) _ (by rw[size_B];have:=(hT.out [105]).1;omega) (hT.out _).2).mono ?_;rintro e w1⟨rfl,hb1⟩;rw[hidt.out];have hv1:=zH (hvb.out.below hb1 hvl);have q1:=hv1.out.cell 1;have f1:=hv1.out.frozen 1)
  have hfin:Hid (Blk (w1.setCell ⟨vp,1,none⟩ (.string (B idt))) vp #[.string (B (domOf T)),.string (B (identOf T)),(.slice none 0 0),.int .i64 0,.bool false,.int .i64 0,.bool false,.nilIface] 90):=Blk.to (hv1.out.set_ 1 _) (by rw[hIO];simp);have hbf:Hid (Below w0.heap.size w0 (w1.setCell ⟨vp,1,none⟩ (.string (B idt)))):=belowB_set (hb.trans (hb1.mono hb.size)) hvp (hb.trans (hb1.mono hb.size)).size;have hMf:Hid (OwnM (w1.setCell ⟨vp,1,none⟩ (.string (B idt))) mp nM T):=(hM.out.below hb1).grown (grown_set w1 vp 1 _) (by simpa using hne);obtain⟨V,hV⟩:∃V,V=w1.setCell ⟨vp,1,none⟩ (.string (B idt)):=⟨_,rfl⟩;rw[<-hV]at hfin hbf hMf ⊢;have kd0:=cell_regrown (hfin.out.cell 0);have kd1:=cell_regrown (hfin.out.cell 1);rw[hIO]at kd1;clear hV q1 f1;cases h1:endsWith idt (64::domOf T)with
  |true =>
   have hsz1:¬9223372036854775807 < 1+(B (domOf T)).size:=by omega
   refine wp_region_quiet_below (by kernel_rfl) (by kernel_rfl) ?_;refine wpQuiet_startY (fun Y hY=>?_)
   iterate 12 (refine wpQuiet_wantY (by assumption) (by kernel_rfl) (fun K Y2 hY2 hK=>?_);go_simp;first|(refine hK _ ?_;clear hK K)|(apply Exists.intro;refine⟨fun _=>?_,hK _ ?_⟩;((first|(go_at_call_of 99 (B (64::domOf T));exact Calls.regrown_of (cHS idt (64::domOf T) true _ hil h1))|(go_at_call_of 99 (B (46::domOf T));exact Calls.regrown_of (cHS idt (46::domOf T) true _ hil h1))));clear hK K))
   iterate 11 (refine wpQuiet_skipY (by assumption) (by kernel_rfl) (fun Y2 hY2=>?_))
   iterate 1 (refine wpQuiet_wantY (by assumption) (by kernel_rfl) (fun K Y2 hY2 hK=>?_);go_simp;first|(refine hK _ ?_;clear hK K)|(apply Exists.intro;refine⟨fun _=>?_,hK _ ?_⟩;((first|(go_at_call_of 99 (B (64::domOf T));exact Calls.regrown_of (cHS idt (64::domOf T) true _ hil h1))|(go_at_call_of 99 (B (46::domOf T));exact Calls.regrown_of (cHS idt (46::domOf T) true _ hil h1))));clear hK K))
   refine wpQuiet_nilY (by assumption) ?_;intro _ hw';obtain⟨⟨dq,osq⟩,hw''⟩:=hw';subst hw'';have hB3:=below_regrown V dq osq;obtain⟨U,hU⟩:∃U,U=Go.Sort.grow (redrawn V dq) osq:=⟨_,rfl⟩;rw[<-hU]at hB3 ⊢;clear hU;have hbU:=hbf.out.trans (hB3.mono hbf.out.size);go_wp2;refine useF 506 _ (by kernel_rfl) ?_;exact t8 _ ct2 hct2.out R w0 _ hZ hbU hvp (zH (hfin.out.below hB3 hfin.out.lt)) (zH (hMf.out.below hB3)) hmp hT rfl rfl rfl rfl rfl rfl rfl (hok (by unfold identOk;rw[hIO,h1,Bool.or_true,Bool.true_or])) HR.out
  |false =>
   cases h2:endsWith idt (46::domOf T)with
   |true =>
    have hsz1:¬9223372036854775807 < 1+(B (domOf T)).size:=by omega
    refine wp_region_quiet_below (by kernel_rfl) (by kernel_rfl) ?_;refine wpQuiet_startY (fun Y hY=>?_)
    iterate 24 (refine wpQuiet_wantY (by assumption) (by kernel_rfl) (fun K Y2 hY2 hK=>?_);go_simp;first|(refine hK _ ?_;clear hK K)|(apply Exists.intro;refine⟨fun _=>?_,hK _ ?_⟩;((first|(go_at_call_of 99 (B (64::domOf T));exact Calls.regrown_of (cHS idt (64::domOf T) false _ hil h1))|(go_at_call_of 99 (B (46::domOf T));exact Calls.regrown_of (cHS idt (46::domOf T) true _ hil h2))));clear hK K))
    refine wpQuiet_nilY (by assumption) ?_;intro _ hw';obtain⟨⟨dq,osq⟩,hw''⟩:=hw';subst hw'';have hB3:=below_regrown V dq osq;obtain⟨U,hU⟩:∃U,U=Go.Sort.grow (redrawn V dq) osq:=⟨_,rfl⟩;rw[<-hU]at hB3 ⊢;clear hU;have hbU:=hbf.out.trans (hB3.mono hbf.out.size);go_wp2;refine useF 506 _ (by kernel_rfl) ?_;exact t8 _ ct2 hct2.out R w0 _ hZ hbU hvp (zH (hfin.out.below hB3 hfin.out.lt)) (zH (hMf.out.below hB3)) hmp hT rfl rfl rfl rfl rfl rfl rfl (hok (by unfold identOk;rw[hIO,h2,Bool.or_true])) HR.out
   |false =>
    have hsz1:¬9223372036854775807 < 1+(B (domOf T)).size:=by omega
    refine wp_region_quiet_below (by kernel_rfl) (by kernel_rfl) ?_;refine wpQuiet_startY (fun Y hY=>?_)
    iterate 24 (refine wpQuiet_wantY (by assumption) (by kernel_rfl) (fun K Y2 hY2 hK=>?_);go_simp;first|(refine hK _ ?_;clear hK K)|(apply Exists.intro;refine⟨fun _=>?_,hK _ ?_⟩;((first|(go_at_call_of 99 (B (64::domOf T));exact Calls.regrown_of (cHS idt (64::domOf T) false _ hil h1))|(go_at_call_of 99 (B (46::domOf T));exact Calls.regrown_of (cHS idt (46::domOf T) false _ hil h2))));clear hK K))
    refine wpQuiet_nilY (by assumption) ?_;intro _ hw';obtain⟨⟨dq,osq⟩,hw''⟩:=hw';subst hw'';have hB3:=below_regrown V dq osq;obtain⟨U,hU⟩:∃U,U=Go.Sort.grow (redrawn V dq) osq:=⟨_,rfl⟩;rw[<-hU]at hB3 ⊢;clear hU;have hbU:=hbf.out.trans (hB3.mono hbf.out.size);go_wp2;have hj:judgeT fields body field recs now T=2:=judgeT_no (fun E=>by have:=E.ident;unfold identOk at this;rw[hIO,h1,h2,hi]at this;cases this) _ _ _ _;exact HR.out _ _ (.inr (.inl ⟨_,rfl,hj⟩)) (VerB.perm hZ.out hbU hvp (hfin.out.below hB3 hfin.out.lt) (by rw[hj];decide)) (Gr.of_below hbU)
 |false =>
  rw[hi]at hk;have hIO:identOf T=64::domOf T:=by unfold identOf;rw[if_neg (by rw[hi];decide)]
  have q0:=hvb.out.cell 0;have q1:=hvb.out.cell 1;have f1:=hvb.out.frozen 1;go_wp2;have hfin:Hid (Blk (w.setCell ⟨vp,1,none⟩ (.string (B (64::domOf T)))) vp #[.string (B (domOf T)),.string (B (identOf T)),(.slice none 0 0),.int .i64 0,.bool false,.int .i64 0,.bool false,.nilIface] 90):=Blk.to (hvb.out.set_ 1 _) (by rw[hIO];simp);have hbf:=belowB_set (u:=.string (B (64::domOf T))) (k:=1) hb hvp hb.size;have hMf:=hM.out.grown (grown_set w vp 1 (.string (B (64::domOf T)))) (by simpa using hne);refine useF 506 _ (by kernel_rfl) ?_;exact t8 _ ct2 hct2.out R w0 _ hZ hbf hvp hfin (zH hMf) hmp hT rfl rfl rfl rfl rfl rfl rfl (hok (by unfold identOk;rw[hi];rfl)) HR.out
theorem b64_6_7(ct:Code)(h:ct=tlS B64 7):tlS B64 6=joinS 1 (tlS B64 6) ct:=by subst h;kernel_rfl
theorem t6(F:Nat->Value)(ct:Code)(hct:ct=tlS B64 6)(R:Ending->World->Prop)(w0 w:World){Z:Nat->Prop}{g0 tyr po cH:Nat}{AH:Option Addr}{pr:Value}{pa:Addr}{v0:Value}{recs:List Rec}{pS pR:Addr}{txS txR:ByteArray}{now:Int}{nb:Bool}{body field:List UInt8}{fields:List (List UInt8)}{vp mp nM:Nat}{T:List Pair}  (hZ:Hid (VZ w0 Z g0 tyr po cH AH pr pa v0 recs pS pR txS txR now nb body field fields))(hb:Below w0.heap.size w0 w)(hvp:w0.heap.size<=vp)(hvb:Hid (Blk w vp #[.string (B (domOf T)),.string ⟨#[]⟩,(.slice none 0 0),.int .i64 0,.bool false,.int .i64 0,.bool false,.nilIface] 90))(hM:Hid (OwnM w mp nM T))(hmp:w0.heap.size<=mp)(hT:Hid (∀t,(valOf t T).length<=20000/\plainL (valOf t T)))(h0:F 0=.slice AH fields.length cH)(h1:F 1=.iface tyr pr)(h2:F 2=.string (B field))(h4:F 4=.pointer (some ⟨po,0,none⟩))(h12:F 12=.pointer (some ⟨vp,0,none⟩))(h13:F 13=.map (some mp))(h14:F 14=.nilIface)(hok:(∀t∈reqd,hasTag t T=true)->identOk T=true->hasFrom T=true->((timeOf [116] T).isSome=true->(timeOf [120] T).isSome=true->¬(hasTag [120] T=true/\now > (timeOf [120] T).getD 0)->¬(hasTag [113] T=true/\among dnstxtL (listOf (valOf [113] T))=false)->Early T now))
  (hR:∀(err:Value) (w':World),ErrIs err (judgeT fields body field recs now T)->VerB w' vp T (judgeT fields body field recs now T)->Gr (fun k=>Z k\/w0.heap.size<=k) w0 w'->R (.returned (.tuple #[.pointer (some ⟨vp,0,none⟩),err])) w') :
  Code.wp Tryz.prog ct (bodyPost Tryz.prog Tryz.f64 R) ⟨frS 506 F,[]⟩ w:=by
 obtain⟨ct2,hct2⟩:∃ct2,Hid (ct2=tlS B64 7):=⟨_,rfl⟩;subst hct;rw[b64_6_7 ct2 hct2.out];conv=>arg 2;whnf
 simp only[joinS];rw[fr506,h0,h1,h2,h4,h12,h13,h14];have HR:=zH hR;obtain⟨rv,hg1,hrv⟩:=hZ.out.req;obtain⟨A,c,rfl,hc,hl,hA⟩:=hrv;obtain⟨gR,oR,rfl,hcell⟩:=hA (by decide);have hg1w:=(hb.cell (cell_lt hg1)).trans hg1;have HC:Hid (∀(i:Nat) (x:List UInt8),reqd[i]?=some x->w.cell? ⟨gR,oR+i,none⟩=some (.string (B x))):=fun i x hx=>(hb.cell (cell_lt (hcell i x hx))).trans (hcell i x hx)
 have hl7:reqd.length=7:=rfl;rw[hl7]at hg1w hc;clear hR hcell hg1 hA;go_wp2;go_loopg [99] 7 (fun gk v w'=>∃k:Nat,Hid (k+gk=7)/\v=.int .i64 k/\Hid (∀i x,i < k->reqd[i]?=some x->hasTag x T=true)/\w=w')
 case atStart=>exact⟨0,rfl,rfl,fun i x h=>absurd h (Nat.not_lt_zero _),rfl⟩
 obtain⟨k,hk,rfl,hp,rfl⟩:=hrel;have hk':k<=7:=by have:=hk.out;omega
 by_cases hlt:k < 7
 ·obtain⟨x,hx⟩:∃x,reqd[k]?=some x:=⟨_,zG (by rw[hl7];exact hlt)⟩
  have hck:=HC.out k x hx;have hxm:x∈reqd:=List.mem_of_getElem? hx;have hxl:x.length<=2:=(by decide:∀x∈reqd,x.length<=2) x hxm;have hlk:=hM.out.look_ok (B x) (by rw[size_B];unfold maxLen;omega);rw[L_B]at hlk;have HX:=zH hx;clear hx;cases ht:hasTag x T with
  |false =>
   rw[ht]at hlk;have hj:judgeT fields body field recs now T=2:=judgeT_no (fun E=>by have:=E.req x hxm;rw[ht]at this;cases this) _ _ _ _;go_wp2;exact HR.out _ _ (.inr (.inl ⟨_,rfl,hj⟩)) (VerB.perm hZ.out hb hvp hvb.out (by rw[hj];decide)) (Gr.of_below hb)
  |true =>
   rw[ht]at hlk;go_wp2;go_roundg (gk - 1)
   case measure=>have:=hk.out;omega
   case rel =>
    refine⟨k+1,by have:=hk.out;unfold Hid;omega,by go_num,fun i y hi hy=>?_,rfl⟩;by_cases hik:i=k
    ·subst hik
     have:=HX.out.symm.trans hy;injection this with this
     subst this;exact ht
    exact hp.out i y (by omega) hy
 have hall:∀t∈reqd,hasTag t T=true:=fun t ht=>by
  obtain⟨i,hi,hit⟩:=List.getElem_of_mem ht;exact hp.out i t (by rw[hl7]at hi;omega) (by rw[<-hit];exact zG hi)
 go_wp2;refine useF 506 _ (by kernel_rfl) ?_;exact t7 _ ct2 hct2.out R w0 _ hZ hb hvp hvb hM hmp hT rfl rfl rfl rfl rfl rfl rfl (hok hall) HR.out
theorem body64(ct:Code)(h:ct=tlS B64 6):Tryz.f64.body=some (joinS 6 B64 ct):=by subst h;kernel_rfl
def VerPost(w0 w':World)(Z:Nat->Prop)(e:Ending)(c:Int)(field:List UInt8):Prop :=
 ∃vp err T,e=.returned (.tuple #[.pointer (some ⟨vp,0,none⟩),err])/\w0.heap.size<=vp/\ErrIs err c/\VerB w' vp T c/\(c=0->pmM (split 59 (trim (cutZ 58 field))) []=some T)/\Gr (fun k=>Z k\/w0.heap.size<=k) w0 w'
theorem c64(w0:World)(Z:Nat->Prop)(g0 tyr po cH:Nat)(AH:Option Addr)(pr:Value)(pa:Addr)(v0:Value)(recs:List Rec)(pS pR:Addr)(txS txR:ByteArray)(now:Int)(nb:Bool)(body field:List UInt8)(fields:List (List UInt8))(hZ:VZ w0 Z g0 tyr po cH AH pr pa v0 recs pS pR txS txR now nb body field fields) :
  Calls Tryz.prog 64 #[.slice AH fields.length cH,.iface tyr pr,.string (B field),.string (B (trim (cutZ 58 field))),.pointer (some ⟨po,0,none⟩)] w0 fun e w'=>VerPost w0 w' Z e (judgeC fields body field recs now) field:=by
 have HZ:=zH hZ;obtain⟨vl,hvl⟩:∃vl,Hid (trim (cutZ 58 field)=vl):=⟨_,rfl⟩;have hvl1:vl.length<=20000:=by rw[<-hvl.out];exact zT (trim_le _) (zT (cutZ_le _ _) hZ.fl)
 have hvl2:Hid (plainL vl):=by unfold Hid;rw[<-hvl.out];exact plain_trim (plain_cutZ hZ.fp)
 have hme:=mErr;obtain⟨vp,hvp⟩:∃vp,Hid (w0.heap.size=vp):=⟨_,rfl⟩;have hnb:Hid (Blk (w0.alloc (.cells #[.string ⟨#[]⟩,.string ⟨#[]⟩,(.slice none 0 0),.int .i64 0,.bool false,.int .i64 0,.bool false,.nilIface] 90)) vp #[.string ⟨#[]⟩,.string ⟨#[]⟩,(.slice none 0 0),.int .i64 0,.bool false,.int .i64 0,.bool false,.nilIface] 90):=by unfold Hid;rw[<-hvp.out];exact Blk.new _ _ _
 have hA:Hid (Below w0.heap.size w0 (w0.alloc (.cells #[.string ⟨#[]⟩,.string ⟨#[]⟩,(.slice none 0 0),.int .i64 0,.bool false,.int .i64 0,.bool false,.nilIface] 90))):=(zB _ _).alloc (zR _) _;obtain⟨ct,hct⟩:∃ct,Hid (ct=tlS B64 6):=⟨_,rfl⟩;clear hZ;refine calls_of_wp Tryz.func64 (body64 ct hct.out) ?_;simp only[Tryz.ntmps64,List.size_toArray,List.length_cons,List.length_nil,Nat.reduceAdd,Nat.reduceSub,Array.replicate_succ,Array.replicate_zero,List.push_toArray,List.append_toArray,List.nil_append,List.cons_append];conv=>arg 2;arg 2;whnf
 simp only[joinS];cases hP:pmM (split 59 vl) []with
 |none =>
  have HP:=zH hP;have hcode:Hid (judgeC fields body field recs now=2):=by unfold Hid;rw[judgeC_trim,hvl.out,hP]
  clear hP;rw[hvl.out];go_wp2_with (first
   |(go_at_call 97;refine(c97 (B vl) _ (by rw[size_B];omega) (by rw[L_B];exact hvl2.out)).mono ?_;rintro e w1⟨v,err,rfl,hd,hb1⟩;rw[L_B,HP.out]at hd;obtain⟨m,⟨ge,rfl,hce⟩,_⟩:=hd)
   |(go_at_call 270;refine(c270 _ _ _ hce).mono ?_;rintro e w7⟨rfl,rfl⟩))
  have hb:=hA.out.trans (hb1.mono hA.out.size);go_ret2
  rw[hvp.out];exact⟨vp,_,[],rfl,Nat.le_of_eq hvp.out,.inr (.inl ⟨_,rfl,hcode.out⟩),VerB.perm HZ.out hb (Nat.le_of_eq hvp.out) (hnb.out.below hb1 hnb.out.lt) (by rw[hcode.out];decide),(fun h=>by rw[hcode.out]at h;cases h),Gr.of_below hb⟩
 |some T =>
  have HP:=zH hP;have hcode:Hid (judgeC fields body field recs now=judgeT fields body field recs now T):=by unfold Hid;rw[judgeC_trim,hvl.out,hP]
  rw[hvl.out];have hT:Hid (∀t,(valOf t T).length<=20000/\plainL (valOf t T)):=fun t=>pm_vals hP hvl1 hvl2.out t
  clear hP;have hsv:((B (valOf [118] T)).toList == [49])=(valOf [118] T == [49]):=by rw[toList_B]
  have C97:Hid (∀W:World,Calls Tryz.prog 97 #[.string (B vl)] W fun e w'=>∃mp nM,e=.returned (.tuple #[.map (some mp),.nilIface])/\W.heap.size<=mp/\OwnM w' mp nM T/\Below W.heap.size W w'):=fun W=>by
   refine(c97 (B vl) W (by rw[size_B];omega) (by rw[L_B];exact hvl2.out)).mono ?_;rintro e w1⟨v,err,rfl,hd,hb1⟩;rw[L_B,HP.out]at hd;obtain⟨rfl,mp,nM,rfl,h1,h2⟩:=hd;exact⟨mp,nM,rfl,h1,h2,hb1⟩
  by_cases hv:valOf [118] T=[49]
  ·have hbv:((B (valOf [118] T)).toList == [49])=true:=by rw[hsv,hv];rfl
   have HV:=zH hv;clear hsv hv;go_wp2_with (first
    |(go_at_call 97;refine(C97.out _).mono ?_;rintro e w1⟨mp,nM,rfl,hmp,hM,hb1⟩;have hlv:=hM.look ⟨#[118]⟩ (by decide);rw[show(⟨#[118]⟩:ByteArray).data.toList=[118]from rfl]at hlv;have hld:=hM.look ⟨#[100]⟩ (by decide);rw[show(⟨#[100]⟩:ByteArray).data.toList=[100]from rfl]at hld;have HM:=zH hM;have hv1:=zH (hnb.out.below hb1 hnb.out.lt);rw[hvp.out];clear hM)
    |(go_at_call 98;refine(c98p (valOf [100] T) _ (by rw[size_B];have:=(hT.out [100]).1;omega) (hT.out _).2).mono ?_;rintro e w2⟨rfl,hb2⟩;have hv2:=zH (hv1.out.below hb2 hv1.out.lt);have q0:=hv2.out.cell 0;have f0:=hv2.out.frozen 0))
   have hb:=hA.out.trans (hb1.mono hA.out.size);have hbb:=hb.trans (hb2.mono hb.size);have hvp':=Nat.le_of_eq hvp.out;refine useF 506 _ (by kernel_rfl) ?_;refine t6 _ ct hct.out _ w0 _ HZ (belowB_set hbb hvp' hbb.size) hvp' (zH ((hv2.out.set_ 0 _).to (by simp;rfl))) (zH ((HM.out.below hb2).grown (grown_set w2 vp 0 _) (by simpa using HM.out.ne_blk hv1.out))) (zT hA.out.size hmp) hT rfl rfl rfl rfl rfl rfl rfl (fun a b c d e f g=>⟨HV.out,a,b,c,d,e,f,g⟩) ?_;intro err w' he hver hG;exact⟨vp,err,T,rfl,hvp',hcode.out ▸ he,hcode.out ▸ hver,fun _=>by rw[hvl.out];exact HP.out,hG⟩
  have hbv:((B (valOf [118] T)).toList == [49])=false:=by rw[hsv];exact zF hv
  have hj:judgeT fields body field recs now T=2:=judgeT_no (fun E=>hv E.v) _ _ _ _;clear hsv hv;go_wp2_with (go_at_call 97;refine(C97.out _).mono ?_;rintro e w1⟨mp,nM,rfl,hmp,hM,hb1⟩;have hlv:=hM.look ⟨#[118]⟩ (by decide);rw[show(⟨#[118]⟩:ByteArray).data.toList=[118]from rfl]at hlv);have hb:=hA.out.trans (hb1.mono hA.out.size);go_ret2
  rw[hvp.out];exact⟨vp,_,T,rfl,Nat.le_of_eq hvp.out,.inr (.inl ⟨_,rfl,hcode.out.trans hj⟩),VerB.perm HZ.out hb (Nat.le_of_eq hvp.out) (hnb.out.below hb1 hnb.out.lt) (by rw[hcode.out,hj];decide),(fun _=>by rw[hvl.out];exact HP.out),Gr.of_below hb⟩
structure VE(w:World)(po:Nat)(pa:Addr)(v0:Value)(recs:List Rec)(pS pR:Addr)(txS txR:ByteArray)(now:Int)(nb:Bool):Prop where
 kr:KRow w
 opt:VO w po pa v0 recs
 nowI:w.cell? ⟨po,2,none⟩=some (.int .i64 now)
 nowB:w.cell? ⟨po,3,none⟩=some (.bool nb)
 es:w.cell? ⟨9,0,none⟩=some (.iface 235 (.pointer (some pS)))
 er:w.cell? ⟨10,0,none⟩=some (.iface 235 (.pointer (some pR)))
 ts:w.cell? pS=some (.string txS)/\txS.size<=1073741824
 tr:w.cell? pR=some (.string txR)/\txR.size<=1073741824
 req:∃rv,w.cell? ⟨1,0,none⟩=some rv/\RdS w rv reqd
structure FB(fs:List (List UInt8))(body:List UInt8)(recs:List Rec):Prop where
 rk:recsOk recs/\∀r∈recs,allLe 100000000 r.tx
 fn:fs.length<=20000
 fl:allLe 20000 fs
 fp:∀f∈fs,plainL f
 bl:body.length<=20000000
theorem VZ.mk'{w:World}{Z:Nat->Prop}{g0 tyr cH:Nat}{AH:Option Addr}{pr:Value}{po:Nat}{pa:Addr}{v0:Value}{recs:List Rec}{pS pR:Addr}{txS txR:ByteArray}{now:Int}{nb:Bool}{fs:List (List UInt8)}{body f:List UInt8}(h:VE w po pa v0 recs pS pR txS txR now nb)(hF:FB fs body recs)(hrow:RdS w (.slice AH fs.length cH) fs)(hrd:RdrAt w Z g0 tyr pr body)(hg:g0<=w.heap.size)(hz:∀k,Z k->k < g0)
  (ha:∀a,AH=some a->a.block < w.heap.size/\¬Z a.block)(h6:¬Z 6)(hf:f∈fs):VZ w Z g0 tyr po cH AH pr pa v0 recs pS pR txS txR now nb body f fs :=
 ⟨hrow,h.kr,h.opt,h.nowI,h.nowB,hrd,hg,hz,ha,h6,h.es,h.er,h.ts,h.tr,h.req,hF.rk,hF.fn,hF.fl,hF.fp,hF.bl,hF.fp f hf,hF.fl f hf⟩
def VerF(w:World)(vp:Nat)(fs:List (List UInt8))(body:List UInt8)(recs:List Rec)(now:Int)(f:List UInt8):Prop :=
 ∃(x:VV) (ks:List (List UInt8)) (tb xb:Bool) (err:Value),Blk w vp #[.string x.d,.string x.i,x.hk,.int .i64 x.t,.bool tb,.int .i64 x.x,.bool xb,err] 90/\RdS w x.hk ks/\ErrIs err x.c/\VOf fs body recs now f x ks
theorem VerF.below{w w':World}{vp:Nat}{fs:List (List UInt8)}{body:List UInt8}{recs:List Rec}{now:Int}{f:List UInt8}(h:VerF w vp fs body recs now f)(hb:Below w.heap.size w w'):VerF w' vp fs body recs now f:=by
 obtain⟨x,ks,tb,xb,err,h1,h2,h3,h4⟩:=h;exact⟨x,ks,tb,xb,err,h1.below hb h1.lt,h2.below hb,h3,h4⟩
theorem RdS.setOther{w:World}{v u y:Value}{xs:List (List UInt8)}{g k:Nat}(h:RdS w v xs)(hu:w.cell? ⟨g,k,none⟩=some u)(hn:∀s,u≠.string s):RdS (w.setCell ⟨g,k,none⟩ y) v xs:=by
 obtain⟨A,c,h1,hc,hl,hA⟩:=h;refine⟨A,c,h1,hc,hl,fun h0=>?_⟩;obtain⟨g2,off,rfl,hcell⟩:=hA h0;refine⟨g2,off,rfl,fun i x hx=>?_⟩;have q:=hcell i x hx;refine(World.cell?_setCell_other _ _ _ _ ?_).trans q;intro e;rw[e,q]at hu;injection hu with hu
 exact hn _ hu.symm
theorem VerF.setOther{w:World}{vp g k:Nat}{u y:Value}{fs:List (List UInt8)}{body:List UInt8}{recs:List Rec}{now:Int}{f:List UInt8}(h:VerF w vp fs body recs now f)(hne:vp≠g)(hu:w.cell? ⟨g,k,none⟩=some u)(hn:∀s,u≠.string s):VerF (w.setCell ⟨g,k,none⟩ y) vp fs body recs now f:=by
 obtain⟨x,ks,tb,xb,err,h1,h2,h3,h4⟩:=h;exact⟨x,ks,tb,xb,err,h1.setNe hne,h2.setOther hu hn,h3,h4⟩
theorem VerF.of{w w':World}{Z:Nat->Prop}{e:Ending}{fs:List (List UInt8)}{body:List UInt8}{recs:List Rec}{now:Int}{f:List UInt8}(h:VerPost w w' Z e (judgeC fs body f recs now) f) :
  ∃vp err,e=.returned (.tuple #[.pointer (some ⟨vp,0,none⟩),err])/\w.heap.size<=vp/\vp < w'.heap.size/\ErrIs err (judgeC fs body f recs now)/\w'.cell? ⟨vp,7,none⟩=some .nilIface/\w'.frozen? ⟨vp,7,none⟩=false/\VerF (w'.setCell ⟨vp,7,none⟩ err) vp fs body recs now f/\Gr (fun k=>Z k\/w.heap.size<=k) w w':=by
 obtain⟨vp,err,T,rfl,hvp,he,⟨d,i,hk,ks,tn,xn,tb,xb,hb,hr,hj⟩,hT,hG⟩:=h;have hr':=hr;obtain⟨A,c,rfl,_⟩:=hr';refine⟨vp,err,rfl,hvp,hb.lt,he,hb.cell 7,hb.frozen 7,?_,hG⟩;refine⟨⟨d,i,A,ks.length,c,tn,xn,judgeC fs body f recs now⟩,ks,tb,xb,err,(hb.set_ 7 err).to (by simp[VV.hk]),hr.setOther (hb.cell 7) (by intro s q;cases q),he,rfl,fun h0=>?_⟩;obtain⟨r1,r2,r3,r4,r5⟩:=hj h0;have hT0:=hT h0;rw[pm_trim]at hT0;exact⟨T,hT0,r1,r2,r3,r4,r5⟩
def SigAt(w:World)(sv:Value)(fs sigs:List (List UInt8)):Prop :=
 ∃A c,sv=.slice A sigs.length c/\sigs.length<=c/\(0 < sigs.length->∃g,A=some ⟨g,0,none⟩/\∀j f,sigs[j]?=some f->∃b i:Nat,w.cell? ⟨g,j,none⟩=some (.pointer (some ⟨b,0,none⟩))/\w.cell? ⟨b,0,none⟩=some (.int .i64 (i:Int))/\w.cell? ⟨b,1,none⟩=some (.string (B (trim (cutZ 58 f))))/\fs[i]?=some f)
def RdPV(w:World)(v:Value)(fs:List (List UInt8))(body:List UInt8)(recs:List Rec)(now:Int)(sigs:List (List UInt8)):Prop :=
 ∃A c,v=.slice A sigs.length c/\sigs.length<=c/\(0 < sigs.length->∃g,A=some ⟨g,0,none⟩/\∀j f,sigs[j]?=some f->∃vp:Nat,w.cell? ⟨g,j,none⟩=some (.pointer (some ⟨vp,0,none⟩))/\VerF w vp fs body recs now f)
theorem RdPV.below{w w':World}{v:Value}{fs:List (List UInt8)}{body:List UInt8}{recs:List Rec}{now:Int}{sigs:List (List UInt8)}(h:RdPV w v fs body recs now sigs)(hb:Below w.heap.size w w'):RdPV w' v fs body recs now sigs:=by
 obtain⟨A,c,h1,hc,h2⟩:=h;refine⟨A,c,h1,hc,fun h0=>?_⟩;obtain⟨g,rfl,hk⟩:=h2 h0;refine⟨g,rfl,fun j f hf=>?_⟩;obtain⟨vp,q1,q2⟩:=hk j f hf;exact⟨vp,(hb.cell (cell_lt q1)).trans q1,q2.below hb⟩
def ptrV(k:Nat):Value:=.pointer (some ⟨k,0,none⟩)
def ptrRow(ps:List Nat)(n:Nat):Array Value:=(ps.map ptrV++List.replicate (n - ps.length) (Value.pointer none)).toArray
theorem ptrRow_at{ps:List Nat}{n:Nat}(h:ps.length < n):(ptrRow ps n)[ps.length]?=some (.pointer none):=by
 unfold ptrRow;simp only[List.getElem?_toArray];rw[List.getElem?_append_right (by simp),List.length_map,Nat.sub_self,List.getElem?_replicate];simp;omega
theorem ptrRow_get{ps:List Nat}{n j p:Nat}(h:ps[j]?=some p):(ptrRow ps n)[j]?=some (ptrV p):=by
 unfold ptrRow;simp only[List.getElem?_toArray];have hl:=(List.getElem?_eq_some_iff.1 h).1;rw[List.getElem?_append_left (by simpa using hl),List.getElem?_map,h];rfl
theorem ptrRow_set{ps:List Nat}{n p:Nat}(h:ps.length < n):(ptrRow ps n).setIfInBounds ps.length (ptrV p)=ptrRow (ps++[p]) n:=by
 unfold ptrRow;rw[List.setIfInBounds_toArray];congr 1
 obtain⟨m,hm⟩:∃m,n - ps.length=m+1:=⟨n - ps.length - 1,by omega⟩;have hm2:n - (ps++[p]).length=m:=by simp;omega
 rw[hm,hm2,List.replicate_succ,List.set_append_right _ _ (by simp),List.length_map,Nat.sub_self,List.set_cons_zero,List.map_append,List.append_assoc];rfl
theorem Gr.setNew{S:Nat->Prop}{b:Nat}{w w':World}(h:Gr (fun k=>S k\/b<=k) w w'){g k:Nat}{u:Value}(hg:b<=g):Gr (fun k=>S k\/b<=k) w (w'.setCell ⟨g,k,none⟩ u) :=
 h.trans ((Gr.of_grown (grown_set w' g k u)).mono fun j _ q=>by injection q with q;exact .inr (by omega))
theorem Gr.belowNew{S:Nat->Prop}{b:Nat}{w w' w2:World}(h:Gr (fun k=>S k\/b<=k) w w')(hb:Below w'.heap.size w' w2):Gr (fun k=>S k\/b<=k) w w2:=h.trans (Gr.of_below hb)
end Go.Proofs.YtnkihlpmmfeioaaGreatDoor
