/- Part of the proof that laws.FnDVerifies answers true: A17c,A88 -/
import Derived.Test.YtnkihlpmmfeioaaGreatDoorZ29
import Derived.Test.YtnkihlpmmfeioaaGreatDoorZ31
set_option linter.unusedVariables false
set_option linter.unusedSimpArgs false
set_option maxRecDepth 1000000
set_option maxHeartbeats 16000000
namespace Go.Proofs.YtnkihlpmmfeioaaGreatDoor
open Go.RowKit
theorem body74(ct:Code)(h:ct=tlS B74 10):Tryz.f74.body=some (joinS 10 B74 ct):=by subst h;kernel_rfl
theorem c74s(s:ByteArray)(w:World)(hs:s.size<=1073741824)(K0:Key)(h0:readM s.data.toList=some K0) :
  Calls Tryz.prog 74 #[.string s] w fun e w'=>∃v,e=.returned (.tuple #[v,.int .i64 0])/\KeyAt w' w.heap.size v K0/\Below w.heap.size w w':=by
 have HN:=zH h0;clear h0;obtain⟨T,hT⟩:∃T,Hid (tagsM (split 59 s.data.toList) []=T):=⟨_,rfl⟩;obtain⟨R,hR⟩:∃R,Hid (readM s.data.toList=R):=⟨_,rfl⟩;cases hTT:T with
 |none =>
  rw[hTT]at hT;have hRN:R=none:=by rw[<-hR.out,readM,hT.out]
  cases(HN.out.symm.trans (hR.out.trans hRN))
 |some ts =>
  rw[hTT]at hT;clear hTT;have hRK:Hid (keyM ts=R):=by unfold Hid;rw[<-hR.out,readM,hT.out]
  have hvl:∀t,(B (valOf t ts)).size<=1073741824:=fun t=>by
   have h1:=split_allLe 59 s.data.toList;rw[size_L]at h1;have:=valOf_le (tagsM_le _ _ _ h1 (by simp) hT.out) t;rw[size_B];omega
  obtain⟨ct,hct⟩:∃ct,Hid (ct=tlS B74 10):=⟨_,rfl⟩;refine calls_of_wp Tryz.func74 (body74 ct hct.out) ?_;simp only[Tryz.ntmps74,List.size_toArray,List.length_cons,List.length_nil,Nat.reduceAdd,Nat.reduceSub,Array.replicate_succ,Array.replicate_zero,List.push_toArray,List.append_toArray,List.nil_append,List.cons_append];conv=>arg 2;arg 2;whnf
  simp only[joinS];go_upto_region 3 with(first
   |(go_at_call 32;refine(c32 _ _ hs).mono ?_;rintro e w1⟨v,rfl,hv,hb1⟩;rw[hT.out]at hv ⊢;have hBB:Below w.heap.size w w1:=((zB _ w).alloc (zR _) _).trans (hb1.mono (by simp));have hr:Blk w1 w.heap.size #[.string ⟨#[]⟩,.slice none 0 0,.int .i64 0,.slice none 0 0,.slice none 0 0,.slice none 0 0,.string ⟨#[]⟩,.bool false,.bool false] 129:=(Blk.new w _ 129).below hb1 (by simp)
     rw[Option.isSome_some];rw[Option.getD_some]at hv)
   |(go_at_call 33;refine(c33 _ ts _ _ hv).mono ?_;rintro e w'⟨rfl,rfl⟩))
  go_cut [6,7,39] (fun _ _ c wx=>c=.bool (decide (hasTag [118] ts=true/\valOf [118] ts≠dkim1L))/\wx=w1)
  case first =>
   cases hH:hasTag [118] ts with
   |true =>
    by_cases hD:valOf [118] ts=dkim1L
    ·have e1:decide (hasTag [118] ts=true/\valOf [118] ts≠dkim1L)=false:=by simp[hD]
     have E1:=zH e1;have hb9:((B (valOf [118] ts)).toList == [68,75,73,77,49])=true:=by rw[toList_B,hD];rfl
     clear hD e1;go_wp2
     go_meet
     exact⟨congrArg Value.bool E1.out.symm,rfl⟩
    have e1:decide (hasTag [118] ts=true/\valOf [118] ts≠dkim1L)=true:=by simp[hD,hH]
    have E1:=zH e1;have hb9:((B (valOf [118] ts)).toList == [68,75,73,77,49])=false:=by rw[toList_B];exact zF hD
    clear hD e1;go_wp2
    go_meet
    exact⟨congrArg Value.bool E1.out.symm,rfl⟩
   |false =>
    have e1:decide (hasTag [118] ts=true/\valOf [118] ts≠dkim1L)=false:=by simp[hH]
    have E1:=zH e1;clear e1;go_wp2
    go_meet
    exact⟨congrArg Value.bool E1.out.symm,rfl⟩
  case rest =>
   obtain⟨rfl,rfl⟩:=hcut;by_cases hB1:hasTag [118] ts=true/\valOf [118] ts≠dkim1L
   ·have e1:decide (hasTag [118] ts=true/\valOf [118] ts≠dkim1L)=true:=decide_eq_true hB1
    have hRN:R=none:=by rw[<-hRK.out,keyM,if_pos hB1]
    cases(HN.out.symm.trans (hR.out.trans hRN))
   have e1:decide (hasTag [118] ts=true/\valOf [118] ts≠dkim1L)=false:=decide_eq_false hB1;rw[e1];have HB1:=zH hB1;clear hB1 e1;have hbl:(B (bare (valOf [112] ts))).size<=1073741824:=by have:=bare_le (valOf [112] ts);have:=hvl [112];rw[size_B]at *;omega
   have hvl112:=hvl [112];obtain⟨U,hU⟩:∃U,Hid (unb64 (bare (valOf [112] ts))=U):=⟨_,rfl⟩;go_upto_region 8 with(first
    |(go_at_call 33;refine(c33 _ ts _ _ (by first|exact hv|exact hv.below hb3)).mono ?_;rintro e w'⟨rfl,rfl⟩)
    |(go_at_call 117;refine(c117p _ _ (by omega)).mono ?_;rintro e w2⟨rfl,hb2⟩)
    |(go_at_call 76;refine(c76p _ _ (by omega)).mono ?_;rintro e w3⟨rfl,hb3⟩;rw[hU.out];replace hb3:=bthen hb2 hb3))
   go_cut [13,62] (fun _ c wx=>c=.bool (decide (¬(hasTag [107] ts=true)\/valOf [107] ts=[]))/\wx=w3)
   case first =>
    cases hH:hasTag [107] ts with
    |true =>
     by_cases hD:valOf [107] ts=[]
     ·have E1:=zH (show decide (¬(hasTag [107] ts=true)\/valOf [107] ts=[])=true by simp[hD])
      have hb9:(B (valOf [107] ts)).toList.isEmpty=true:=by rw[toList_B,hD];rfl
      clear hD;go_wp2
      go_meet
      exact⟨congrArg Value.bool E1.out.symm,rfl⟩
     have E1:=zH (show decide (¬(hasTag [107] ts=true)\/valOf [107] ts=[])=false by simp[hD,hH]);have hb9:(B (valOf [107] ts)).toList.isEmpty=false:=by rw[toList_B,List.isEmpty_eq_false_iff];exact hD
     clear hD;go_wp2
     go_meet
     exact⟨congrArg Value.bool E1.out.symm,rfl⟩
    |false =>
     have E1:=zH (show decide (¬(hasTag [107] ts=true)\/valOf [107] ts=[])=true by simp[hH]);go_wp2
     go_meet
     exact⟨congrArg Value.bool E1.out.symm,rfl⟩
   case rest =>
   obtain⟨rfl,rfl⟩:=hcut
   go_upto_if 62 with fail
   go_cut [12] (fun k wx=>k=.string (B (kindOf ts))/\wx=wc)
   case first =>
    by_cases hD:¬(hasTag [107] ts=true)\/valOf [107] ts=[]
    ·have e2:=decide_eq_true hD
     have E1:=zH (show kindOf ts=rsaL from kindOf_a hD);rw[e2];clear hD;go_wp2
     go_meet
     exact⟨by rw[E1.out];rfl,rfl⟩
    have e2:=decide_eq_false hD;have E1:=zH (show kindOf ts=valOf [107] ts from kindOf_b hD);rw[e2];clear hD;go_wp2
    go_meet
    exact⟨by rw[E1.out],rfl⟩
   case rest =>
   obtain⟨rfl,rfl⟩:=hcut;obtain⟨K,hK⟩:∃K,Hid (kindOf ts=K):=⟨_,rfl⟩;obtain⟨bb,hbb⟩:∃bb,Hid (U.getD []=bb):=⟨_,rfl⟩;have hbsz:(B bb).size<=3221225472:=by
    have h1:=unb64_le (bare (valOf [112] ts));rw[hU.out,hbb.out]at h1;rw[size_B]at hbl ⊢;omega
   rw[hK.out,hbb.out];go_upto_region 10 with fail
   go_cut [14] (fun c wx=>c=.bool (badKey K bb)/\wx=wc)
   case first =>
    by_cases hK1:K=rsaL
    ·have k1:((B K).toList == [114,115,97])=true:=by rw[toList_B,hK1];rfl
     have k2:((B K).toList == [101,100,50,53,53,49,57])=false:=by rw[toList_B,hK1];rfl
     by_cases h8:8*bb.length < 1024
     ·have E1:=zH (show badKey K bb=true by unfold badKey;rw[decide_eq_true hK1,decide_eq_true h8];rfl)
      have d1:(8*((B bb).size:Int) < 1024):=by rw[size_B];omega
      clear hK1 h8;go_wp2
      go_meet
      exact⟨congrArg Value.bool E1.out.symm,rfl⟩
     have E1:=zH (show badKey K bb=false by unfold badKey;rw[decide_eq_true hK1,decide_eq_false h8,hK1];rfl);have d1:¬(8*((B bb).size:Int) < 1024):=by rw[size_B];omega
     clear hK1 h8;go_wp2
     go_meet
     exact⟨congrArg Value.bool E1.out.symm,rfl⟩
    have k1:((B K).toList == [114,115,97])=false:=by rw[toList_B];exact zF hK1
    by_cases hK2:K=edL
    ·have k2:((B K).toList == [101,100,50,53,53,49,57])=true:=by rw[toList_B,hK2];rfl
     by_cases h8:bb.length=32
     ·have E1:=zH (show badKey K bb=false by unfold badKey;rw[decide_eq_false hK1,decide_eq_true hK2,decide_eq_true h8];rfl)
      have d1:(((B bb).size:Int) != 32)=false:=by rw[size_B];exact zQ (by omega)
      clear hK1 h8 hK2;go_wp2
      go_meet
      exact⟨congrArg Value.bool E1.out.symm,rfl⟩
     have E1:=zH (show badKey K bb=true by unfold badKey;rw[decide_eq_false hK1,decide_eq_true hK2,decide_eq_false h8];rfl);have d1:(((B bb).size:Int) != 32)=true:=by rw[size_B];exact zN (by omega)
     clear hK1 h8 hK2;go_wp2
     go_meet
     exact⟨congrArg Value.bool E1.out.symm,rfl⟩
    have k2:((B K).toList == [101,100,50,53,53,49,57])=false:=by rw[toList_B];exact zF hK2
    have E1:=zH (show badKey K bb=false by unfold badKey;rw[decide_eq_false hK1,decide_eq_false hK2];rfl);clear hK1 hK2;go_wp2
    go_meet
    exact⟨congrArg Value.bool E1.out.symm,rfl⟩
   case rest =>
   obtain⟨rfl,rfl⟩:=hcut;obtain⟨bd,hbd⟩:∃bd,Hid (badKey K bb=bd):=⟨_,rfl⟩;rw[hbd.out];obtain⟨hp,hhp⟩:∃hp,Hid (hasTag [112] ts=hp):=⟨_,rfl⟩;rw[hhp.out];obtain⟨us,hus⟩:∃us,Hid (U.isSome=us):=⟨_,rfl⟩;rw[hus.out];obtain⟨V,hV⟩:∃V,Hid (valOf [112] ts=V):=⟨_,rfl⟩;rw[hV.out];go_upto_region 11 with fail
   go_cut [9,11,14,100] (fun _ _ _ c wx=>c=.bool (decide (hp=false\/V=[]\/us=false\/(K≠rsaL/\K≠edL)\/bd=true))/\wx=wc)
   case first =>
    cases hp with
    |false =>
     have E1:=zH (show decide (false=false\/V=[]\/us=false\/(K≠rsaL/\K≠edL)\/bd=true)=true by simp);go_wp2
     go_meet
     exact⟨congrArg Value.bool E1.out.symm,rfl⟩
    |true =>
     by_cases hVe:V=[]
     ·have E1:=zH (show decide (true=false\/V=[]\/us=false\/(K≠rsaL/\K≠edL)\/bd=true)=true by simp[hVe])
      have hb9:(B V).toList.isEmpty=true:=by rw[toList_B,hVe];rfl
      clear hVe;go_wp2
      go_meet
      exact⟨congrArg Value.bool E1.out.symm,rfl⟩
     have hb9:(B V).toList.isEmpty=false:=by rw[toList_B,List.isEmpty_eq_false_iff];exact hVe
     cases us with
     |false =>
      have E1:=zH (show decide (true=false\/V=[]\/false=false\/(K≠rsaL/\K≠edL)\/bd=true)=true by simp);clear hVe;go_wp2
      go_meet
      exact⟨congrArg Value.bool E1.out.symm,rfl⟩
     |true =>
      by_cases hK1:K=rsaL
      ·have k1:((B K).toList == [114,115,97])=true:=by rw[toList_B,hK1];rfl
       have E1:=zH (show decide (true=false\/V=[]\/true=false\/(K≠rsaL/\K≠edL)\/bd=true)=bd by simp[hVe,hK1]);clear hVe hK1;go_wp2;all_goals
        go_meet
        exact⟨congrArg Value.bool (by rw[E1.out]),rfl⟩
      have k1:((B K).toList == [114,115,97])=false:=by rw[toList_B];exact zF hK1
      by_cases hK2:K=edL
      ·have k2:((B K).toList == [101,100,50,53,53,49,57])=true:=by rw[toList_B,hK2];rfl
       have E1:=zH (show decide (true=false\/V=[]\/true=false\/(K≠rsaL/\K≠edL)\/bd=true)=bd by simp[hVe,hK2]);clear hVe hK1 hK2;go_wp2;all_goals
        go_meet
        exact⟨congrArg Value.bool (by rw[E1.out]),rfl⟩
      have k2:((B K).toList == [101,100,50,53,53,49,57])=false:=by rw[toList_B];exact zF hK2
      have E1:=zH (show decide (true=false\/V=[]\/true=false\/(K≠rsaL/\K≠edL)\/bd=true)=true by simp[hK1,hK2]);clear hVe hK1 hK2;go_wp2
      go_meet
      exact⟨congrArg Value.bool E1.out.symm,rfl⟩
   case rest =>
   obtain⟨rfl,rfl⟩:=hcut;by_cases hB2:hp=false\/V=[]\/us=false\/(K≠rsaL/\K≠edL)\/bd=true
   ·have e1:=decide_eq_true hB2
    have hRN:R=none:=by
     rw[<-hRK.out,keyM,if_neg HB1.out,hU.out,hV.out,hhp.out,hK.out];cases U with
     |none=>rfl
     |some b =>
      have hbb':=hbb.out;rw[Option.getD_some]at hbb';subst hbb';simp only;rw[hbd.out,if_neg];rintro⟨q1,q2,q3,q4⟩;rcases hB2 with h|h|h|h|h
      ·rw[h]at q1;cases q1
      ·exact q2 h
      ·have:=hus.out;rw[h]at this;cases this
      ·rcases q3 with q3|q3
       ·exact h.1 q3
       exact h.2 q3
      rw[h]at q4;cases q4
    cases(HN.out.symm.trans (hR.out.trans hRN))
   have e1:=decide_eq_false hB2;rw[e1];have HB2:=zH hB2;clear hB2 e1;have hcv:=fun W=>Lib.run_convert_string_bytes (P:=Tryz.prog) W 9 33 5 (B bb) Tryz.underlying9 Tryz.underlying33 Tryz.underlying5
   go_wp2;obtain⟨gx,hgx⟩:∃g,g=(Lib.bytesWorld wc 5 (B bb)).heap.size:=⟨_,rfl⟩;obtain⟨bv,hbv⟩:∃v,v=Value.slice (some ⟨wc.heap.size,0,none⟩) (B bb).size (grownCap wc (B bb).size 0 5):=⟨_,rfl⟩;obtain⟨WS,hWS⟩:∃W,W=(Lib.bytesWorld wc 5 (B bb)).alloc (.cells #[.string (B K),bv,.int .i64 (8*((B bb).size:Int)),.slice none 0 0,.slice none 0 0,.slice none 0 0,.string ⟨#[]⟩,.bool false,.bool false] 129):=⟨_,rfl⟩;have hBlk:Blk WS gx #[.string (B K),bv,.int .i64 (8*((B bb).size:Int)),.slice none 0 0,.slice none 0 0,.slice none 0 0,.string ⟨#[]⟩,.bool false,.bool false] 129:=by rw[hWS,hgx];exact Blk.new _ _ _
   have hb0:=below_bytes (zB wc.heap.size wc) (zR _) (B bb);have hBW:Below wc.heap.size wc WS:=by rw[hWS];exact hb0.alloc hb0.size _
   have hgxw:wc.heap.size < gx:=by rw[hgx];exact(RowAt.bytes wc (B bb)).lt
   have hRB:RdB WS bv bb:=by
    refine⟨_,_,hbv,grownCap_ge _ _ _ _,fun hp=>⟨_,_,rfl,fun i x hx=>?_⟩⟩;rw[Nat.zero_add,hWS];refine((((zB _ (Lib.bytesWorld wc 5 (B bb))).alloc (zR _) _).cell (p:=⟨wc.heap.size,i,none⟩) (by rw[<-hgx];exact hgxw))).trans ((RowAt.bytes wc (B bb)).cell hx)
   have hbvB:∀g o n c,bv=.slice (some ⟨g,o,none⟩) n c->g < gx:=fun g o n c he=>by rw[hbv]at he;injection he with h1;injection h1 with h1;injection h1 with h1;omega
   have hbvA:∀g o n c,bv=.slice (some ⟨g,o,none⟩) n c->wc.heap.size<=g:=fun g o n c he=>by rw[hbv]at he;injection he with h1;injection h1 with h1;injection h1 with h1;omega
   rw[<-hbv,<-hWS,<-hgx];clear hWS hgx hbv hb0 hcv;have HB3:=zH (show Below w.heap.size w wc from bthen hBB hb3);have hgl:=hBlk.lt;have hvA:=hv.below hb3;have hkeep:∀wx,Below gx WS wx->RdP wx v ts:=fun wx h=>hvA.below (hBW.trans (h.mono (by omega)))
   have hrA:=hr.below hb3 hr.lt;have hrAl:=hrA.lt;have hkeepR:∀wx,Below gx WS wx->Blk wx w.heap.size #[.string ⟨#[]⟩,.slice none 0 0,.int .i64 0,.slice none 0 0,.slice none 0 0,.slice none 0 0,.string ⟨#[]⟩,.bool false,.bool false] 129:=fun wx h=>hrA.below (hBW.trans (h.mono (by omega))) hrAl
   have hfin:∀wx,Below gx WS wx->Below w.heap.size w wx:=fun wx h=>bthen HB3.out (hBW.trans (h.mono (by omega)))
   have hRBk:∀wx,Below gx WS wx->RdB wx bv bb:=fun wx h=>hRB.below h hbvB
   have hvS:=hv.below (bthen hb3 hBW);have hvl104:=hvl [104];have hvl115:=hvl [115];have hvl116:=hvl [116];have hRS:R=some ⟨K,bb,hashOf ts,servOf ts⟩:=by
    have hb2':=HB2.out;cases U with
    |none=>have:=hus.out;exact absurd (Or.inr (Or.inr (Or.inl (by rw[<-this];rfl)))) hb2'
    |some b =>
     have hbb':=hbb.out;rw[Option.getD_some]at hbb';subst hbb';rw[<-hRK.out,keyM,if_neg HB1.out,hU.out,hV.out,hhp.out,hK.out];simp only;rw[hbd.out,if_pos];refine⟨?_,?_,?_,?_⟩
     ·cases hp with
      |true=>rfl
      |false=>exact absurd (Or.inl rfl) hb2'
     ·exact fun h=>hb2' (Or.inr (Or.inl h))
     ·exact Classical.byContradiction fun h=>hb2' (Or.inr (Or.inr (Or.inr (Or.inl ⟨fun q=>h (Or.inl q),fun q=>h (Or.inr q)⟩))))
     cases bd with
     |false=>rfl
     |true=>exact absurd (Or.inr (Or.inr (Or.inr (Or.inr rfl)))) hb2'
   have hK0:=HN.out.symm.trans (hR.out.trans hRS);injection hK0 with hK0
   subst hK0;exact t74 _ _ _ _ _ _ _ _ _ _ _ _ _ _ _ _ _ _ _ _ _ _ _ _ _ _ _ _ _ _ _ _ _ _ _ _ _ _ _ _ _ _ _ _ _ _ _ _ _ _ _ _ _ _ _ _ _ _ _ _ _ _ _ _ _ _ _ _ _ _ _ _ _ _ _ _ _ _ _ _ _ _ _ _ _ _ _ _ _ _ _ _ _ _ _ _ _ _ _ _ _ _ _ _ _ _ _ _ _ _ _ _ _ _ _ _ _ _ _ _ _ _ _ _ _ _ _ _ _ _ _ _ _ _ _ _ _ _ _ _ _ _ _ _ _ _ _ _ _ _ _ ct hct.out w WS gx wc.heap.size v bv K bb ts hBlk hRB hbvA hgl hgxw (zL hr.lt (Nat.le_of_eq rfl) |> fun h=>by omega) hkeep hkeepR hfin hRBk hvS hvl104 hvl115 hvl116
theorem c74(s:ByteArray)(w:World)(hs:s.size<=1073741824) :
  Calls Tryz.prog 74 #[.string s] w fun e w'=>∃v,e=.returned (.tuple #[v,.int .i64 (if(readM s.data.toList).isSome then 0 else 2)])/\(readM s.data.toList=none->v=.agg #[.string ⟨#[]⟩,.slice none 0 0,.int .i64 0,.slice none 0 0,.slice none 0 0,.slice none 0 0,.string ⟨#[]⟩,.bool false,.bool false])/\(∀K,readM s.data.toList=some K->KeyAt w' w.heap.size v K)/\Below w.heap.size w w':=by
 cases h:readM s.data.toList with
 |none =>
  refine(c74n s w hs h).mono ?_;rintro e w'⟨v,h1,h2,h3⟩;rw[h]at h1;refine⟨v,h1,?_,?_,h3⟩
  ·intro _;exact h2
  intro K hK;cases hK
 |some K =>
  refine(c74s s w hs K h).mono ?_;rintro e w'⟨v,h1,h2,h3⟩;refine⟨v,h1,?_,?_,h3⟩
  ·intro q;cases q
  intro K' hK';injection hK' with hK';subst hK';exact h2
theorem bool_flip(b:Bool)(x y:Int):(if b=false then x else y)=(if b=true then y else x):=by cases b <;> rfl
def servOk(K:Key):Bool:=match K.services with|none=>true|some ss=>among emailL ss
def hashOk(h:List UInt8)(K:Key):Bool:=match K.hashes with|none=>true|some hs=>among h hs
theorem VC.opt{W:World}{v:Value}{xs:List (List UInt8)}(h:OptS W v (some xs)):∃g o c,v=.slice (some ⟨g,o,none⟩) xs.length c/\xs.length<=c/\xs.length<=1152921504606846976/\0 < xs.length/\∀(i:Nat) (x:List UInt8),xs[i]?=some x->W.cell? ⟨g,o+i,none⟩=some (.string (B x)):=by
 obtain⟨hne,A,c,rfl,hc,hl,hA⟩:=h;have hp:0 < xs.length:=List.length_pos_iff.2 hne;obtain⟨g,o,rfl,hcell⟩:=hA hp;exact⟨g,o,c,rfl,hc,hl,hp,hcell⟩
theorem b64_25_26(ct:Code)(h:ct=tlS B64 26):tlS B64 25=joinS 1 (tlS B64 25) ct:=by subst h;kernel_rfl
theorem t25(F:Nat->Value)(ct:Code)(hct:ct=tlS B64 25)(R:Ending->World->Prop)(wo w:World){Z:Nat->Prop}{g0 tyr gq mp nM cH cK:Nat}{AH AK:Option Addr}{pr kv hs sv fv:Value}{nt:ByteArray}{body field:List UInt8}{T:List Pair}{K:Key}{fields:List (List UInt8)}(hV:Hid (VC wo Z g0 tyr gq mp nM cH cK AH AK pr kv hs sv fv nt body field T K fields))(hb:Below wo.heap.size wo w)(h0:F 0=.slice AH fields.length cH)(h1:F 1=.iface tyr pr)(h2:F 2=.string (B field))(h13:F 13=.map (some mp))(h21:F 21=.slice AK (keysOf T).length cK)(h36:F 36=.pointer (some ⟨gq,0,none⟩)) 
  (hR:∀(err:Value) (w':World),ErrIs err (if servOk K=true then judgeF fields body field T K else 2)->Gr (fun k=>Z k\/wo.heap.size<=k) wo w'->R (.returned (.tuple #[F 12,err])) w') :
  Code.wp Tryz.prog ct (bodyPost Tryz.prog Tryz.f64 R) ⟨frS 506 F,[]⟩ w:=by
 obtain⟨ct2,hct2⟩:∃ct2,Hid (ct2=tlS B64 26):=⟨_,rfl⟩;subst hct;rw[b64_25_26 ct2 hct2.out];conv=>arg 2;whnf
 simp only[joinS];rw[fr506,h0,h1,h2,h13,h21,h36];have HR:=zH hR;have hK:=hV.out.keep w (Gr.of_below hb);have c4:w.cell? ⟨gq,4,none⟩=some sv:=(hK.res.cell 4).trans rfl;have hS:=hK.serv;unfold servOk at HR;clear hR hK;cases hq:K.services with
 |none =>
  rw[hq]at hS HR;simp only[if_pos]at HR;obtain rfl:sv=.slice none 0 0:=hS;clear hq;go_wp2;refine useF 506 _ (by kernel_rfl) ?_;exact t26 _ ct2 hct2.out R wo _ hV hb rfl rfl rfl rfl rfl rfl HR.out
 |some ss =>
  rw[hq]at hS HR;obtain⟨g,o,c,rfl,hc,hl,hpos,hcell⟩:=VC.opt hS;have HA:=zH hcell;obtain⟨r,hr⟩:∃r,Hid (among emailL ss=r):=⟨_,rfl⟩;simp only[hr.out]at HR;have HQ:=zH hq;clear hS hq hcell;go_wp2;go_loopg [46,344] ss.length (fun gk b v w'=>∃k:Nat,Hid (k+gk=ss.length)/\v=.int .i64 k/\b=.bool false/\Hid (among emailL (ss.drop k)=r)/\w=w')
  case atStart=>exact⟨0,Nat.zero_add _,rfl,rfl,hr,rfl⟩
  obtain⟨k,hk,rfl,rfl,hp,rfl⟩:=hrel;have hk':k<=ss.length:=by have:=hk.out;omega
  by_cases hlt:k < ss.length
  ·have hck:=HA.out k ss[k] (zG hlt)
   rw[List.drop_eq_getElem_cons hlt]at hp;by_cases h1:ss[k]=emailL
   ·have hp1:=hp.out
    simp only[among,if_pos h1]at hp1;have hb1:((B ss[k]).toList == [101,109,97,105,108])=true:=by rw[toList_B,h1];rfl
    have Hp:=zH hp1;clear hp hp1 h1;rw[<-Hp.out,if_pos rfl]at HR;go_wp2;refine useF 506 _ (by kernel_rfl) ?_;exact t26 _ ct2 hct2.out R wo _ hV hb rfl rfl rfl rfl rfl rfl HR.out
   have hp1:=hp.out;simp only[among,if_neg h1]at hp1;have hb1:((B ss[k]).toList == [101,109,97,105,108])=false:=by rw[toList_B];exact zF h1
   have Hp:=zH hp1;clear hp hp1 h1;go_wp2;go_roundg (gk - 1)
   case measure=>have:=hk.out;omega
   case rel=>exact⟨k+1,by have:=hk.out;unfold Hid;omega,by go_num,rfl,Hp,rfl⟩
  rw[List.drop_eq_nil_of_le (by omega)]at hp;have Hp:=hp;clear hp;rw[<-Hp.out]at HR;simp only[among,if_neg Bool.false_ne_true]at HR;go_wp2;exact HR.out _ _ (.inr (.inl ⟨_,rfl,rfl⟩)) (Gr.of_below hb)
theorem b64_23_25(ct:Code)(h:ct=tlS B64 25):tlS B64 23=joinS 2 (tlS B64 23) ct:=by subst h;kernel_rfl
theorem t23(F:Nat->Value)(ct:Code)(hct:ct=tlS B64 23)(R:Ending->World->Prop)(wo w:World){Z:Nat->Prop}{g0 tyr gq mp nM cH cK:Nat}{AH AK:Option Addr}{pr kv hs sv fv:Value}{nt:ByteArray}{body field:List UInt8}{T:List Pair}{K:Key}{fields:List (List UInt8)}(hV:Hid (VC wo Z g0 tyr gq mp nM cH cK AH AK pr kv hs sv fv nt body field T K fields))(hb:Below wo.heap.size wo w)(h0:F 0=.slice AH fields.length cH)(h1:F 1=.iface tyr pr)(h2:F 2=.string (B field))(h13:F 13=.map (some mp))(h21:F 21=.slice AK (keysOf T).length cK)(h36:F 36=.pointer (some ⟨gq,0,none⟩))(ka hh:List UInt8)(h41:F 41=.string (B ka))(h42:F 42=.string (B hh))
  (hR:∀(err:Value) (w':World),ErrIs err (if(hh == sha256L && (ka == K.kind) && servOk K)=true then judgeF fields body field T K else 2)->Gr (fun k=>Z k\/wo.heap.size<=k) wo w'->R (.returned (.tuple #[F 12,err])) w') :
  Code.wp Tryz.prog ct (bodyPost Tryz.prog Tryz.f64 R) ⟨frS 506 F,[]⟩ w:=by
 obtain⟨ct2,hct2⟩:∃ct2,Hid (ct2=tlS B64 25):=⟨_,rfl⟩;subst hct;rw[b64_23_25 ct2 hct2.out];conv=>arg 2;whnf
 simp only[joinS];rw[fr506,h0,h1,h2,h13,h21,h36,h41,h42];have HR:=zH hR;have hK:=hV.out.keep w (Gr.of_below hb);have c1:w.cell? ⟨gq,1,none⟩=some (.string (B K.kind)):=(hK.res.cell 1).trans rfl;clear hR hK;have hs1:((B hh).toList == [115,104,97,49])=(hh == [115,104,97,49]):=by rw[toList_B]
 have hs2:((B hh).toList == [115,104,97,50,53,54])=(hh == [115,104,97,50,53,54]):=by rw[toList_B]
 have hs3:=beq_str (B K.kind) (B ka);rw[L_B,L_B]at hs3;by_cases h1:hh=sha256L
 ·subst h1
  have e1:((B sha256L).toList == [115,104,97,49])=false:=by rw[hs1];rfl
  have e2:((B sha256L).toList == [115,104,97,50,53,54])=true:=by rw[hs2];rfl
  rw[show(sha256L == sha256L)=true from rfl,Bool.true_and]at HR;clear hs1 hs2;by_cases h2:ka=K.kind
  ·have e3:(!((B K.kind).toList == (B ka).toList))=false:=by rw[hs3,h2];simp
   rw[show(ka == K.kind)=true by rw[h2];simp,Bool.true_and]at HR;have e4:((B K.kind).toList == (B ka).toList)=true:=by rw[hs3,h2];simp
   clear hs3 h2;go_wp2;refine useF 506 _ (by kernel_rfl) ?_;exact t25 _ ct2 hct2.out R wo _ hV hb rfl rfl rfl rfl rfl rfl HR.out
  have e4:((B K.kind).toList == (B ka).toList)=false:=by rw[hs3];exact zF fun h=>h2 h.symm
  have e3:(!((B K.kind).toList == (B ka).toList))=true:=by rw[e4];rfl
  rw[show(ka == K.kind)=false from zF h2,Bool.false_and,if_neg Bool.false_ne_true]at HR;clear hs3 h2;go_wp2;exact HR.out _ _ (.inr (.inl ⟨_,rfl,rfl⟩)) (Gr.of_below hb)
 have e2:((B hh).toList == [115,104,97,50,53,54])=false:=by rw[hs2];exact zF h1
 rw[show(hh == sha256L)=false from zF h1,Bool.false_and,Bool.false_and,if_neg Bool.false_ne_true]at HR;cases h3:hh == [115,104,97,49]with
 |true =>
  have e1:((B hh).toList == [115,104,97,49])=true:=by rw[hs1];exact h3
  have hsz:(B hh).size<=4:=by rw[size_B,eq_of_beq h3];decide
  clear hs1 hs2 hs3 h1 h3;go_wp2;exact HR.out _ _ (.inr (.inl ⟨_,rfl,rfl⟩)) (Gr.of_below hb)
 |false =>
  have e1:((B hh).toList == [115,104,97,49])=false:=by rw[hs1];exact h3
  clear hs1 hs2 hs3 h1 h3;go_wp2;exact HR.out _ _ (.inr (.inl ⟨_,rfl,rfl⟩)) (Gr.of_below hb)
theorem b64_22_23(ct:Code)(h:ct=tlS B64 23):tlS B64 22=joinS 1 (tlS B64 22) ct:=by subst h;kernel_rfl
theorem t22(F:Nat->Value)(ct:Code)(hct:ct=tlS B64 22)(R:Ending->World->Prop)(wo w:World){Z:Nat->Prop}{g0 tyr gq mp nM cH cK:Nat}{AH AK:Option Addr}{pr kv hs sv fv:Value}{nt:ByteArray}{body field:List UInt8}{T:List Pair}{K:Key}{fields:List (List UInt8)}(hV:Hid (VC wo Z g0 tyr gq mp nM cH cK AH AK pr kv hs sv fv nt body field T K fields))(hb:Below wo.heap.size wo w)(h0:F 0=.slice AH fields.length cH)(h1:F 1=.iface tyr pr)(h2:F 2=.string (B field))(h13:F 13=.map (some mp))(h21:F 21=.slice AK (keysOf T).length cK)(h36:F 36=.pointer (some ⟨gq,0,none⟩))(ka hh:List UInt8)(h41:F 41=.string (B ka))(h42:F 42=.string (B hh))
  (hR:∀(err:Value) (w':World),ErrIs err (if(hashOk hh K && (hh == sha256L && (ka == K.kind) && servOk K))=true then judgeF fields body field T K else 2)->Gr (fun k=>Z k\/wo.heap.size<=k) wo w'->R (.returned (.tuple #[F 12,err])) w') :
  Code.wp Tryz.prog ct (bodyPost Tryz.prog Tryz.f64 R) ⟨frS 506 F,[]⟩ w:=by
 obtain⟨ct2,hct2⟩:∃ct2,Hid (ct2=tlS B64 23):=⟨_,rfl⟩;subst hct;rw[b64_22_23 ct2 hct2.out];conv=>arg 2;whnf
 simp only[joinS];rw[fr506,h0,h1,h2,h13,h21,h36,h41,h42];have HR:=zH hR;have hK:=hV.out.keep w (Gr.of_below hb);have c4:w.cell? ⟨gq,2,none⟩=some hs:=(hK.res.cell 2).trans rfl;have hS:=hK.hash;unfold hashOk at HR;clear hR hK;cases hq:K.hashes with
 |none =>
  rw[hq]at hS HR;simp only[Bool.true_and]at HR;obtain rfl:hs=.slice none 0 0:=hS;clear hq;go_wp2;refine useF 506 _ (by kernel_rfl) ?_;exact t23 _ ct2 hct2.out R wo _ hV hb rfl rfl rfl rfl rfl rfl ka hh rfl rfl HR.out
 |some ss =>
  rw[hq]at hS HR;obtain⟨g,o,c,rfl,hc,hl,hpos,hcell⟩:=VC.opt hS;have HA:=zH hcell;obtain⟨r,hr⟩:∃r,Hid (among hh ss=r):=⟨_,rfl⟩;simp only[hr.out]at HR;have HQ:=zH hq;clear hS hq hcell;go_wp2;go_loopg [43,303] ss.length (fun gk b v w'=>∃k:Nat,Hid (k+gk=ss.length)/\v=.int .i64 k/\b=.bool false/\Hid (among hh (ss.drop k)=r)/\w=w')
  case atStart=>exact⟨0,Nat.zero_add _,rfl,rfl,hr,rfl⟩
  obtain⟨k,hk,rfl,rfl,hp,rfl⟩:=hrel;have hk':k<=ss.length:=by have:=hk.out;omega
  by_cases hlt:k < ss.length
  ·have hck:=HA.out k ss[k] (zG hlt)
   rw[List.drop_eq_getElem_cons hlt]at hp;have hbq:=beq_str (B ss[k]) (B hh);rw[L_B,L_B]at hbq;by_cases h1:ss[k]=hh
   ·have hp1:=hp.out
    simp only[among,if_pos h1]at hp1;have hb1:((B ss[k]).toList == (B hh).toList)=true:=by rw[hbq,h1];simp
    have Hp:=zH hp1;clear hp hp1 hbq h1;rw[<-Hp.out,Bool.true_and]at HR;go_wp2;refine useF 506 _ (by kernel_rfl) ?_;exact t23 _ ct2 hct2.out R wo _ hV hb rfl rfl rfl rfl rfl rfl ka hh rfl rfl HR.out
   have hp1:=hp.out;simp only[among,if_neg h1]at hp1;have hb1:((B ss[k]).toList == (B hh).toList)=false:=by rw[hbq];exact zF h1
   have Hp:=zH hp1;clear hp hp1 hbq h1;go_wp2;go_roundg (gk - 1)
   case measure=>have:=hk.out;omega
   case rel=>exact⟨k+1,by have:=hk.out;unfold Hid;omega,by go_num,rfl,Hp,rfl⟩
  rw[List.drop_eq_nil_of_le (by omega)]at hp;have Hp:=hp;clear hp;rw[<-Hp.out]at HR;simp only[among,Bool.false_and,if_neg Bool.false_ne_true]at HR;go_wp2;exact HR.out _ _ (.inr (.inl ⟨_,rfl,rfl⟩)) (Gr.of_below hb)
theorem b64_20_22(ct:Code)(h:ct=tlS B64 22):tlS B64 20=joinS 2 (tlS B64 20) ct:=by subst h;kernel_rfl
theorem t20(F:Nat->Value)(ct:Code)(hct:ct=tlS B64 20)(R:Ending->World->Prop)(wo w:World){Z:Nat->Prop}{g0 tyr gq mp nM cH cK:Nat}{AH AK:Option Addr}{pr kv hs sv fv:Value}{nt:ByteArray}{body field:List UInt8}{T:List Pair}{K:Key}{fields:List (List UInt8)}(hV:Hid (VC wo Z g0 tyr gq mp nM cH cK AH AK pr kv hs sv fv nt body field T K fields))(hb:Below wo.heap.size wo w)(h0:F 0=.slice AH fields.length cH)(h1:F 1=.iface tyr pr)(h2:F 2=.string (B field))(h13:F 13=.map (some mp))(h21:F 21=.slice AK (keysOf T).length cK)(h36:F 36=.pointer (some ⟨gq,0,none⟩)) 
  (hR:∀(err:Value) (w':World),ErrIs err (judgeK fields body field T K)->Gr (fun k=>Z k\/wo.heap.size<=k) wo w'->R (.returned (.tuple #[F 12,err])) w') :
  Code.wp Tryz.prog ct (bodyPost Tryz.prog Tryz.f64 R) ⟨frS 506 F,[]⟩ w:=by
 obtain⟨ct2,hct2⟩:∃ct2,Hid (ct2=tlS B64 22):=⟨_,rfl⟩;subst hct;rw[b64_20_22 ct2 hct2.out];conv=>arg 2;whnf
 simp only[joinS];rw[fr506,h0,h1,h2,h13,h21,h36];have HR:=zH hR;have hM:=(hV.out.keep w (Gr.of_below hb)).map;have hk97:(Instr.lookup 155 (.map (some mp)) (.string ⟨#[97]⟩) false).run Tryz.prog w=.ok (.string (B (valOf [97] T))) w:=hM.look ⟨#[97]⟩ (by decide);have hal:(strip (valOf [97] T)).length<=1073741824:=zT (strip_le _) (zT (hV.out.vals _).1 (by decide));have hjk:Hid (judgeK fields body field T K=if cutF 45 (algOf T)=true then(if(hashOk (cutZ 45 (algOf T)) K && (cutZ 45 (algOf T) == sha256L && (cutA 45 (algOf T) == K.kind) && servOk K))=true then judgeF fields body field T K else 2)else 2):=by
  unfold Hid judgeK algOk hashOk servOk judgeF;simp only[Bool.and_assoc];cases cutF 45 (algOf T)
  ·rfl
  simp only[Bool.true_and,if_true];exact bool_flip _ _ _
 rw[hjk.out]at HR;obtain⟨al,hal2⟩:∃al,Hid (algOf T=al):=⟨_,rfl⟩;obtain⟨ka,hka⟩:∃ka,Hid (cutA 45 al=ka):=⟨_,rfl⟩;obtain⟨hh,hhh⟩:∃hh,Hid (cutZ 45 al=hh):=⟨_,rfl⟩;rw[hal2.out,hka.out,hhh.out]at HR;have hal3:al.length<=1073741824:=by rw[<-hal2.out];exact hal
 clear hR hM hjk hal;cases hcf:cutF 45 al with
 |true =>
  have HCF:=zH hcf;rw[hcf,if_pos rfl]at HR;clear hcf;go_wp2_with (first
   |(go_at_call 98;refine(c98p (valOf [97] T) _ (by rw[size_B];have:=(hV.out.vals [97]).1;omega) (hV.out.vals _).2).mono ?_;rintro e w1⟨rfl,hb1⟩;rw[show strip (valOf [97] T)=al from hal2.out];have hc1:=hb.trans (hb1.mono hb.size))
   |(go_at_call 94;refine(c94q al _ 45 rfl _ (by rw[size_B];omega)).mono ?_;rintro e w2⟨rfl,hb2⟩;rw[show(((45:UInt8).toNat:Nat):Int)=45 from rfl,hka.out,hhh.out,HCF.out];have hc2:=hc1.trans (hb2.mono hc1.size)))
  refine useF 506 _ (by kernel_rfl) ?_;exact t22 _ ct2 hct2.out R wo _ hV hc2 rfl rfl rfl rfl rfl rfl ka hh rfl rfl HR.out
 |false =>
  have HCF:=zH hcf;rw[hcf,if_neg Bool.false_ne_true]at HR;clear hcf;go_wp2_with (first
   |(go_at_call 98;refine(c98p (valOf [97] T) _ (by rw[size_B];have:=(hV.out.vals [97]).1;omega) (hV.out.vals _).2).mono ?_;rintro e w1⟨rfl,hb1⟩;rw[show strip (valOf [97] T)=al from hal2.out];have hc1:=hb.trans (hb1.mono hb.size))
   |(go_at_call 94;refine(c94q al _ 45 rfl _ (by rw[size_B];omega)).mono ?_;rintro e w2⟨rfl,hb2⟩;rw[show(((45:UInt8).toNat:Nat):Int)=45 from rfl,hka.out,hhh.out,HCF.out];have hc2:=hc1.trans (hb2.mono hc1.size)))
  exact HR.out _ _ (.inr (.inl ⟨_,rfl,rfl⟩)) (Gr.of_below hc2)
end Go.Proofs.YtnkihlpmmfeioaaGreatDoor
