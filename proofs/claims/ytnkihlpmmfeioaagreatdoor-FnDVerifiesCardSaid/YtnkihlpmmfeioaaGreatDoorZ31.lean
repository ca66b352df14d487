/- Part of the proof that laws.FnDVerifies answers true: A17b,A17d -/
import Derived.Test.YtnkihlpmmfeioaaGreatDoorZ23
set_option linter.unusedVariables false
set_option linter.unusedSimpArgs false
set_option maxRecDepth 1000000
set_option maxHeartbeats 16000000
namespace Go.Proofs.YtnkihlpmmfeioaaGreatDoor
open Go.RowKit
theorem c74n(s:ByteArray)(w:World)(hs:s.size<=1073741824)(h0:readM s.data.toList=none) :
  Calls Tryz.prog 74 #[.string s] w fun e w'=>∃v,e=.returned (.tuple #[v,.int .i64 (if(readM s.data.toList).isSome then 0 else 2)])/\v=.agg #[.string ⟨#[]⟩,.slice none 0 0,.int .i64 0,.slice none 0 0,.slice none 0 0,.slice none 0 0,.string ⟨#[]⟩,.bool false,.bool false]/\Below w.heap.size w w':=by
 have HN:=zH h0;clear h0;obtain⟨T,hT⟩:∃T,Hid (tagsM (split 59 s.data.toList) []=T):=⟨_,rfl⟩;obtain⟨R,hR⟩:∃R,Hid (readM s.data.toList=R):=⟨_,rfl⟩;rw[hR.out];cases hTT:T with
 |none =>
  rw[hTT]at hT;have hRN:R=none:=by rw[<-hR.out,readM,hT.out]
  subst hRN;clear hTT;go_enter Tryz.func74,Tryz.ntmps74;go_wp2_with (first
   |(go_at_call 32;refine(c32 _ _ hs).mono ?_;rintro e w1⟨v,rfl,hv,hb1⟩;rw[hT.out]at hv ⊢;have hBB:Below w.heap.size w w1:=((zB _ w).alloc (zR _) _).trans (hb1.mono (by simp));have hr:Blk w1 w.heap.size #[.string ⟨#[]⟩,.slice none 0 0,.int .i64 0,.slice none 0 0,.slice none 0 0,.slice none 0 0,.string ⟨#[]⟩,.bool false,.bool false] 129:=(Blk.new w _ 129).below hb1 (by simp)
     have c0:w1.cell? ⟨w.heap.size,0,none⟩=some (.string ⟨#[]⟩):=hr.cell 0;have cf0:=hr.frozen 0;have c1:w1.cell? ⟨w.heap.size,1,none⟩=some (.slice none 0 0):=hr.cell 1;have cf1:=hr.frozen 1;have c2:w1.cell? ⟨w.heap.size,2,none⟩=some (.int .i64 0):=hr.cell 2;have cf2:=hr.frozen 2;have c3:w1.cell? ⟨w.heap.size,3,none⟩=some (.slice none 0 0):=hr.cell 3;have cf3:=hr.frozen 3;have c4:w1.cell? ⟨w.heap.size,4,none⟩=some (.slice none 0 0):=hr.cell 4;have cf4:=hr.frozen 4;have c5:w1.cell? ⟨w.heap.size,5,none⟩=some (.slice none 0 0):=hr.cell 5;have cf5:=hr.frozen 5;have c6:w1.cell? ⟨w.heap.size,6,none⟩=some (.string ⟨#[]⟩):=hr.cell 6;have cf6:=hr.frozen 6;have c7:w1.cell? ⟨w.heap.size,7,none⟩=some (.bool false):=hr.cell 7;have cf7:=hr.frozen 7;have c8:w1.cell? ⟨w.heap.size,8,none⟩=some (.bool false):=hr.cell 8;have cf8:=hr.frozen 8;rw[Option.isSome_none])
   |(go_at_call 33;refine(c33 _ [] _ _ hv).mono ?_;rintro e w'⟨rfl,rfl⟩))
  refine bodyPost_ret (results_cell_tmp rfl _ _ _ _ (by rfl) (((((((((hr.set_ 0 _).set_ 1 _).set_ 2 _).set_ 3 _).set_ 4 _).set_ 5 _).set_ 6 _).set_ 7 _).set_ 8 _) (run_loadVar_row _ _ _ _ _ _ _ (((((((((hr.set_ 0 _).set_ 1 _).set_ 2 _).set_ 3 _).set_ 4 _).set_ 5 _).set_ 6 _).set_ 7 _).set_ 8 _) Tryz.underlying129 rfl (by kernel_rfl))) rfl ?_;exact⟨_,rfl,by simp,(below_set (below_set (below_set (below_set (below_set (below_set (below_set (below_set (below_set hBB (zR _)) (zR _)) (zR _)) (zR _)) (zR _)) (zR _)) (zR _)) (zR _)) (zR _))⟩
 |some ts =>
  rw[hTT]at hT;clear hTT;have hRK:Hid (keyM ts=R):=by unfold Hid;rw[<-hR.out,readM,hT.out]
  have hvl:∀t,(B (valOf t ts)).size<=1073741824:=fun t=>by
   have h1:=split_allLe 59 s.data.toList;rw[size_L]at h1;have:=valOf_le (tagsM_le _ _ _ h1 (by simp) hT.out) t;rw[size_B];omega
  go_enter Tryz.func74,Tryz.ntmps74;go_upto_region 3 with(first
   |(go_at_call 32;refine(c32 _ _ hs).mono ?_;rintro e w1⟨v,rfl,hv,hb1⟩;rw[hT.out]at hv ⊢;have hBB:Below w.heap.size w w1:=((zB _ w).alloc (zR _) _).trans (hb1.mono (by simp));have hr:Blk w1 w.heap.size #[.string ⟨#[]⟩,.slice none 0 0,.int .i64 0,.slice none 0 0,.slice none 0 0,.slice none 0 0,.string ⟨#[]⟩,.bool false,.bool false] 129:=(Blk.new w _ 129).below hb1 (by simp)
     rw[Option.isSome_some];rw[Option.getD_some]at hv)
   |(go_at_call 33;refine(c33 _ ts _ _ hv).mono ?_;rintro e w'⟨rfl,rfl⟩))
  go_cut [6,7,39] (fun _ _ c wx=>c=.bool (decide (hasTag [118] ts=true/\valOf [118] ts≠dkim1L))/\wx=w1)
  case first =>
   cases hH:hasTag [118] ts with
   |true =>
    by_cases hD:valOf [118] ts=dkim1L
    ·have e1:decide (hasTag [118] ts=true/\valOf [118] ts≠dkim1L)=false:=by simp[hD]
     have E1:=zH e1;have hb9:((B (valOf [118] ts)).toList == [68,75,73,77,49])=true:=by rw[toList_B,hD];rfl
     clear hD e1;go_wp2
     go_meet
     exact⟨congrArg Value.bool E1.out.symm,rfl⟩
    have e1:decide (hasTag [118] ts=true/\valOf [118] ts≠dkim1L)=true:=by simp[hD,hH]
    have E1:=zH e1;have hb9:((B (valOf [118] ts)).toList == [68,75,73,77,49])=false:=by rw[toList_B];exact zF hD
    clear hD e1;go_wp2
    go_meet
    exact⟨congrArg Value.bool E1.out.symm,rfl⟩
   |false =>
    have e1:decide (hasTag [118] ts=true/\valOf [118] ts≠dkim1L)=false:=by simp[hH]
    have E1:=zH e1;clear e1;go_wp2
    go_meet
    exact⟨congrArg Value.bool E1.out.symm,rfl⟩
  case rest =>
   obtain⟨rfl,rfl⟩:=hcut;by_cases hB1:hasTag [118] ts=true/\valOf [118] ts≠dkim1L
   ·have e1:decide (hasTag [118] ts=true/\valOf [118] ts≠dkim1L)=true:=decide_eq_true hB1
    have hRN:R=none:=by rw[<-hRK.out,keyM,if_pos hB1]
    subst hRN;clear hB1 hvl hRK hR;have c0:wc.cell? ⟨w.heap.size,0,none⟩=some (.string ⟨#[]⟩):=hr.cell 0;have cf0:=hr.frozen 0;have c1:wc.cell? ⟨w.heap.size,1,none⟩=some (.slice none 0 0):=hr.cell 1;have cf1:=hr.frozen 1;have c2:wc.cell? ⟨w.heap.size,2,none⟩=some (.int .i64 0):=hr.cell 2;have cf2:=hr.frozen 2;have c3:wc.cell? ⟨w.heap.size,3,none⟩=some (.slice none 0 0):=hr.cell 3;have cf3:=hr.frozen 3;have c4:wc.cell? ⟨w.heap.size,4,none⟩=some (.slice none 0 0):=hr.cell 4;have cf4:=hr.frozen 4;have c5:wc.cell? ⟨w.heap.size,5,none⟩=some (.slice none 0 0):=hr.cell 5;have cf5:=hr.frozen 5;have c6:wc.cell? ⟨w.heap.size,6,none⟩=some (.string ⟨#[]⟩):=hr.cell 6;have cf6:=hr.frozen 6;have c7:wc.cell? ⟨w.heap.size,7,none⟩=some (.bool false):=hr.cell 7;have cf7:=hr.frozen 7;have c8:wc.cell? ⟨w.heap.size,8,none⟩=some (.bool false):=hr.cell 8;have cf8:=hr.frozen 8;rw[e1];go_wp2;refine bodyPost_ret (results_cell_tmp rfl _ _ _ _ (by rfl) (((((((((hr.set_ 0 _).set_ 1 _).set_ 2 _).set_ 3 _).set_ 4 _).set_ 5 _).set_ 6 _).set_ 7 _).set_ 8 _) (run_loadVar_row _ _ _ _ _ _ _ (((((((((hr.set_ 0 _).set_ 1 _).set_ 2 _).set_ 3 _).set_ 4 _).set_ 5 _).set_ 6 _).set_ 7 _).set_ 8 _) Tryz.underlying129 rfl (by kernel_rfl))) rfl ?_;exact⟨_,rfl,by simp,(below_set (below_set (below_set (below_set (below_set (below_set (below_set (below_set (below_set hBB (zR _)) (zR _)) (zR _)) (zR _)) (zR _)) (zR _)) (zR _)) (zR _)) (zR _))⟩
   have e1:decide (hasTag [118] ts=true/\valOf [118] ts≠dkim1L)=false:=decide_eq_false hB1;rw[e1];have HB1:=zH hB1;clear hB1 e1;have hbl:(B (bare (valOf [112] ts))).size<=1073741824:=by have:=bare_le (valOf [112] ts);have:=hvl [112];rw[size_B]at *;omega
   have hvl112:=hvl [112];obtain⟨U,hU⟩:∃U,Hid (unb64 (bare (valOf [112] ts))=U):=⟨_,rfl⟩;go_upto_region 8 with(first
    |(go_at_call 33;refine(c33 _ ts _ _ (by first|exact hv|exact hv.below hb3)).mono ?_;rintro e w'⟨rfl,rfl⟩)
    |(go_at_call 117;refine(c117p _ _ (by omega)).mono ?_;rintro e w2⟨rfl,hb2⟩)
    |(go_at_call 76;refine(c76p _ _ (by omega)).mono ?_;rintro e w3⟨rfl,hb3⟩;rw[hU.out];replace hb3:=bthen hb2 hb3))
   go_cut [13,62] (fun _ c wx=>c=.bool (decide (¬(hasTag [107] ts=true)\/valOf [107] ts=[]))/\wx=w3)
   case first =>
    cases hH:hasTag [107] ts with
    |true =>
     by_cases hD:valOf [107] ts=[]
     ·have E1:=zH (show decide (¬(hasTag [107] ts=true)\/valOf [107] ts=[])=true by simp[hD])
      have hb9:(B (valOf [107] ts)).toList.isEmpty=true:=by rw[toList_B,hD];rfl
      clear hD;go_wp2
      go_meet
      exact⟨congrArg Value.bool E1.out.symm,rfl⟩
     have E1:=zH (show decide (¬(hasTag [107] ts=true)\/valOf [107] ts=[])=false by simp[hD,hH]);have hb9:(B (valOf [107] ts)).toList.isEmpty=false:=by rw[toList_B,List.isEmpty_eq_false_iff];exact hD
     clear hD;go_wp2
     go_meet
     exact⟨congrArg Value.bool E1.out.symm,rfl⟩
    |false =>
     have E1:=zH (show decide (¬(hasTag [107] ts=true)\/valOf [107] ts=[])=true by simp[hH]);go_wp2
     go_meet
     exact⟨congrArg Value.bool E1.out.symm,rfl⟩
   case rest =>
   obtain⟨rfl,rfl⟩:=hcut
   go_upto_if 62 with fail
   go_cut [12] (fun k wx=>k=.string (B (kindOf ts))/\wx=wc)
   case first =>
    by_cases hD:¬(hasTag [107] ts=true)\/valOf [107] ts=[]
    ·have e2:=decide_eq_true hD
     have E1:=zH (show kindOf ts=rsaL from kindOf_a hD);rw[e2];clear hD;go_wp2
     go_meet
     exact⟨by rw[E1.out];rfl,rfl⟩
    have e2:=decide_eq_false hD;have E1:=zH (show kindOf ts=valOf [107] ts from kindOf_b hD);rw[e2];clear hD;go_wp2
    go_meet
    exact⟨by rw[E1.out],rfl⟩
   case rest =>
   obtain⟨rfl,rfl⟩:=hcut;obtain⟨K,hK⟩:∃K,Hid (kindOf ts=K):=⟨_,rfl⟩;obtain⟨bb,hbb⟩:∃bb,Hid (U.getD []=bb):=⟨_,rfl⟩;have hbsz:(B bb).size<=3221225472:=by
    have h1:=unb64_le (bare (valOf [112] ts));rw[hU.out,hbb.out]at h1;rw[size_B]at hbl ⊢;omega
   rw[hK.out,hbb.out];go_upto_region 10 with fail
   go_cut [14] (fun c wx=>c=.bool (badKey K bb)/\wx=wc)
   case first =>
    by_cases hK1:K=rsaL
    ·have k1:((B K).toList == [114,115,97])=true:=by rw[toList_B,hK1];rfl
     have k2:((B K).toList == [101,100,50,53,53,49,57])=false:=by rw[toList_B,hK1];rfl
     by_cases h8:8*bb.length < 1024
     ·have E1:=zH (show badKey K bb=true by unfold badKey;rw[decide_eq_true hK1,decide_eq_true h8];rfl)
      have d1:(8*((B bb).size:Int) < 1024):=by rw[size_B];omega
      clear hK1 h8;go_wp2
      go_meet
      exact⟨congrArg Value.bool E1.out.symm,rfl⟩
     have E1:=zH (show badKey K bb=false by unfold badKey;rw[decide_eq_true hK1,decide_eq_false h8,hK1];rfl);have d1:¬(8*((B bb).size:Int) < 1024):=by rw[size_B];omega
     clear hK1 h8;go_wp2
     go_meet
     exact⟨congrArg Value.bool E1.out.symm,rfl⟩
    have k1:((B K).toList == [114,115,97])=false:=by rw[toList_B];exact zF hK1
    by_cases hK2:K=edL
    ·have k2:((B K).toList == [101,100,50,53,53,49,57])=true:=by rw[toList_B,hK2];rfl
     by_cases h8:bb.length=32
     ·have E1:=zH (show badKey K bb=false by unfold badKey;rw[decide_eq_false hK1,decide_eq_true hK2,decide_eq_true h8];rfl)
      have d1:(((B bb).size:Int) != 32)=false:=by rw[size_B];exact zQ (by omega)
      clear hK1 h8 hK2;go_wp2
      go_meet
      exact⟨congrArg Value.bool E1.out.symm,rfl⟩
     have E1:=zH (show badKey K bb=true by unfold badKey;rw[decide_eq_false hK1,decide_eq_true hK2,decide_eq_false h8];rfl);have d1:(((B bb).size:Int) != 32)=true:=by rw[size_B];exact zN (by omega)
     clear hK1 h8 hK2;go_wp2
     go_meet
     exact⟨congrArg Value.bool E1.out.symm,rfl⟩
    have k2:((B K).toList == [101,100,50,53,53,49,57])=false:=by rw[toList_B];exact zF hK2
    have E1:=zH (show badKey K bb=false by unfold badKey;rw[decide_eq_false hK1,decide_eq_false hK2];rfl);clear hK1 hK2;go_wp2
    go_meet
    exact⟨congrArg Value.bool E1.out.symm,rfl⟩
   case rest =>
   obtain⟨rfl,rfl⟩:=hcut;obtain⟨bd,hbd⟩:∃bd,Hid (badKey K bb=bd):=⟨_,rfl⟩;rw[hbd.out];obtain⟨hp,hhp⟩:∃hp,Hid (hasTag [112] ts=hp):=⟨_,rfl⟩;rw[hhp.out];obtain⟨us,hus⟩:∃us,Hid (U.isSome=us):=⟨_,rfl⟩;rw[hus.out];obtain⟨V,hV⟩:∃V,Hid (valOf [112] ts=V):=⟨_,rfl⟩;rw[hV.out];go_upto_region 11 with fail
   go_cut [9,11,14,100] (fun _ _ _ c wx=>c=.bool (decide (hp=false\/V=[]\/us=false\/(K≠rsaL/\K≠edL)\/bd=true))/\wx=wc)
   case first =>
    cases hp with
    |false =>
     have E1:=zH (show decide (false=false\/V=[]\/us=false\/(K≠rsaL/\K≠edL)\/bd=true)=true by simp);go_wp2
     go_meet
     exact⟨congrArg Value.bool E1.out.symm,rfl⟩
    |true =>
     by_cases hVe:V=[]
     ·have E1:=zH (show decide (true=false\/V=[]\/us=false\/(K≠rsaL/\K≠edL)\/bd=true)=true by simp[hVe])
      have hb9:(B V).toList.isEmpty=true:=by rw[toList_B,hVe];rfl
      clear hVe;go_wp2
      go_meet
      exact⟨congrArg Value.bool E1.out.symm,rfl⟩
     have hb9:(B V).toList.isEmpty=false:=by rw[toList_B,List.isEmpty_eq_false_iff];exact hVe
     cases us with
     |false =>
      have E1:=zH (show decide (true=false\/V=[]\/false=false\/(K≠rsaL/\K≠edL)\/bd=true)=true by simp);clear hVe;go_wp2
      go_meet
      exact⟨congrArg Value.bool E1.out.symm,rfl⟩
     |true =>
      by_cases hK1:K=rsaL
      ·have k1:((B K).toList == [114,115,97])=true:=by rw[toList_B,hK1];rfl
       have E1:=zH (show decide (true=false\/V=[]\/true=false\/(K≠rsaL/\K≠edL)\/bd=true)=bd by simp[hVe,hK1]);clear hVe hK1;go_wp2;all_goals
        go_meet
        exact⟨congrArg Value.bool (by rw[E1.out]),rfl⟩
      have k1:((B K).toList == [114,115,97])=false:=by rw[toList_B];exact zF hK1
      by_cases hK2:K=edL
      ·have k2:((B K).toList == [101,100,50,53,53,49,57])=true:=by rw[toList_B,hK2];rfl
       have E1:=zH (show decide (true=false\/V=[]\/true=false\/(K≠rsaL/\K≠edL)\/bd=true)=bd by simp[hVe,hK2]);clear hVe hK1 hK2;go_wp2;all_goals
        go_meet
        exact⟨congrArg Value.bool (by rw[E1.out]),rfl⟩
      have k2:((B K).toList == [101,100,50,53,53,49,57])=false:=by rw[toList_B];exact zF hK2
      have E1:=zH (show decide (true=false\/V=[]\/true=false\/(K≠rsaL/\K≠edL)\/bd=true)=true by simp[hK1,hK2]);clear hVe hK1 hK2;go_wp2
      go_meet
      exact⟨congrArg Value.bool E1.out.symm,rfl⟩
   case rest =>
   obtain⟨rfl,rfl⟩:=hcut;by_cases hB2:hp=false\/V=[]\/us=false\/(K≠rsaL/\K≠edL)\/bd=true
   ·have e1:=decide_eq_true hB2
    have hRN:R=none:=by
     rw[<-hRK.out,keyM,if_neg HB1.out,hU.out,hV.out,hhp.out,hK.out];cases U with
     |none=>rfl
     |some b =>
      have hbb':=hbb.out;rw[Option.getD_some]at hbb';subst hbb';simp only;rw[hbd.out,if_neg];rintro⟨q1,q2,q3,q4⟩;rcases hB2 with h|h|h|h|h
      ·rw[h]at q1;cases q1
      ·exact q2 h
      ·have:=hus.out;rw[h]at this;cases this
      ·rcases q3 with q3|q3
       ·exact h.1 q3
       exact h.2 q3
      rw[h]at q4;cases q4
    subst hRN;have hr:=hr.below hb3 hr.lt;have hBB:=bthen hBB hb3;clear hB2 hvl hRK hR;have c0:wc.cell? ⟨w.heap.size,0,none⟩=some (.string ⟨#[]⟩):=hr.cell 0;have cf0:=hr.frozen 0;have c1:wc.cell? ⟨w.heap.size,1,none⟩=some (.slice none 0 0):=hr.cell 1;have cf1:=hr.frozen 1;have c2:wc.cell? ⟨w.heap.size,2,none⟩=some (.int .i64 0):=hr.cell 2;have cf2:=hr.frozen 2;have c3:wc.cell? ⟨w.heap.size,3,none⟩=some (.slice none 0 0):=hr.cell 3;have cf3:=hr.frozen 3;have c4:wc.cell? ⟨w.heap.size,4,none⟩=some (.slice none 0 0):=hr.cell 4;have cf4:=hr.frozen 4;have c5:wc.cell? ⟨w.heap.size,5,none⟩=some (.slice none 0 0):=hr.cell 5;have cf5:=hr.frozen 5;have c6:wc.cell? ⟨w.heap.size,6,none⟩=some (.string ⟨#[]⟩):=hr.cell 6;have cf6:=hr.frozen 6;have c7:wc.cell? ⟨w.heap.size,7,none⟩=some (.bool false):=hr.cell 7;have cf7:=hr.frozen 7;have c8:wc.cell? ⟨w.heap.size,8,none⟩=some (.bool false):=hr.cell 8;have cf8:=hr.frozen 8;rw[e1];go_wp2;refine bodyPost_ret (results_cell_tmp rfl _ _ _ _ (by rfl) (((((((((hr.set_ 0 _).set_ 1 _).set_ 2 _).set_ 3 _).set_ 4 _).set_ 5 _).set_ 6 _).set_ 7 _).set_ 8 _) (run_loadVar_row _ _ _ _ _ _ _ (((((((((hr.set_ 0 _).set_ 1 _).set_ 2 _).set_ 3 _).set_ 4 _).set_ 5 _).set_ 6 _).set_ 7 _).set_ 8 _) Tryz.underlying129 rfl (by kernel_rfl))) rfl ?_;exact⟨_,rfl,by simp,(below_set (below_set (below_set (below_set (below_set (below_set (below_set (below_set (below_set hBB (zR _)) (zR _)) (zR _)) (zR _)) (zR _)) (zR _)) (zR _)) (zR _)) (zR _))⟩
   exfalso;have HB2:=zH hB2;have hRS:R=some ⟨K,bb,hashOf ts,servOf ts⟩:=by
    have hb2':=HB2.out;cases U with
    |none=>have:=hus.out;exact absurd (Or.inr (Or.inr (Or.inl (by rw[<-this];rfl)))) hb2'
    |some b =>
     have hbb':=hbb.out;rw[Option.getD_some]at hbb';subst hbb';rw[<-hRK.out,keyM,if_neg HB1.out,hU.out,hV.out,hhp.out,hK.out];simp only;rw[hbd.out,if_pos];refine⟨?_,?_,?_,?_⟩
     ·cases hp with
      |true=>rfl
      |false=>exact absurd (Or.inl rfl) hb2'
     ·exact fun h=>hb2' (Or.inr (Or.inl h))
     ·exact Classical.byContradiction fun h=>hb2' (Or.inr (Or.inr (Or.inr (Or.inl ⟨fun q=>h (Or.inl q),fun q=>h (Or.inr q)⟩))))
     cases bd with
     |false=>rfl
     |true=>exact absurd (Or.inr (Or.inr (Or.inr (Or.inr rfl)))) hb2'
   have hRN:=hRS;cases(HN.out.symm.trans (hR.out.trans hRN))
theorem t74(f0 f1 f3 f5 f6 f7 f8 f9 f10 f11 f12 f13 f14 f16 f17 f18 f19 f20 f21 f22 f23 f24 f25 f26 f27 f28 f29 f30 f31 f32 f33 f34 f35 f36 f37 f38 f39 f40 f41 f42 f43 f44 f45 f46 f47 f48 f49 f50 f51 f52 f53 f54 f55 f56 f57 f58 f59 f60 f61 f62 f63 f64 f65 f66 f67 f68 f69 f70 f71 f72 f73 f74 f75 f76 f77 f78 f79 f80 f81 f82 f83 f84 f85 f86 f87 f88 f89 f90 f91 f92 f93 f94 f95 f96 f97 f98 f99 f100 f101 f102 f103 f104 f105 f106 f107 f108 f109 f110 f111 f112 f113 f114 f115 f116 f117 f118 f119 f120 f121 f122 f123 f124 f125 f126 f127 f128 f129 f130 f131 f132 f133 f134 f135 f136 f137 f138 f139 f140 f141 f142 f143 f144 f145 f146 f147 f148 f149 f150 f151 f152 f153:Value)(ct:Code)(hct:ct=tlS B74 10)(w WS:World)(gx sz:Nat)(v bv:Value)(K bb:List UInt8)(ts:List Pair)
  (hBlk:Blk WS gx #[.string (B K),bv,.int .i64 (8*((B bb).size:Int)),.slice none 0 0,.slice none 0 0,.slice none 0 0,.string ⟨#[]⟩,.bool false,.bool false] 129)(hRB:RdB WS bv bb)(hbvA:∀g o n c,bv=.slice (some ⟨g,o,none⟩) n c->sz<=g)
  (hgl:gx < WS.heap.size)(hgxw:sz < gx)(hrAl:w.heap.size < sz)(hkeep:∀wx,Below gx WS wx->RdP wx v ts)(hkeepR:∀wx,Below gx WS wx->Blk wx w.heap.size #[.string ⟨#[]⟩,.slice none 0 0,.int .i64 0,.slice none 0 0,.slice none 0 0,.slice none 0 0,.string ⟨#[]⟩,.bool false,.bool false] 129)(hfin:∀wx,Below gx WS wx->Below w.heap.size w wx)
  (hRBk:∀wx,Below gx WS wx->RdB wx bv bb)(hvS:RdP WS v ts)(hvl104:(B (valOf [104] ts)).size<=1073741824)(hvl115:(B (valOf [115] ts)).size<=1073741824)(hvl116:(B (valOf [116] ts)).size<=1073741824) :
  Code.wp Tryz.prog ct (bodyPost Tryz.prog Tryz.f74 fun e w'=>∃v,e=.returned (.tuple #[v,.int .i64 0])/\KeyAt w' w.heap.size v ⟨K,bb,hashOf ts,servOf ts⟩/\Below w.heap.size w w') ⟨(f0::f1::(.pointer (some ⟨w.heap.size,0,none⟩))::f3::(v)::f5::f6::f7::f8::f9::f10::f11::f12::f13::f14::(.pointer (some ⟨gx,0,none⟩))::f16::f17::f18::f19::f20::f21::f22::f23::f24::f25::f26::f27::f28::f29::f30::f31::f32::f33::f34::f35::f36::f37::f38::f39::f40::f41::f42::f43::f44::f45::f46::f47::f48::f49::f50::f51::f52::f53::f54::f55::f56::f57::f58::f59::f60::f61::f62::f63::f64::f65::f66::f67::f68::f69::f70::f71::f72::f73::f74::f75::f76::f77::f78::f79::f80::f81::f82::f83::f84::f85::f86::f87::f88::f89::f90::f91::f92::f93::f94::f95::f96::f97::f98::f99::f100::f101::f102::f103::f104::f105::f106::f107::f108::f109::f110::f111::f112::f113::f114::f115::f116::f117::f118::f119::f120::f121::f122::f123::f124::f125::f126::f127::f128::f129::f130::f131::f132::f133::f134::f135::f136::f137::f138::f139::f140::f141::f142::f143::f144::f145::f146::f147::f148::f149::f150::f151::f152::f153::[]).toArray,[]⟩ WS:=by
 subst hct;conv=>arg 2;whnf
 go_upto_region 14 with fail
 have s7:WS.cell? ⟨gx,7,none⟩=some (.bool false):=hBlk.cell 7;have sf7:=hBlk.frozen 7
 go_upto_if 117 with(go_at_call 33;refine(c33 _ ts _ _ hvS).mono ?_;rintro e w'⟨rfl,rfl⟩)
 clear s7 sf7;have hB1:=(hBlk.set_ 7 (.bool (!hasTag [104] ts))).to (cs':=#[.string (B K),bv,.int .i64 (8*((B bb).size:Int)),.slice none 0 0,.slice none 0 0,.slice none 0 0,.string ⟨#[]⟩,.bool (hashOf ts).isNone,.bool false]) (by rw[hashOf_isNone];rfl);obtain⟨W1,hW1⟩:∃W,W=WS.setCell ⟨gx,7,none⟩ (.bool (!hasTag [104] ts)):=⟨_,rfl⟩;have hbe1:Below gx WS W1:=by rw[hW1];exact belowB_set (zB _ _) (zR _) (by omega)
 have hsz1:gx < W1.heap.size:=by rw[hW1,World.size_setCell];exact hgl
 rw[<-hW1]at hB1 ⊢;clear hW1
 go_cut [17] (fun _ wx=>∃hvv,Hid (Blk wx gx #[.string (B K),bv,.int .i64 (8*((B bb).size:Int)),hvv,.slice none 0 0,.slice none 0 0,.string ⟨#[]⟩,.bool (hashOf ts).isNone,.bool false] 129)/\Hid (Own wx (gx+1) 9 hvv (((hashOf ts).getD []).map strV))/\Hid (Below gx WS wx)/\gx < wx.heap.size)
 case first =>
  cases hH:hasTag [104] ts with
  |true =>
   have HB1':=zH hB1;go_wp2_with (go_at_call 71;refine(c71p _ _ hvl104).mono ?_;rintro e w6⟨hvv,rfl,hO6,hb6⟩;have hs6:=hO6.slice;rw[List.length_map]at hs6;obtain⟨A6,c6,rfl,_,_⟩:=hs6;have hB6:=HB1'.out.below hb6 hsz1;have s3:w6.cell? ⟨gx,3,none⟩=some (.slice none 0 0):=hB6.cell 3;have sf3:=hB6.frozen 3)
   go_meet
   refine⟨.slice A6 (listOf (valOf [104] ts)).length c6,(hB6.set_ 3 (.slice A6 (listOf (valOf [104] ts)).length c6)).to rfl,?_,belowB_set (hbe1.trans (hb6.mono (by omega))) (zR _) (by have:=hb6.size;omega),by rw[World.size_setCell];have:=hb6.size;omega⟩;rw[show(hashOf ts).getD []=listOf (valOf [104] ts)by unfold hashOf;rw[if_pos hH];rfl];have hO7:=hO6.mono (show gx+1<=W1.heap.size by omega);exact zH (hO7.grown (grown_set _ _ _ _) (hO7.off (Nat.lt_succ_self _)))
  |false =>
   have HB1':=zH hB1;go_wp2
   go_meet
   exact⟨_,HB1'.out,by rw[show(hashOf ts).getD []=[]by unfold hashOf;rw[if_neg (by rw[hH];decide)];rfl];exact Own.nil _ _ _,hbe1,hsz1⟩
 case rest =>
 clear hB1 hbe1 hsz1;obtain⟨hvv,HBk,HO,hBe,hsz⟩:=hcut;have hvC:=hkeep wc hBe.out;have s8:wc.cell? ⟨gx,8,none⟩=some (.bool false):=HBk.out.cell 8;have sf8:=HBk.out.frozen 8
 go_upto_if 129 with(go_at_call 33;refine(c33 _ ts _ _ hvC).mono ?_;rintro e w'⟨rfl,rfl⟩)
 clear s8 sf8;have hB2:=(HBk.out.set_ 8 (.bool (!hasTag [115] ts))).to (cs':=#[.string (B K),bv,.int .i64 (8*((B bb).size:Int)),hvv,.slice none 0 0,.slice none 0 0,.string ⟨#[]⟩,.bool (hashOf ts).isNone,.bool (!hasTag [115] ts)]) rfl;have hO2:=HO.out.grown (grown_set wc gx 8 (.bool (!hasTag [115] ts))) (HO.out.off (Nat.lt_succ_self _));have hbe2:=belowB_set (k:=8) (u:=.bool (!hasTag [115] ts)) hBe.out (zR _) (by omega);have hsz2:gx < (wc.setCell ⟨gx,8,none⟩ (.bool (!hasTag [115] ts))).heap.size:=by rw[World.size_setCell];exact hsz
 obtain⟨W2,hW2⟩:∃W,W=wc.setCell ⟨gx,8,none⟩ (.bool (!hasTag [115] ts)):=⟨_,rfl⟩;rw[<-hW2]at hB2 hO2 hbe2 hsz2 ⊢;have hOl:(listOf (valOf [115] ts)).length<=1152921504606846976:=by have h1:=listOf_len (valOf [115] ts);rw[size_B]at hvl115;omega
 have HB2':=zH hB2;have HO2':=zH hO2;clear hW2 hB2 hO2
 go_cut [17] (fun _ wx=>∃svv,Hid (Blk wx gx #[.string (B K),bv,.int .i64 (8*((B bb).size:Int)),hvv,svv,.slice none 0 0,.string ⟨#[]⟩,.bool (hashOf ts).isNone,.bool (servOf ts).isNone] 129)/\Hid (Own wx (gx+1) 9 hvv (((hashOf ts).getD []).map strV))/\Hid (Own wx (gx+1) 9 svv (((servOf ts).getD []).map strV))/\Hid (Below gx WS wx)/\gx < wx.heap.size)
 case first =>
  cases hH:hasTag [115] ts with
  |true =>
   cases hA:among [42] (listOf (valOf [115] ts))with
   |true =>
    have E1:=zH (show servOf ts=none by unfold servOf;rw[if_pos hH,if_pos hA]);go_wp2_with (first
     |(go_at_call 71;refine(c71p _ _ hvl115).mono ?_;rintro e w6⟨svv,rfl,hO6,hb6⟩
       have hO7:=(hO6.mono (show gx+1<=W2.heap.size by omega));have hs6:=hO6.slice;rw[List.length_map]at hs6;obtain⟨A6,c6,rfl,_,_⟩:=hs6;have hB6:=HB2'.out.below hb6 hsz2;have s4:w6.cell? ⟨gx,4,none⟩=some (.slice none 0 0):=hB6.cell 4;have sf4:=hB6.frozen 4;have s8:w6.cell? ⟨gx,8,none⟩=some (.bool (!hasTag [115] ts)):=hB6.cell 8;have sf8:=hB6.frozen 8;have hO8:=fun u=>hO7.grown (grown_set w6 gx 4 u) (hO7.off (Nat.lt_succ_self _)))
     |(go_at_call 72;refine(c72 _ _ _ _ ((hO8 _).rdS hOl)).mono ?_;rintro e w'⟨rfl,rfl⟩))
    go_meet
    refine⟨.slice none 0 0,(((hB6.set_ 4 _).set_ 8 _).set_ 4 _).to ?_,?_,?_,?_,?_⟩
    ·rw[E1.out];simp
    ·exact zH ((((HO2'.out.below hb6).setNe (Nat.lt_succ_self _)).setNe (Nat.lt_succ_self _)).setNe (Nat.lt_succ_self _))
    ·rw[E1.out];exact Own.nil _ _ _
    ·exact zH (belowB_set (belowB_set (belowB_set (hbe2.trans (hb6.mono (by omega))) (zR _) (by have:=hb6.size;omega)) (zR _) (by rw[World.size_setCell];have:=hb6.size;omega)) (zR _) (by rw[World.size_setCell,World.size_setCell];have:=hb6.size;omega))
    rw[World.size_setCell,World.size_setCell,World.size_setCell];have:=hb6.size;omega
   |false =>
    have E1:=zH (show servOf ts=some (listOf (valOf [115] ts))by unfold servOf;rw[if_pos hH,if_neg (by rw[hA];decide)]);go_wp2_with (first
     |(go_at_call 71;refine(c71p _ _ hvl115).mono ?_;rintro e w6⟨svv,rfl,hO6,hb6⟩
       have hO7:=(hO6.mono (show gx+1<=W2.heap.size by omega));have hs6:=hO6.slice;rw[List.length_map]at hs6;obtain⟨A6,c6,rfl,_,_⟩:=hs6;have hB6:=HB2'.out.below hb6 hsz2;have s4:w6.cell? ⟨gx,4,none⟩=some (.slice none 0 0):=hB6.cell 4;have sf4:=hB6.frozen 4;have hO8:=fun u=>hO7.grown (grown_set w6 gx 4 u) (hO7.off (Nat.lt_succ_self _)))
     |(go_at_call 72;refine(c72 _ _ _ _ ((hO8 _).rdS hOl)).mono ?_;rintro e w'⟨rfl,rfl⟩))
    go_meet
    refine⟨.slice A6 (listOf (valOf [115] ts)).length c6,(hB6.set_ 4 (.slice A6 (listOf (valOf [115] ts)).length c6)).to ?_,?_,?_,?_,?_⟩
    ·rw[hH,E1.out];simp
    ·exact zH ((HO2'.out.below hb6).setNe (Nat.lt_succ_self _))
    ·rw[E1.out];exact zH (hO8 _)
    ·exact zH (belowB_set (hbe2.trans (hb6.mono (by omega))) (zR _) (by have:=hb6.size;omega))
    rw[World.size_setCell];have:=hb6.size;omega
  |false =>
   have E1:=zH (show servOf ts=none by unfold servOf;rw[if_neg (by rw[hH];decide)]);go_wp2
   go_meet
   refine⟨.slice none 0 0,HB2'.out.to ?_,HO2'.out,?_,hbe2,hsz2⟩
   ·rw[hH,E1.out];rfl
   rw[E1.out];exact Own.nil _ _ _
 case rest =>
 clear HB2' HO2' hbe2 hsz2 HBk HO hBe hsz hvC;obtain⟨svv,HBk,HO,HS,hBe,hsz⟩:=hcut;have hvC:=hkeep wc hBe.out
 go_upto_if 143 with(go_at_call 33;refine(c33 _ ts _ _ hvC).mono ?_;rintro e w'⟨rfl,rfl⟩)
 go_cut [20] (fun _ wx=>∃Af nf cf,∃fv,Hid (fv=Value.slice Af nf cf)/\Hid (Blk wx gx #[.string (B K),bv,.int .i64 (8*((B bb).size:Int)),hvv,svv,fv,.string ⟨#[]⟩,.bool (hashOf ts).isNone,.bool (servOf ts).isNone] 129)/\Hid (Own wx (gx+1) 9 hvv (((hashOf ts).getD []).map strV))/\Hid (Own wx (gx+1) 9 svv (((servOf ts).getD []).map strV))/\Hid (Below gx WS wx)/\gx < wx.heap.size)
 case first =>
  cases hH:hasTag [116] ts with
  |true =>
   go_wp2_with (go_at_call 71;refine(c71p _ _ hvl116).mono ?_;rintro e w6⟨fvv,rfl,hO6,hb6⟩;have hs6:=hO6.slice;rw[List.length_map]at hs6;obtain⟨A6,c6,rfl,_,_⟩:=hs6;have hB6:=HBk.out.below hb6 hsz;have s5:w6.cell? ⟨gx,5,none⟩=some (.slice none 0 0):=hB6.cell 5;have sf5:=hB6.frozen 5)
   go_meet
   refine⟨A6,(listOf (valOf [116] ts)).length,c6,.slice A6 (listOf (valOf [116] ts)).length c6,rfl,(hB6.set_ 5 (.slice A6 (listOf (valOf [116] ts)).length c6)).to ?_,?_,?_,?_,?_⟩
   ·simp
   ·exact zH ((HO.out.below hb6).setNe (Nat.lt_succ_self _))
   ·exact zH ((HS.out.below hb6).setNe (Nat.lt_succ_self _))
   ·exact zH (belowB_set (hBe.out.trans (hb6.mono (by omega))) (zR _) (by have:=hb6.size;omega))
   rw[World.size_setCell];have:=hb6.size;omega
  |false =>
   go_wp2
   go_meet
   exact⟨none,0,0,_,rfl,HBk.out,HO.out,HS.out,hBe.out,hsz⟩
 case rest =>
 clear hvC HBk HO HS hBe hsz;obtain⟨Af,nf,cf,fv,Hfv,HBk,HO,HS,hBe,hsz⟩:=hcut;obtain rfl:=Hfv.out;obtain⟨Ah,ch,rfl,_,_⟩:=HO.out.slice;obtain⟨As,cs,rfl,_,_⟩:=HS.out.slice;obtain⟨Ab,cb,rfl,_,_⟩:=id hRB;have hvC:=hkeep wc hBe.out;have s6:wc.cell? ⟨gx,6,none⟩=some (.string ⟨#[]⟩):=HBk.out.cell 6;have sf6:=HBk.out.frozen 6;go_upto_region 28 with(go_at_call 33;refine(c33 _ ts _ _ hvC).mono ?_;rintro e w'⟨rfl,rfl⟩)
 clear s6 sf6;have hB5:=HBk.out.set_ 6 (.string (B (valOf [110] ts)));have hB6:Blk (wc.setCell ⟨gx,6,none⟩ (.string (B (valOf [110] ts)))) gx #[.string (B K),(.slice Ab bb.length cb),.int .i64 (8*((B bb).size:Int)),(.slice Ah (((hashOf ts).getD []).map strV).length ch),(.slice As (((servOf ts).getD []).map strV).length cs),(.slice Af nf cf),.string (B (valOf [110] ts)),.bool (hashOf ts).isNone,.bool (servOf ts).isNone] 129:=hB5.to (by simp);have hO6:=HO.out.setNe (k:=6) (u:=.string (B (valOf [110] ts))) (Nat.lt_succ_self gx);have hS6:=HS.out.setNe (k:=6) (u:=.string (B (valOf [110] ts))) (Nat.lt_succ_self gx);have hbe6:=belowB_set (k:=6) (u:=.string (B (valOf [110] ts))) hBe.out (zR _) (by omega);obtain⟨W6,hW6⟩:∃W,W=wc.setCell ⟨gx,6,none⟩ (.string (B (valOf [110] ts))):=⟨_,rfl⟩;rw[<-hW6]at hB6 hO6 hS6 hbe6 ⊢;clear hW6 hB5;have hr6:=hkeepR W6 hbe6;have hBB6:=hfin W6 hbe6;have hRB6:=hRBk W6 hbe6;have hO6':=zH hO6;have hS6':=zH hS6;clear hO6 hS6;have d0:W6.cell? ⟨gx,0,none⟩=some (.string (B K)):=hB6.cell 0;have df0:=hB6.frozen 0;have d1:W6.cell? ⟨gx,1,none⟩=some (.slice Ab bb.length cb):=hB6.cell 1;have df1:=hB6.frozen 1;have d2:W6.cell? ⟨gx,2,none⟩=some (.int .i64 (8*((B bb).size:Int))):=hB6.cell 2;have df2:=hB6.frozen 2;have d3:W6.cell? ⟨gx,3,none⟩=some ((.slice Ah (((hashOf ts).getD []).map strV).length ch)):=hB6.cell 3;have df3:=hB6.frozen 3;have d4:W6.cell? ⟨gx,4,none⟩=some ((.slice As (((servOf ts).getD []).map strV).length cs)):=hB6.cell 4;have df4:=hB6.frozen 4;have d5:W6.cell? ⟨gx,5,none⟩=some (.slice Af nf cf):=hB6.cell 5;have df5:=hB6.frozen 5;have d6:W6.cell? ⟨gx,6,none⟩=some (.string (B (valOf [110] ts))):=hB6.cell 6;have df6:=hB6.frozen 6;have d7:W6.cell? ⟨gx,7,none⟩=some (.bool (hashOf ts).isNone):=hB6.cell 7;have df7:=hB6.frozen 7;have d8:W6.cell? ⟨gx,8,none⟩=some (.bool (servOf ts).isNone):=hB6.cell 8;have df8:=hB6.frozen 8;have c0:W6.cell? ⟨w.heap.size,0,none⟩=some (.string ⟨#[]⟩):=hr6.cell 0;have cf0:=hr6.frozen 0;have c1:W6.cell? ⟨w.heap.size,1,none⟩=some (.slice none 0 0):=hr6.cell 1;have cf1:=hr6.frozen 1;have c2:W6.cell? ⟨w.heap.size,2,none⟩=some (.int .i64 0):=hr6.cell 2;have cf2:=hr6.frozen 2;have c3:W6.cell? ⟨w.heap.size,3,none⟩=some (.slice none 0 0):=hr6.cell 3;have cf3:=hr6.frozen 3;have c4:W6.cell? ⟨w.heap.size,4,none⟩=some (.slice none 0 0):=hr6.cell 4;have cf4:=hr6.frozen 4;have c5:W6.cell? ⟨w.heap.size,5,none⟩=some (.slice none 0 0):=hr6.cell 5;have cf5:=hr6.frozen 5;have c6:W6.cell? ⟨w.heap.size,6,none⟩=some (.string ⟨#[]⟩):=hr6.cell 6;have cf6:=hr6.frozen 6;have c7:W6.cell? ⟨w.heap.size,7,none⟩=some (.bool false):=hr6.cell 7;have cf7:=hr6.frozen 7;have c8:W6.cell? ⟨w.heap.size,8,none⟩=some (.bool false):=hr6.cell 8;have cf8:=hr6.frozen 8;go_wp2;have hgl2:w.heap.size < gx+1:=by omega
 have hne:∀g' o n c,Value.slice Ab bb.length cb=.slice (some ⟨g',o,none⟩) n c->g'≠w.heap.size:=fun g' o n c he=>by have:=hbvA g' o n c he;omega
 have hQO:=(((((((((hO6'.out.setNe (k:=0) (u:=.string (B K)) hgl2).setNe (k:=1) (u:=.slice Ab bb.length cb) hgl2).setNe (k:=2) (u:=.int .i64 (8*((B bb).size:Int))) hgl2).setNe (k:=3) (u:=.slice Ah ((hashOf ts).getD []).length ch) hgl2).setNe (k:=4) (u:=.slice As ((servOf ts).getD []).length cs) hgl2).setNe (k:=5) (u:=.slice Af nf cf) hgl2).setNe (k:=6) (u:=.string (B (valOf [110] ts))) hgl2).setNe (k:=7) (u:=.bool (hashOf ts).isNone) hgl2).setNe (k:=8) (u:=.bool (servOf ts).isNone) hgl2);have hQS:=(((((((((hS6'.out.setNe (k:=0) (u:=.string (B K)) hgl2).setNe (k:=1) (u:=.slice Ab bb.length cb) hgl2).setNe (k:=2) (u:=.int .i64 (8*((B bb).size:Int))) hgl2).setNe (k:=3) (u:=.slice Ah ((hashOf ts).getD []).length ch) hgl2).setNe (k:=4) (u:=.slice As ((servOf ts).getD []).length cs) hgl2).setNe (k:=5) (u:=.slice Af nf cf) hgl2).setNe (k:=6) (u:=.string (B (valOf [110] ts))) hgl2).setNe (k:=7) (u:=.bool (hashOf ts).isNone) hgl2).setNe (k:=8) (u:=.bool (servOf ts).isNone) hgl2);have hQB:=(((((((((hRB6.setNe (k:=0) (u:=.string (B K)) hne).setNe (k:=1) (u:=.slice Ab bb.length cb) hne).setNe (k:=2) (u:=.int .i64 (8*((B bb).size:Int))) hne).setNe (k:=3) (u:=.slice Ah ((hashOf ts).getD []).length ch) hne).setNe (k:=4) (u:=.slice As ((servOf ts).getD []).length cs) hne).setNe (k:=5) (u:=.slice Af nf cf) hne).setNe (k:=6) (u:=.string (B (valOf [110] ts))) hne).setNe (k:=7) (u:=.bool (hashOf ts).isNone) hne).setNe (k:=8) (u:=.bool (servOf ts).isNone) hne);rw[List.length_map]at hQO hQS;have hQR:=(((((((((hr6.set_ 0 (.string (B K))).set_ 1 (.slice Ab bb.length cb)).set_ 2 (.int .i64 (8*((B bb).size:Int)))).set_ 3 (.slice Ah ((hashOf ts).getD []).length ch)).set_ 4 (.slice As ((servOf ts).getD []).length cs)).set_ 5 (.slice Af nf cf)).set_ 6 (.string (B (valOf [110] ts)))).set_ 7 (.bool (hashOf ts).isNone)).set_ 8 (.bool (servOf ts).isNone)).to (cs':=#[.string (B K),.slice Ab bb.length cb,.int .i64 (8*((B bb).size:Int)),.slice Ah ((hashOf ts).getD []).length ch,.slice As ((servOf ts).getD []).length cs,.slice Af nf cf,.string (B (valOf [110] ts)),.bool (hashOf ts).isNone,.bool (servOf ts).isNone]) (by simp);refine bodyPost_ret (results_cell_tmp rfl _ _ _ _ (by rfl) hQR (run_loadVar_row _ _ _ _ _ _ _ hQR Tryz.underlying129 rfl (by kernel_rfl))) rfl ?_;refine⟨_,rfl,⟨_,_,_,_,_,_,_,_,rfl,hQB,(fun g o n c he=>zT (by omega) (hbvA g o n c he)),hQO.mono (by omega),hQS.mono (by omega)⟩,?_⟩;exact(below_set (below_set (below_set (below_set (below_set (below_set (below_set (below_set (below_set hBB6 (zR _)) (zR _)) (zR _)) (zR _)) (zR _)) (zR _)) (zR _)) (zR _)) (zR _))
end Go.Proofs.YtnkihlpmmfeioaaGreatDoor
