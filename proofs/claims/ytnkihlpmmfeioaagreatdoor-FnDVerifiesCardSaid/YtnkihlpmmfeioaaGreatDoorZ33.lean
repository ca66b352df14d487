/- Part of the proof that laws.FnDVerifies answers true: A53,A54 -/
import Derived.Lib.AppendIntMem
import Derived.Lib.ItoaLen
import Derived.Test.YtnkihlpmmfeioaaGreatDoorZ22
set_option linter.unusedVariables false
set_option linter.unusedSimpArgs false
set_option maxRecDepth 1000000
set_option maxHeartbeats 16000000
namespace Go.Proofs.YtnkihlpmmfeioaaGreatDoor
open Go.RowKit
def GTab(w:World):Prop:=Lib.TabIs Tryz.prog w "internal/strconv.uint64pow10" .u64 Lib.pow10Tab
theorem GTab.below{w w':World}(h:GTab w)(hb:Below w.heap.size w w'):GTab w':=by
 have hg:Tryz.prog.globalNamed "internal/strconv.uint64pow10"=some 12:=by kernel_rfl
 unfold GTab Lib.TabIs World.var? at h ⊢;rw[hg]at h ⊢;simp only[Option.bind_some]at h ⊢;have hlt:12 < w.heap.size:=by
  rcases Nat.lt_or_ge 12 w.heap.size with h'|h'
  ·exact h'
  rw[Array.getElem?_eq_none h']at h;cases h
 rw[hb.block 12 hlt];exact h
theorem c166(n:Int)(h0:0<=n)(h1:n<=9223372036854775807)(w:World)(hT:GTab w):Calls Tryz.prog 166 #[.int .i64 n] w fun e w'=>∃s,e=.returned (.string s)/\s.size<=100/\Below w.heap.size w w' :=
 (Tryz.strconv_Itoa n (by omega) h1 w hT).mono fun _ _ ⟨he,k,os,hw⟩=>⟨_,he,by have:=Lib.itoa_length_le n (by omega) h1;show(Lib.itoa n).toArray.size<=100;rw[List.size_toArray];omega,by subst hw;exact Lib.below_grow _ _ (zR _) _ _⟩
theorem pm_all{P:List UInt8->Prop}:∀(parts:List (List UInt8)) (acc T:List Pair),(∀p∈parts,P (trim (cutZ 61 p)))->(∀x∈acc,P x.2)->pmM parts acc=some T->∀x∈T,P x.2:=by
 intro parts;induction parts with
 |nil=>intro acc T _ ha h;simp[pmM]at h;subst h;exact ha
 |cons p l ih =>
  intro acc T hp ha h;rw[pmM]at h;split at h
  ·split at h
   ·cases h
   exact ih _ T (fun q hq=>hp q (by simp[hq])) (fun x hx=>by rcases List.mem_cons.1 hx with rfl|hx;exact hp p (by simp);exact ha x hx) h
  split at h
  ·exact ih _ T (fun q hq=>hp q (by simp[hq])) ha h
  cases h
theorem valOf_all{P:List UInt8->Prop}(h0:P []){T:List Pair}(h:∀x∈T,P x.2)(t:List UInt8):P (valOf t T):=by
 induction T with
 |nil=>exact h0
 |cons x l ih=>rw[valOf];split;exact h x (by simp);exact ih fun y hy=>h y (by simp[hy])
theorem pm_vals{l:List UInt8}{T:List Pair}{n:Nat}(h:pmM (split 59 l) []=some T)(hl:l.length<=n)(hp:plainL l)(t:List UInt8):(valOf t T).length<=n/\plainL (valOf t T):=by
 refine valOf_all (P:=fun v=>v.length<=n/\plainL v) ⟨by simp,fun c hc=>by cases hc⟩ (pm_all (P:=fun v=>v.length<=n/\plainL v) _ _ _ (fun p hq=>⟨?_,?_⟩) (by simp) h) t
 ·have h1:=trim_le (cutZ 61 p);have h2:=cutZ_le 61 p;have h3:=split_allLe 59 l p hq;omega
 exact plain_trim (plain_cutZ (plain_split' hp p hq))
theorem keyM_v{T:List Pair}(h1:hasTag [118] T=true)(h2:valOf [118] T≠dkim1L):keyM T=none:=by unfold keyM;rw[if_pos ⟨h1,h2⟩]
theorem keyM_else{T:List Pair}(h:∀b,unb64 (bare (valOf [112] T))=some b->¬(hasTag [112] T=true/\valOf [112] T≠[]/\(kindOf T=rsaL\/kindOf T=edL)/\badKey (kindOf T) b=false)):keyM T=none:=by
 unfold keyM;split
 ·rfl
 split
 ·rfl
 rename_i b hb;rw[if_neg (h b hb)]
theorem keyM_ok{T:List Pair}{b:List UInt8}(h0:¬(hasTag [118] T=true/\valOf [118] T≠dkim1L))(h1:unb64 (bare (valOf [112] T))=some b)(h2:hasTag [112] T=true)(h3:valOf [112] T≠[])(h4:kindOf T=rsaL\/kindOf T=edL)(h5:badKey (kindOf T) b=false) :
  keyM T=some { kind:=kindOf T,bytes:=b,hashes:=hashOf T,services:=servOf T }:=by
 unfold keyM;rw[if_neg h0,h1];simp only;rw[if_pos ⟨h2,h3,h4,h5⟩]
theorem valOf_none{t:List UInt8}{T:List Pair}(h:hasTag t T=false):valOf t T=[]:=by
 induction T with
 |nil=>rfl
 |cons x l ih =>
  rw[hasTag]at h;rw[valOf];split at h
  ·cases h
  rename_i hx;rw[if_neg hx];exact ih h
theorem kindOf_val(T:List Pair):kindOf T=if valOf [107] T=[]then rsaL else valOf [107] T:=by
 unfold kindOf;cases h:hasTag [107] T with
 |true=>rfl
 |false=>rw[valOf_none h];rfl
theorem bits_rsa(l:List UInt8):badKey rsaL l=decide (8*l.length < 1024):=by
 unfold badKey;rw[show(decide (rsaL=rsaL))=true from by decide,show(decide (rsaL=edL))=false from by decide];simp
theorem bits_ed(l:List UInt8):badKey edL l=!decide (l.length=32):=by
 unfold badKey;rw[show(decide (edL=rsaL))=false from by decide,show(decide (edL=edL))=true from by decide];simp
theorem c41r(A:Option Addr)(n c:Nat)(k:ByteArray)(w:World)(hk:k.data.toList=rsaL)(hn:n<=1152921504606846975):Calls Tryz.prog 41 #[.string k,.slice A n c] w fun e w' =>
  e=.returned (.tuple #[.iface 82 (.agg #[.string k,.slice A n c]),.int .i64 (8*(n:Int)),.nilIface])/\w=w':=by
 have:=c41 k A n c w hn;rw[if_neg (by rw[hk];decide)]at this;exact this
theorem c41e(A:Option Addr)(n c:Nat)(k:ByteArray)(w:World)(hk:k.data.toList=edL)(hn:n<=1152921504606846975):Calls Tryz.prog 41 #[.string k,.slice A n c] w fun e w' =>
  e=.returned (.tuple #[.iface 82 (.agg #[.string k,.slice A n c]),.int .i64 256,.nilIface])/\w=w':=by
 have:=c41 k A n c w hn;rw[if_pos hk]at this;exact this
theorem c89p(l:List UInt8)(w:World)(hs:(B l).size<=268435456)(hp:plainL l) :
  Calls Tryz.prog 89 #[.string (B l)] w fun e w'=>∃v,e=.returned v/\Own w' w.heap.size 9 v ((listOf l).map strV)/\Below w.heap.size w w':=c89 (B l) w hs hp
def OptAt(w:World)(base:Nat)(v:Value):Option (List (List UInt8))->Prop
 |none=>v=.slice none 0 0
 |some xs=>xs≠[]/\Own w base 9 v (xs.map strV)
theorem OptAt.mono{w:World}{base base':Nat}{v:Value}{o:Option (List (List UInt8))}(h:OptAt w base v o)(hb:base'<=base):OptAt w base' v o:=by
 cases o with
 |none=>exact h
 |some xs=>exact⟨h.1,h.2.mono hb⟩
theorem OptAt.below{w w':World}{base:Nat}{v:Value}{o:Option (List (List UInt8))}(h:OptAt w base v o)(hb:Below w.heap.size w w'):OptAt w' base v o:=by
 cases o with
 |none=>exact h
 |some xs=>exact⟨h.1,h.2.below hb⟩
theorem OptAt.setNe{w:World}{base g k:Nat}{u:Value}{v:Value}{o:Option (List (List UInt8))}(h:OptAt w base v o)(hg:g < base):OptAt (w.setCell ⟨g,k,none⟩ u) base v o:=by
 cases o with
 |none=>exact h
 |some xs=>exact⟨h.1,h.2.setNe hg⟩
theorem OptAt.slice{w:World}{base:Nat}{v:Value}{o:Option (List (List UInt8))}(h:OptAt w base v o):∃A n c,v=.slice A n c:=by
 cases o with
 |none=>exact⟨_,_,_,h⟩
 |some xs=>obtain⟨A,c,rfl,_⟩:=h.2.slice;exact⟨_,_,_,rfl⟩
def ResAt(w:World)(base:Nat)(v:Value)(K:Key):Prop :=
 ∃gq bv hv nt sv fv,v=.pointer (some ⟨gq,0,none⟩)/\base<=gq/\Blk w gq #[.iface 82 (.agg #[.string (B K.kind),bv]),.string (B K.kind),hv,.string nt,sv,fv] 170/\OwnB w base bv K.bytes/\OptAt w base hv K.hashes/\OptAt w base sv K.services
def QAt(w:World)(base:Nat)(v err:Value):Option Key->Prop
 |none=>v=.pointer none/\∃m,err=.iface 158 (.string m)
 |some K=>err=.nilIface/\ResAt w base v K
theorem c165q(l:List UInt8)(d e:ByteArray)(hd:d=B [32])(he:e=B [])(w:World)(hs:(B l).size<=1073741824) :
  Calls Tryz.prog 165 #[.string (B l),.string d,.string e] w fun e w'=>e=.returned (.string (B (rmB 32 l)))/\Below w.heap.size w w':=by subst hd he;exact c165 (B l) 32 w hs
theorem rmB_le(c:Int)(l:List UInt8):(rmB c l).length<=l.length:=by
 induction l with
 |nil=>simp[rmB]
 |cons x l ih=>rw[rmB];split <;> simp <;> omega
theorem QAt.bad{w:World}{base:Nat}{m:ByteArray}:QAt w base (.pointer none) (.iface 158 (.string m)) none:=⟨rfl,m,rfl⟩
theorem c148(s:ByteArray)(w:World)(hs:s.size<=268435456)(hp:plainL s.data.toList)(hT:GTab w) :
  Calls Tryz.prog 148 #[.string s,.func (.func 41) #[] #[]] w fun e w'=>∃v err,e=.returned (.tuple #[v,err])/\QAt w' w.heap.size v err (readM s.data.toList)/\Below w.heap.size w w':=by
 obtain⟨R,hR⟩:∃R,Hid (pmM (split 59 s.data.toList) []=R):=⟨_,rfl⟩;rw[readM_pm,hR.out];have HP:=zH hp;have HT:=zH hT;have hvals:Hid (∀T,R=some T->∀t,(valOf t T).length<=268435456/\plainL (valOf t T)):=fun T hRT t=>pm_vals (hR.out.trans hRT) (by rw[size_L];exact hs) HP.out t
 clear hp hT;have hmE:=mErr;go_enter Tryz.func148,Tryz.ntmps148;go_upto_region 2 with(go_at_call 97;refine(c97 s _ hs HP.out).mono ?_;rintro e w1⟨v1,err1,rfl,hP1,hb1⟩;rw[hR.out]at hP1)
 cases R with
 |none =>
  obtain⟨m,⟨g,rfl,hc⟩,hm⟩:=hP1;go_wp2_with (go_at_call 270;refine(c270 _ m _ hc).mono ?_;rintro e w2⟨rfl,rfl⟩);go_ret2
  exact⟨_,_,rfl,QAt.bad,hb1⟩
 |some T =>
  obtain⟨rfl,b,n,rfl,hbb,hM⟩:=hP1;have hvl:Hid (∀t,(B (valOf t T)).size<=268435456):=fun t=>(hvals.out T rfl t).1
  have hvp:Hid (∀t,plainL (valOf t T)):=fun t=>(hvals.out T rfl t).2
  clear hvals;have hM1:=hM.below ((zB w1.heap.size w1).alloc (zR _) (.cells #[.nilIface,.string ⟨#[]⟩,.slice none 0 0,.string ⟨#[]⟩,.slice none 0 0,.slice none 0 0] 170));have hq1:Blk (w1.alloc (.cells #[.nilIface,.string ⟨#[]⟩,.slice none 0 0,.string ⟨#[]⟩,.slice none 0 0,.slice none 0 0] 170)) w1.heap.size #[.nilIface,.string ⟨#[]⟩,.slice none 0 0,.string ⟨#[]⟩,.slice none 0 0,.slice none 0 0] 170:=Blk.new w1 _ _;have hb2:Below w.heap.size w (w1.alloc (.cells #[.nilIface,.string ⟨#[]⟩,.slice none 0 0,.string ⟨#[]⟩,.slice none 0 0,.slice none 0 0] 170)):=hb1.alloc hb1.size _;have hbq:b < w1.heap.size:=hM.lt;have hwq:w.heap.size<=w1.heap.size:=hb1.size;clear hM;have k118:(Instr.lookup 155 (.map (some b)) (.string ⟨#[118]⟩) true).run Tryz.prog (w1.alloc (.cells #[.nilIface,.string ⟨#[]⟩,.slice none 0 0,.string ⟨#[]⟩,.slice none 0 0,.slice none 0 0] 170))=.ok (.tuple #[.string (B (valOf [118] T)),.bool (hasTag [118] T)]) _:=hM1.look_ok ⟨#[118]⟩ (by decide);have k112:(Instr.lookup 155 (.map (some b)) (.string ⟨#[112]⟩) true).run Tryz.prog (w1.alloc (.cells #[.nilIface,.string ⟨#[]⟩,.slice none 0 0,.string ⟨#[]⟩,.slice none 0 0,.slice none 0 0] 170))=.ok (.tuple #[.string (B (valOf [112] T)),.bool (hasTag [112] T)]) _:=hM1.look_ok ⟨#[112]⟩ (by decide);have HM1:=zH hM1;have HQ1:=zH hq1;have HB2:=zH hb2;clear hM1 hq1 hb2;go_upto_region 6 with fail
  generalize w1.alloc (.cells #[.nilIface,.string ⟨#[]⟩,.slice none 0 0,.string ⟨#[]⟩,.slice none 0 0,.slice none 0 0] 170)=W1 at *
  generalize w1.heap.size=gq at *
  clear hb1
  go_cut [9,10,53] (fun _ _ c wx=>c=.bool (decide (hasTag [118] T=true/\valOf [118] T≠dkim1L))/\wx=W1)
  case first =>
   cases hH:hasTag [118] T with
   |true =>
    by_cases hD:valOf [118] T=dkim1L
    ·have E1:=zH (show decide (hasTag [118] T=true/\valOf [118] T≠dkim1L)=false by simp[hD])
     have hb9:((B (valOf [118] T)).toList == [68,75,73,77,49])=true:=by rw[toList_B,hD];rfl
     clear hD;go_wp2
     go_meet
     exact⟨congrArg Value.bool E1.out.symm,rfl⟩
    have E1:=zH (show decide (hasTag [118] T=true/\valOf [118] T≠dkim1L)=true by simp[hD,hH]);have hb9:((B (valOf [118] T)).toList == [68,75,73,77,49])=false:=by rw[toList_B];exact zF hD
    clear hD;go_wp2
    go_meet
    exact⟨congrArg Value.bool E1.out.symm,rfl⟩
   |false =>
    have E1:=zH (show decide (hasTag [118] T=true/\valOf [118] T≠dkim1L)=false by simp[hH]);go_wp2
    go_meet
    exact⟨congrArg Value.bool E1.out.symm,rfl⟩
  case rest =>
  obtain⟨rfl,rfl⟩:=hcut;by_cases hB1:hasTag [118] T=true/\valOf [118] T≠dkim1L
  ·have e1:=decide_eq_true hB1
   have hK:Hid (keyM T=none):=keyM_v hB1.1 hB1.2;rw[e1];clear hB1 hvl hvp e1;go_wp2;go_ret2
   exact⟨_,_,rfl,by rw[show(some T).bind keyM=keyM T from rfl,hK.out];exact QAt.bad,HB2.out⟩
  have e1:=decide_eq_false hB1;rw[e1];have HB1:=zH hB1;clear hB1 e1
  go_upto_if 61 with fail
  cases h112:hasTag [112] T with
  |false =>
   have hK:Hid (keyM T=none):=keyM_else (fun _ _ h=>by rw[h112]at h;exact absurd h.1 (by simp));clear h112 hvl hvp;go_wp2;go_ret2
   exact⟨_,_,rfl,by rw[show(some T).bind keyM=keyM T from rfl,hK.out];exact QAt.bad,HB2.out⟩
  |true =>
  have H112:=zH h112;clear h112 k118 k112;by_cases hp0:valOf [112] T=[]
  ·have hK:Hid (keyM T=none):=keyM_else (fun _ _ h=>absurd hp0 h.2.1)
   have hb9:(B (valOf [112] T)).toList.isEmpty=true:=by rw[toList_B,hp0];rfl
   clear hp0 hvl hvp;go_wp2;go_ret2
   exact⟨_,_,rfl,by rw[show(some T).bind keyM=keyM T from rfl,hK.out];exact QAt.bad,HB2.out⟩
  have hb9:(B (valOf [112] T)).toList.isEmpty=false:=by rw[toList_B,List.isEmpty_eq_false_iff];exact hp0
  have HP0:=zH hp0;have hl112:=hvl.out [112];have hlr:(B (rmB 32 (valOf [112] T))).size<=1073741824:=by have:=rmB_le 32 (valOf [112] T);rw[size_B]at *;omega
  obtain⟨U,hU⟩:∃U,Hid (unb64 (bare (valOf [112] T))=U):=⟨_,rfl⟩;clear hp0;go_upto_region 15 with(first
   |(go_at_call 165;refine(c165q _ _ _ rfl rfl _ (by omega)).mono ?_;rintro e w2⟨rfl,hb3⟩)
   |(go_at_call 138;refine(c138p _ _ hlr).mono ?_;rintro e w4⟨bv,er,rfl,hD,hb4⟩;rw[noCR_rm,hU.out]at hD;have hb5:=bthen hb3 hb4;have hb6:=bthen HB2.out hb5;have hM4:=HM1.out.below hb5;have hq4:=HQ1.out.below hb5 HQ1.out.lt;have hbLE:=hb4.size;have hb4w:=(bthen HB2.out hb3).size;have hgb:gq < w2.heap.size:=zL HQ1.out.lt hb3.size))
  have HM4:=zH hM4;have HQ4:=zH hq4;have HB6:=zH hb6;clear hM4 hq4 hb6 HM1 HQ1 HB2 hb3 hb4 hb5 hb9;cases U with
  |none =>
   obtain⟨m,⟨ge,rfl,hc⟩,hm⟩:=hD;have hK:Hid (keyM T=none):=keyM_else (fun b' hb'=>by rw[hU.out]at hb';cases hb');go_wp2_with (go_at_call 270;refine(c270 _ m _ hc).mono ?_;rintro e w5⟨rfl,rfl⟩);go_ret2
   exact⟨_,_,rfl,by rw[show(some T).bind keyM=keyM T from rfl,hK.out];exact QAt.bad,HB6.out⟩
  |some bb =>
  obtain⟨rfl,hOB⟩:=hD;obtain⟨A2,c2,rfl,_⟩:=hOB.slice;have hbbl:bb.length<=1152921504606846975:=by have h1:=unb64_le (bare (valOf [112] T));have h2:=bare_le (valOf [112] T);rw[hU.out]at h1;rw[size_B]at hl112;simp at h1;omega
  have k107:(Instr.lookup 155 (.map (some b)) (.string ⟨#[107]⟩) false).run Tryz.prog w4=.ok (.string (B (valOf [107] T))) _:=HM4.out.look ⟨#[107]⟩ (by decide);obtain⟨b4,hb4⟩:∃b4,Hid (w2.heap.size=b4):=⟨_,rfl⟩;have hBLE:w2.heap.size<=w4.heap.size:=hbLE;rw[hb4.out]at hOB hgb hBLE hb4w;have HOB:=zH hOB;clear hOB hb4
  go_upto_block 0 with fail
  go_cut [14] (fun _ wx=>Hid (Blk wx gq #[.iface 82 (.agg #[.string (B (kindOf T)),.slice A2 bb.length c2]),.string (B (kindOf T)),.slice none 0 0,.string ⟨#[]⟩,.slice none 0 0,.slice none 0 0] 170)/\Hid (OwnM wx b n T)/\Hid (OwnB wx b4 (.slice A2 bb.length c2) bb)/\Hid (Below w.heap.size w wx)/\Hid ((kindOf T=rsaL\/kindOf T=edL)/\badKey (kindOf T) bb=false)/\w4.heap.size<=wx.heap.size)
  case first =>
   have hkv:=kindOf_val T;by_cases hA:valOf [107] T=rsaL
   ·have t1:((B (valOf [107] T)).toList == [114,115,97])=true:=by rw[toList_B,hA];rfl
    have hkd:Hid (kindOf T=rsaL):=by unfold Hid;rw[hkv,hA];rfl
    clear hA hkv;by_cases hsh:8*bb.length < 1024
    ·have hK:Hid (keyM T=none):=keyM_else (fun b' hb' h=>by rw[hU.out]at hb';injection hb' with hb';subst hb';rw[hkd.out,bits_rsa]at h;simp[hsh]at h)
     have hI:8*(bb.length:Int) < 1024:=by omega
     have hI0:0<=8*(bb.length:Int):=by omega
     clear hsh;go_wp2_with (first
      |(go_at_call 41;refine(c41r A2 bb.length c2 _ _ rfl hbbl).mono ?_;rintro e w5⟨rfl,rfl⟩)
      |(go_at_call 166;refine(c166 _ hI0 (by omega) _ (HT.out.below HB6.out)).mono ?_;rintro e w6⟨si,rfl,_,hb7⟩;have hb8:=bthen HB6.out hb7))
     go_ret2
     exact⟨_,_,rfl,by rw[show(some T).bind keyM=keyM T from rfl,hK.out];exact QAt.bad,hb8⟩
    have hI:¬8*(bb.length:Int) < 1024:=by omega
    have hbk:Hid (badKey (kindOf T) bb=false):=by unfold Hid;rw[hkd.out,bits_rsa];exact decide_eq_false hsh
    clear hsh;have z0:=HQ4.out.cell 0;have z1:=HQ4.out.cell 1;have f0:=HQ4.out.frozen 0;have f1:=HQ4.out.frozen 1;go_wp2_with (go_at_call 41;refine(c41r A2 bb.length c2 _ _ rfl hbbl).mono ?_;rintro e w5⟨rfl,rfl⟩)
    go_meet
    have h1:=HQ4.out.set_ 0 (.iface 82 (.agg #[.string (B rsaL),.slice A2 bb.length c2]));have h2:=h1.set_ 1 (.string (B rsaL));refine⟨?_,?_,?_,?_,?_,by simp[World.size_setCell]⟩
    ·rw[hkd.out];exact h2.to (by simp)
    ·exact(HM4.out.grown (grown_set _ gq 0 _) (by simp;omega)).grown (grown_set _ gq 1 _) (by simp;omega)
    ·exact(HOB.out.setNe hgb).setNe hgb
    ·exact below_set (below_set HB6.out hwq) hwq
    exact⟨.inl hkd.out,hbk.out⟩
   have t1:((B (valOf [107] T)).toList == [114,115,97])=false:=by rw[toList_B];exact zF hA
   by_cases hE:valOf [107] T=[]
   ·have t2:(B (valOf [107] T)).toList.isEmpty=true:=by rw[toList_B,hE];rfl
    have hkd:Hid (kindOf T=rsaL):=by unfold Hid;rw[hkv,if_pos hE]
    clear hA hE hkv;by_cases hsh:8*bb.length < 1024
    ·have hK:Hid (keyM T=none):=keyM_else (fun b' hb' h=>by rw[hU.out]at hb';injection hb' with hb';subst hb';rw[hkd.out,bits_rsa]at h;simp[hsh]at h)
     have hI:8*(bb.length:Int) < 1024:=by omega
     have hI0:0<=8*(bb.length:Int):=by omega
     clear hsh;go_wp2_with (first
      |(go_at_call 41;refine(c41r A2 bb.length c2 _ _ rfl hbbl).mono ?_;rintro e w5⟨rfl,rfl⟩)
      |(go_at_call 166;refine(c166 _ hI0 (by omega) _ (HT.out.below HB6.out)).mono ?_;rintro e w6⟨si,rfl,_,hb7⟩;have hb8:=bthen HB6.out hb7))
     go_ret2
     exact⟨_,_,rfl,by rw[show(some T).bind keyM=keyM T from rfl,hK.out];exact QAt.bad,hb8⟩
    have hI:¬8*(bb.length:Int) < 1024:=by omega
    have hbk:Hid (badKey (kindOf T) bb=false):=by unfold Hid;rw[hkd.out,bits_rsa];exact decide_eq_false hsh
    clear hsh;have z0:=HQ4.out.cell 0;have z1:=HQ4.out.cell 1;have f0:=HQ4.out.frozen 0;have f1:=HQ4.out.frozen 1;go_wp2_with (go_at_call 41;refine(c41r A2 bb.length c2 _ _ rfl hbbl).mono ?_;rintro e w5⟨rfl,rfl⟩)
    go_meet
    have h1:=HQ4.out.set_ 0 (.iface 82 (.agg #[.string (B rsaL),.slice A2 bb.length c2]));have h2:=h1.set_ 1 (.string (B rsaL));refine⟨?_,?_,?_,?_,?_,by simp[World.size_setCell]⟩
    ·rw[hkd.out];exact h2.to (by simp)
    ·exact(HM4.out.grown (grown_set _ gq 0 _) (by simp;omega)).grown (grown_set _ gq 1 _) (by simp;omega)
    ·exact(HOB.out.setNe hgb).setNe hgb
    ·exact below_set (below_set HB6.out hwq) hwq
    exact⟨.inl hkd.out,hbk.out⟩
   have t2:(B (valOf [107] T)).toList.isEmpty=false:=by rw[toList_B,List.isEmpty_eq_false_iff];exact hE
   rw[if_neg hE]at hkv;by_cases hD:valOf [107] T=edL
   ·have t3:((B (valOf [107] T)).toList == [101,100,50,53,53,49,57])=true:=by rw[toList_B,hD];rfl
    have hkd:Hid (kindOf T=edL):=by unfold Hid;rw[hkv,hD]
    clear hA hE hkv hD;by_cases hsh:bb.length=32
    ·have hI:((bb.length:Int) != 32)=false:=zQ (by omega)
     have hbk:Hid (badKey (kindOf T) bb=false):=by unfold Hid;rw[hkd.out,bits_ed,decide_eq_true hsh];rfl
     clear hsh;have z0:=HQ4.out.cell 0;have z1:=HQ4.out.cell 1;have f0:=HQ4.out.frozen 0;have f1:=HQ4.out.frozen 1;go_wp2_with (go_at_call 41;refine(c41e A2 bb.length c2 _ _ rfl hbbl).mono ?_;rintro e w5⟨rfl,rfl⟩)
     go_meet
     have h1:=HQ4.out.set_ 0 (.iface 82 (.agg #[.string (B edL),.slice A2 bb.length c2]));have h2:=h1.set_ 1 (.string (B edL));refine⟨?_,?_,?_,?_,?_,by simp[World.size_setCell]⟩
     ·rw[hkd.out];exact h2.to (by simp)
     ·exact(HM4.out.grown (grown_set _ gq 0 _) (by simp;omega)).grown (grown_set _ gq 1 _) (by simp;omega)
     ·exact(HOB.out.setNe hgb).setNe hgb
     ·exact below_set (below_set HB6.out hwq) hwq
     exact⟨.inr hkd.out,hbk.out⟩
    have hK:Hid (keyM T=none):=keyM_else (fun b' hb' h=>by rw[hU.out]at hb';injection hb' with hb';subst hb';rw[hkd.out,bits_ed]at h;simp[hsh]at h);have hI:((bb.length:Int) != 32)=true:=zN (by omega);have hI0:0<=(bb.length:Int):=by omega
    clear hsh;go_wp2_with (go_at_call 166;refine(c166 _ hI0 (by omega) _ (HT.out.below HB6.out)).mono ?_;rintro e w6⟨si,rfl,_,hb7⟩;have hb8:=bthen HB6.out hb7);go_ret2
    exact⟨_,_,rfl,by rw[show(some T).bind keyM=keyM T from rfl,hK.out];exact QAt.bad,hb8⟩
   have t3:((B (valOf [107] T)).toList == [101,100,50,53,53,49,57])=false:=by rw[toList_B];exact zF hD
   have hK:Hid (keyM T=none):=keyM_else (fun b' hb' h=>by rw[hkv]at h;rcases h.2.2.1 with h|h;exact hA h;exact hD h);clear hA hE hD hkv;go_wp2;go_ret2
   exact⟨_,_,rfl,by rw[show(some T).bind keyM=keyM T from rfl,hK.out];exact QAt.bad,HB6.out⟩
  case rest =>
  obtain⟨hqA,hMA,hOA,hBA,hKA,hSA⟩:=hcut;clear HQ4 HM4 HOB HB6 k107;have hKok:Hid (keyM T=some { kind:=kindOf T,bytes:=bb,hashes:=hashOf T,services:=servOf T }):=keyM_ok HB1.out hU.out H112.out HP0.out hKA.out.1 hKA.out.2;have hgA:gq < wc.heap.size:=hqA.out.lt;have hbA:b4<=wc.heap.size:=zT hBLE hSA
  -- h
  have k104:(Instr.lookup 155 (.map (some b)) (.string ⟨#[104]⟩) true).run Tryz.prog wc=.ok (.tuple #[.string (B (valOf [104] T)),.bool (hasTag [104] T)]) _:=hMA.out.look_ok ⟨#[104]⟩ (by decide)
  go_upto_if 148 with fail
  clear k104
  go_cut [21] (fun _ wx=>∃hv,Hid (Blk wx gq #[.iface 82 (.agg #[.string (B (kindOf T)),.slice A2 bb.length c2]),.string (B (kindOf T)),hv,.string ⟨#[]⟩,.slice none 0 0,.slice none 0 0] 170)/\Hid (OptAt wx b4 hv (hashOf T))/\Hid (OwnM wx b n T)/\Hid (OwnB wx b4 (.slice A2 bb.length c2) bb)/\Hid (Below w.heap.size w wx)/\b4<=wx.heap.size)
  case first =>
   cases hh:hasTag [104] T with
   |false =>
    have hho:Hid (hashOf T=none):=by unfold Hid hashOf;rw[hh];rfl
    clear hh;go_wp2
    go_meet
    exact⟨_,hqA,by unfold Hid;rw[hho.out];rfl,hMA,hOA,hBA,hbA⟩
   |true =>
    have hho:Hid (hashOf T=some (listOf (valOf [104] T))):=by unfold Hid hashOf;rw[hh];rfl
    clear hh;go_wp2_with (go_at_call 89;refine(c89p _ _ (hvl.out [104]) (hvp.out [104])).mono ?_;rintro e w5⟨lv,rfl,hlv,hb7⟩;have hq5:=hqA.out.below hb7 hgA;have z2:=hq5.cell 2;have f2:=hq5.frozen 2;obtain⟨A5,c5,rfl,_⟩:=hlv.slice;rw[List.length_map]at hlv)
    go_meet
    refine⟨_,(hq5.set_ 2 _).to (by simp;rfl),?_,(hMA.out.below hb7).grown (grown_set _ gq 2 _) (by simp;omega),(hOA.out.below hb7).setNe hgb,below_set (bthen hBA.out hb7) hwq,by rw[World.size_setCell];exact zT hbA hb7.size⟩;unfold Hid;rw[hho.out];exact⟨split_ne _ _,(hlv.mono hbA).setNe hgb⟩
  case rest =>
  obtain⟨hv,hqB,hhv,hMB,hOB,hBB,hbB⟩:=hcut;clear hqA hMA hOA hBA hbA hgA hSA;have hgB:gq < wc.heap.size:=hqB.out.lt;obtain⟨AH,nH,cH,rfl⟩:=hhv.out.slice
  -- n
  have k110:(Instr.lookup 155 (.map (some b)) (.string ⟨#[110]⟩) true).run Tryz.prog wc=.ok (.tuple #[.string (B (valOf [110] T)),.bool (hasTag [110] T)]) _:=hMB.out.look_ok ⟨#[110]⟩ (by decide)
  go_upto_if 159 with fail
  clear k110
  go_cut [23] (fun _ wx=>∃nt,Hid (Blk wx gq #[.iface 82 (.agg #[.string (B (kindOf T)),.slice A2 bb.length c2]),.string (B (kindOf T)),.slice AH nH cH,.string nt,.slice none 0 0,.slice none 0 0] 170)/\Hid (OptAt wx b4 (.slice AH nH cH) (hashOf T))/\Hid (OwnM wx b n T)/\Hid (OwnB wx b4 (.slice A2 bb.length c2) bb)/\Hid (Below w.heap.size w wx)/\b4<=wx.heap.size)
  case first =>
   cases hh:hasTag [110] T with
   |false =>
    clear hh;go_wp2
    go_meet
    exact⟨_,hqB,hhv,hMB,hOB,hBB,hbB⟩
   |true =>
    clear hh;have z3:=hqB.out.cell 3;have f3:=hqB.out.frozen 3;go_wp2
    go_meet
    exact⟨_,(hqB.out.set_ 3 _).to (by simp;rfl),hhv.out.setNe hgb,hMB.out.grown (grown_set _ gq 3 _) (by simp;omega),hOB.out.setNe hgb,below_set hBB.out hwq,by rw[World.size_setCell];exact hbB⟩
  case rest =>
  obtain⟨nt,hqC,hhC,hMC,hOC,hBC,hbC⟩:=hcut;clear hqB hMB hOB hBB hbB hgB hhv;have hgC:gq < wc.heap.size:=hqC.out.lt
  -- s
  have k115:(Instr.lookup 155 (.map (some b)) (.string ⟨#[115]⟩) true).run Tryz.prog wc=.ok (.tuple #[.string (B (valOf [115] T)),.bool (hasTag [115] T)]) _:=hMC.out.look_ok ⟨#[115]⟩ (by decide)
  go_upto_if 169 with fail
  clear k115
  go_cut [25] (fun _ wx=>∃sv,Hid (Blk wx gq #[.iface 82 (.agg #[.string (B (kindOf T)),.slice A2 bb.length c2]),.string (B (kindOf T)),.slice AH nH cH,.string nt,sv,.slice none 0 0] 170)/\Hid (OptAt wx b4 sv (servOf T))/\Hid (OptAt wx b4 (.slice AH nH cH) (hashOf T))/\Hid (OwnM wx b n T)/\Hid (OwnB wx b4 (.slice A2 bb.length c2) bb)/\Hid (Below w.heap.size w wx)/\b4<=wx.heap.size)
  case first =>
   cases hh:hasTag [115] T with
   |false =>
    have hso:Hid (servOf T=none):=by unfold Hid servOf;rw[hh];rfl
    clear hh;go_wp2
    go_meet
    exact⟨_,hqC,by unfold Hid;rw[hso.out];rfl,hhC,hMC,hOC,hBC,hbC⟩
   |true =>
    have hso:Hid (servOf T=if among [42] (listOf (valOf [115] T))=true then none else some (listOf (valOf [115] T))):=by unfold Hid servOf;rw[hh];rfl
    clear hh;go_upto_region 46 with(go_at_call 89;refine(c89p _ _ (hvl.out [115]) (hvp.out [115])).mono ?_;rintro e w5⟨lv,rfl,hlv,hb7⟩)
    obtain⟨xs,hxs⟩:∃xs,Hid (listOf (valOf [115] T)=xs):=⟨_,rfl⟩;rw[hxs.out]at hlv hso;have hxl:xs.length<=1152921504606846975:=by have h1:=listOf_len (valOf [115] T);have h2:=hvl.out [115];rw[hxs.out]at h1;rw[size_B]at h2;omega
    have hxne:Hid (xs≠[]):=by unfold Hid;rw[<-hxs.out];exact split_ne _ _
    obtain⟨A5,c5,rfl,hc5,hA5⟩:=hlv.slice;rw[List.length_map]at hlv hc5 hA5 ⊢;have hqD:=hqC.out.below hb7 hgC;have HLV:=zH hlv;have HD:=zH (And.intro hqD hb7);have hfs:=hlv;clear hlv hqD hb7 hA5 hfs;go_wp2;go_loopg [27,174] xs.length (fun g wl ix w'=>∃k:Nat,Hid (k+g=xs.length)/\k<=xs.length/\ix=.int .i64 (k:Int)/\wl=.bool false/\Hid (among [42] (xs.drop k)=among [42] xs)/\w'=w5)
    case atStart=>exact⟨0,Nat.zero_add _,Nat.zero_le _,rfl,rfl,rfl,rfl⟩
    obtain⟨k,hk,hks,rfl,rfl,hq,rfl⟩:=hrel;by_cases hlt:k < xs.length
    ·obtain⟨g5,rfl⟩:=HLV.out.ptr (by rw[List.length_map];omega)
     obtain⟨x,hx⟩:∃x,Hid (xs[k]=x):=⟨xs[k],zH rfl⟩;have q0:=zG hlt;rw[hx.out]at q0;have q1:=HLV.out.cellAt rfl (j:=k) (u:=strV x) (by rw[List.getElem?_map,q0];rfl);unfold strV at q1;have hq2:=hq.out;rw[List.drop_eq_getElem_cons hlt,hx.out,among]at hq2;have hltI:(k:Int) < (xs.length:Int):=by omega
     have hbx:=beq_str (B x) ⟨#[42]⟩;clear q0 hq;by_cases hxe:x=[42]
     ·have e1:((B x).toList == [42])=true:=by rw[toList_B,hxe];rfl
      rw[if_pos hxe]at hq2;have hso2:Hid (servOf T=none):=by unfold Hid;rw[hso.out,<-hq2,if_pos rfl]
      clear hq2 hxe hbx;go_wp2
      go_meet
      exact⟨_,HD.out.1,by unfold Hid;rw[hso2.out];rfl,hhC.out.below HD.out.2,hMC.out.below HD.out.2,hOC.out.below HD.out.2,bthen hBC.out HD.out.2,zT hbC HD.out.2.size⟩
     have e1:((B x).toList == [42])=false:=by rw[toList_B];exact zF hxe
     rw[if_neg hxe]at hq2;have HQ:=zH hq2;clear hq2 hxe hbx;go_wp2;go_roundg (gk - 1)
     case measure=>have:=hk.out;omega
     case rel=>exact⟨k+1,by have:=hk.out;unfold Hid;omega,by omega,by go_num,rfl,HQ,rfl⟩
    obtain rfl:k=xs.length:=by omega
    have hq2:=hq.out;rw[List.drop_length,among]at hq2;have hso2:Hid (servOf T=some xs):=by unfold Hid;rw[hso.out,<-hq2,if_neg (by simp)]
    have z4:=HD.out.1.cell 4;have f4:=HD.out.1.frozen 4;clear hq hq2;go_wp2
    go_meet
    exact⟨_,(HD.out.1.set_ 4 _).to (by simp;rfl),by unfold Hid;rw[hso2.out];exact⟨hxne.out,(HLV.out.mono hbC).setNe hgb⟩,(hhC.out.below HD.out.2).setNe hgb,(hMC.out.below HD.out.2).grown (grown_set _ gq 4 _) (by simp;omega),(hOC.out.below HD.out.2).setNe hgb,below_set (bthen hBC.out HD.out.2) hwq,by rw[World.size_setCell];exact zT hbC HD.out.2.size⟩
  case rest =>
  obtain⟨sv,hqD,hsD,hhD,hMD,hOD,hBD,hbD⟩:=hcut;clear hqC hMC hOC hBC hbC hgC hhC;have hgD:gq < wc.heap.size:=hqD.out.lt;obtain⟨AS,nS,cS,rfl⟩:=hsD.out.slice
  -- t
  have k116:(Instr.lookup 155 (.map (some b)) (.string ⟨#[116]⟩) true).run Tryz.prog wc=.ok (.tuple #[.string (B (valOf [116] T)),.bool (hasTag [116] T)]) _:=hMD.out.look_ok ⟨#[116]⟩ (by decide)
  go_upto_if 192 with fail
  clear k116;cases hh:hasTag [116] T with
  |false =>
   clear hh;go_wp2;go_ret2
   refine⟨_,_,rfl,?_,hBD.out⟩;rw[show(some T).bind keyM=keyM T from rfl,hKok.out];exact⟨rfl,gq,_,_,nt,_,_,rfl,hwq,hqD.out,hOD.out.mono hb4w,hhD.out.mono hb4w,hsD.out.mono hb4w⟩
  |true =>
   clear hh;go_wp2_with (go_at_call 89;refine(c89p _ _ (hvl.out [116]) (hvp.out [116])).mono ?_;rintro e w5⟨lv,rfl,hlv,hb7⟩;have hq5:=hqD.out.below hb7 hgD;have z5:=hq5.cell 5;have f5:=hq5.frozen 5;obtain⟨A5,c5,rfl,_⟩:=hlv.slice;rw[List.length_map]at hlv);go_ret2
   refine⟨_,_,rfl,?_,below_set (bthen hBD.out hb7) hwq⟩;rw[show(some T).bind keyM=keyM T from rfl,hKok.out];exact⟨rfl,gq,_,_,nt,_,_,rfl,hwq,(hq5.set_ 5 _).to (by simp;rfl),((hOD.out.below hb7).setNe hgb).mono hb4w,((hhD.out.below hb7).setNe hgb).mono hb4w,((hsD.out.below hb7).setNe hgb).mono hb4w⟩
end Go.Proofs.YtnkihlpmmfeioaaGreatDoor
