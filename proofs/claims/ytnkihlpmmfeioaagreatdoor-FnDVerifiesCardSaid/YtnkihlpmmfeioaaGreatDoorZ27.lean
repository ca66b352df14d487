/- Part of the proof that laws.FnDVerifies answers true: A72,A73 -/
import Derived.Test.YtnkihlpmmfeioaaGreatDoorZ26
set_option linter.unusedVariables false
set_option linter.unusedSimpArgs false
set_option maxRecDepth 1000000
set_option maxHeartbeats 16000000
namespace Go.Proofs.YtnkihlpmmfeioaaGreatDoor
open Go.RowKit
theorem Own.gr{S:Nat->Prop}{w w':World}{base:Nat}{e:TypeId}{v:Value}{xs:List Value}(h:Own w base e v xs)(hG:Gr S w w')(hS:∀k,base<=k->¬S k):Own w' base e v xs:=by
 obtain⟨h1,h2⟩:=h;rcases h2 with h2|⟨g,cap,cur,r1,r2,r3,r4⟩
 ·exact⟨h1,.inl h2⟩
 exact⟨h1,.inr ⟨g,cap,cur,r1,r2,(hG.block g (Array.getElem?_eq_some_iff.1 r3).1 (hS g r2)).trans r3,r4⟩⟩
def RHPost(w w':World)(gb gd gs:Nat)(S:List UInt8)(pE:Addr)(hv ev:Value):Option (List (List UInt8) × List UInt8)->Prop
 |none=>∃g m,ev=.iface 235 (.pointer (some ⟨g,0,none⟩))/\w.heap.size<=g/\Blk w' g #[.string m] 237
 |some p=>ev=.nilIface/\Own w' w.heap.size 9 hv (p.1.map strV)/\∃r' q' i' err' T',BufAt w' gb gd gs r' q' i' err' T' S/\errOk err' i' S pE/\restOf r' q' i' T' S=p.2
theorem c61(gb gd gs r q i:Nat)(err:Value)(T S:List UInt8)(pE pF:Addr)(w:World)(h:BufAt w gb gd gs r q i err T S)(hok:errOk err i S pE)(hE:Errs w pE pF)(hS:S.length<=1099511627776)(h3:errTop pE pF < gb/\errTop pE pF < gd/\errTop pE pF < gs)
  (hrl:(restOf r q i T S).length<=268435456) :
  Calls Tryz.prog 61 #[.pointer (some ⟨gb,0,none⟩)] w fun e w'=>∃hv ev,e=.returned (.tuple #[hv,ev])/\RHPost w w' gb gd gs S pE hv ev (headOf (restOf r q i T S))/\Gr (fun k=>k=gb\/k=gd\/k=gs) w w':=by
 obtain⟨rest,hrest⟩:∃rest,Hid (restOf r q i T S=rest):=⟨_,rfl⟩;rw[hrest.out]at hrl ⊢;obtain⟨RES,hRES⟩:∃RES,Hid (headOf rest=RES):=⟨_,rfl⟩;rw[hRES.out];have HLT:Hid (gb < w.heap.size/\gd < w.heap.size/\gs < w.heap.size):=by obtain⟨lb,ls,hb⟩:=h.blk;exact⟨hb.lt,h.buf.lt,h.rd.lt⟩
 have H:=zH h;have HE:=zH hE;have HK:=zH hok;clear h hE hok;go_enter Tryz.func61,Tryz.ntmps61;go_wp2;go_loopg [4] (rest.length+1) (fun g v w'=>∃(out:List (List UInt8)) (r1 q1 i1:Nat) (err1:Value) (T1:List UInt8),Own w' w.heap.size 9 v (out.map strV)/\BufAt w' gb gd gs r1 q1 i1 err1 T1 S/\errOk err1 i1 S pE /\
  headN g out (restOf r1 q1 i1 T1 S)=RES/\(restOf r1 q1 i1 T1 S).length < g/\out.length+(restOf r1 q1 i1 T1 S).length<=rest.length/\allLe (3*(rest.length - (restOf r1 q1 i1 T1 S).length)) out/\Gr (fun k=>k=gb\/k=gd\/k=gs) w w')
 case atStart=>exact⟨[],r,q,i,err,T,Own.nil _ _ _,H.out,HK.out,by rw[hrest.out];exact hRES.out,by rw[hrest.out];omega,by rw[hrest.out];exact Nat.le_of_eq (Nat.zero_add _),(fun x hx=>by cases hx),Gr.refl _ _⟩
 obtain⟨out,r1,q1,i1,err1,T1,ho,hB,hok,hhn,hfu,hnn,hal,hG⟩:=hrel;obtain⟨wo,hwo⟩:∃wo:World,wo=wr:=⟨_,rfl⟩;rw[<-hwo]at ho hB hG ⊢;clear hwo;obtain⟨R,hR⟩:∃R,Hid (restOf r1 q1 i1 T1 S=R):=⟨_,rfl⟩;rw[hR.out]at hhn hfu hnn hal;have hE1:=HE.out.gr hG (fun k hk q=>by omega);have HO:=zH ho;have HHN:=zH hhn;have HNN:=zH hnn;have HAL:=zH hal;have HG:=zH hG;have HBa:=zH hB;clear ho hhn hnn hal hG hB;go_upto_region 3 with(go_at_call 92;refine(c92 gb gd gs r1 q1 i1 err1 T1 S pE pF _ HBa.out hok hE1 hS h3).mono ?_;rintro e w1⟨lv,ev,rfl,hP,hG1⟩;rw[hR.out]at hP)
 obtain⟨r',q',i',err',T',hB1,hok1,hcase⟩:=hP;have ho1:Hid (Own w1 w.heap.size 9 _ (out.map strV)):=HO.out.gr hG1 (fun k hk q=>by have:=HLT.out;omega);have HG1:Hid (Gr (fun k=>k=gb\/k=gd\/k=gs) w w1):=HG.out.trans hG1;have hlt:=HLT.out;clear hG1 hE1;rcases hcase with⟨hf,rfl,rfl,hrs⟩|⟨hf,hr0,rfl,rfl,hrs⟩|⟨hf,rfl,rfl,hrs⟩
 ·obtain⟨l,hl⟩:∃l,Hid (chomp (cutA 10 R)=l):=⟨_,rfl⟩
  rw[hl.out];cases gk with
  |zero=>omega
  |succ K =>
  have hlen:=cut_len 10 _ hf;have hll:l.length<=(cutA 10 R).length:=by rw[<-hl.out];exact chomp_le _
  have hp1:=HHN.out;rw[headN,if_pos hf,hl.out]at hp1;by_cases hl0:l=[]
  ·rw[if_pos hl0]at hp1
   have he:(((B l).size:Int) == 0)=true:=by rw[hl0];rfl
   have H1:=zH hp1;have HB:=zH hB1;have HR2:=zH hrs;clear hp1 hf hl0 hB1 hrs;go_wp2;go_ret2
   refine⟨_,_,rfl,?_,HG1.out⟩;rw[<-H1.out];exact⟨rfl,ho1.out,r',q',i',err',T',HB.out,hok1,HR2.out⟩
  rw[if_neg hl0]at hp1;have hle1:allLe (3*(rest.length - (cutZ 10 R).length)) (addLine out l):=addLine_le HAL.out (by have:=HNN.out;omega);have HNX:Hid (headN K (addLine out l) (restOf r' q' i' T' S)=RES/\(restOf r' q' i' T' S).length < K/\K < K+1/\out.length+1+(restOf r' q' i' T' S).length<=rest.length/\allLe (3*(rest.length - (restOf r' q' i' T' S).length)) (addLine out l)):=by
   unfold Hid;rw[hrs];exact⟨hp1,by omega,by omega,by have:=HNN.out;omega,hle1⟩
  clear hp1 hf hrs hle1;have he:(((B l).size:Int) == 0)=false:=zF (by rw[size_B];have:=List.length_pos_iff.2 hl0;omega);have hlp:0 < (B l).size:=by rw[size_B];exact List.length_pos_iff.2 hl0
  have hL:=L_at0 (B l) hlp;have hcb:contB l=((((B l)[0]'hlp).toNat:Int) == 32 || (((B l)[0]'hlp).toNat:Int) == 9):=(congrArg contB hL).trans rfl;have hlb:(B l).size<=1073741824:=by have:=HNN.out;rw[size_B];omega
  have HB:=zH hB1;clear hL hB1;by_cases hcont:0 < out.length/\contB l=true
  ·obtain⟨la,hla⟩:∃la,Hid (out.getD (out.length - 1) []=la):=⟨_,rfl⟩
   have hal:Hid (addLine out l=out.set (out.length - 1) (la++l++[13,10])):=by unfold Hid;rw[addLine,if_pos hcont,hla.out]
   obtain⟨hn0,hc1⟩:=hcont;rw[hcb]at hc1;obtain⟨g,cap,hv,hg1,hg2,hcap,hcell,hfr⟩:=Own.rowFacts ho1.out (by simpa using hn0);rw[List.length_map]at hv hcap;subst hv;have hlam:out[out.length - 1]?=some la:=by
    rw[<-hla.out,List.getD_eq_getElem?_getD,zG (by omega)];rfl
   have hck0:=hcell (out.length - 1) (.string (B la)) (by rw[List.getElem?_map,hlam];rfl);have hfr0:=hfr (out.length - 1);have hol:out.length<=268435456:=by have:=HNN.out;omega
   have hbl:(B la).size<=2147483648:=by
    have:=HAL.out la (List.mem_of_getElem? hlam);rw[size_B];omega
   clear hlam hcell hfr;have hc2:(((B l)[0]'hlp).toNat:Int)=32\/(((B l)[0]'hlp).toNat:Int)=9:=by simpa using hc1
   clear hc1 hcb;have hwg:w.heap.size<=g:=hg1;rcases hc2 with hc2|hc2;all_goals
    go_wp2;go_roundg K
    case measure=>exact HNX.out.2.2.1
    case rel =>
     refine⟨out.set (out.length - 1) (la++l++[13,10]),r',q',i',err',T',?_⟩;have h9:=ho1.out.set_ (out.length - 1) (.string (B la++(B l++⟨#[13,10]⟩)));have h8:strV (la++l++[13,10])=.string (B la++(B l++⟨#[13,10]⟩)):=(str_eq (by rw[L_append,L_append,L_B,L_B,List.append_assoc])).symm;have hgs:=gr_set0 (Z:=fun k=>k=g) (Gr.refl _ w1) g (out.length - 1) (.string (B la++(B l++⟨#[13,10]⟩))) rfl;have hX:=HNX.out;rw[hal.out]at hX;exact⟨by rw[List.map_set,h8];exact h9,HB.out.gr hgs (fun q=>by omega) (fun q=>by omega) (fun q=>by omega),hok1,hX.1,hX.2.1,by rw[List.length_set];exact zT (Nat.add_le_add_right (Nat.le_succ _) _) hX.2.2.2.1,hX.2.2.2.2,HG1.out.then hgs (fun k hk q=>by omega)⟩
  have hal:Hid (addLine out l=out++[l++[13,10]]):=by unfold Hid;rw[addLine,if_neg hcont]
  obtain⟨A,cap,hv,hcap,_⟩:=ho1.out.slice;rw[List.length_map]at hv hcap;subst hv;rw[hcb]at hcont;have hor:¬0 < out.length\/(¬(((B l)[0]'hlp).toNat:Int)=32/\¬(((B l)[0]'hlp).toNat:Int)=9):=by
   rcases Classical.em (0 < out.length)with h|h
   ·right
    have:=fun h2=>hcont ⟨h,h2⟩
    simpa using this
   exact .inl h
  clear hcont hcb;have hXb:Hid (Value.string (B l++⟨#[13,10]⟩)=strV (l++[13,10])):=str_eq (by rw[L_append,L_B]);have hws:w.heap.size<=w1.heap.size:=HG1.out.size;rcases hor with hor|⟨hc2,hc3⟩
  ·go_wp2_with (at_builtin;rw[hXb.out];refine wp_app1 Tryz.underlying109 info9 rfl rfl (.tmp 42) (.tmp 45) rfl rfl ho1.out hws (strV (l++[13,10])) rfl rfl (by simp;have:=HNN.out;omega) (by decide) ?_;intro v2 w2 ho2 hg2 hb3 hl2)
   all_goals
    go_roundg K
    case measure=>exact HNX.out.2.2.1
    case rel =>
     have hX:=HNX.out;rw[hal.out]at hX;have hof:∀k,(Value.slice A out.length cap).ownBlock=some k->w.heap.size<=k:=fun k hk=>(World.ownsRow.lt ho1.out k hk).1
     have hlt:=HLT.out;refine⟨out++[l++[13,10]],r',q',i',err',T',by simpa using ho2,HB.out.gr (Gr.of_grown hg2) (fun q=>by have:=hof _ q;omega) (fun q=>by have:=hof _ q;omega) (fun q=>by have:=hof _ q;omega),hok1,hX.1,hX.2.1,by rw[zA];exact hX.2.2.2.1,hX.2.2.2.2,HG1.out.then (Gr.of_grown hg2) (fun k hk q=>by have:=hof k q;omega)⟩
  have hc2e:((((B l)[0]'hlp).toNat:Int) == 32)=false:=zF hc2;have hc3e:((((B l)[0]'hlp).toNat:Int) == 9)=false:=zF hc3;go_wp2_with (at_builtin;rw[hXb.out];refine wp_app1 Tryz.underlying109 info9 rfl rfl (.tmp 42) (.tmp 45) rfl rfl ho1.out hws (strV (l++[13,10])) rfl rfl (by simp;have:=HNN.out;omega) (by decide) ?_;intro v2 w2 ho2 hg2 hb3 hl2);all_goals
   go_roundg K
   case measure=>exact HNX.out.2.2.1
   case rel =>
    have hX:=HNX.out;rw[hal.out]at hX;have hof:∀k,(Value.slice A out.length cap).ownBlock=some k->w.heap.size<=k:=fun k hk=>(World.ownsRow.lt ho1.out k hk).1
    have hlt:=HLT.out;refine⟨out++[l++[13,10]],r',q',i',err',T',by simpa using ho2,HB.out.gr (Gr.of_grown hg2) (fun q=>by have:=hof _ q;omega) (fun q=>by have:=hof _ q;omega) (fun q=>by have:=hof _ q;omega),hok1,hX.1,hX.2.1,by rw[zA];exact hX.2.2.2.1,hX.2.2.2.2,HG1.out.then (Gr.of_grown hg2) (fun k hk q=>by have:=hof k q;omega)⟩
 ·have hp1:=HHN.out
  rw[headN_done _ _ _ hf]at hp1;obtain⟨l,hl⟩:∃l,l=R:=⟨_,rfl⟩;rw[<-hl]at hr0 ⊢;have hl0:=hr0;have hll:l.length=R.length:=by rw[hl]
  have hRp:0 < R.length:=by rw[<-hll];exact List.length_pos_iff.2 hl0
  obtain⟨K,hK⟩:∃K,K=1:=⟨_,rfl⟩;have hle1:allLe (3*(rest.length - 0)) (addLine out l):=addLine_le HAL.out (by have:=HNN.out;omega);have HNX:Hid (headN K (addLine out l) (restOf r' q' i' T' S)=RES/\(restOf r' q' i' T' S).length < K/\K < gk/\out.length+1+(restOf r' q' i' T' S).length<=rest.length/\allLe (3*(rest.length - (restOf r' q' i' T' S).length)) (addLine out l)):=by
   unfold Hid;rw[hrs,hK];exact⟨hp1,by simp,by omega,by have:=HNN.out;simp only[List.length_nil];omega,hle1⟩
  clear hp1 hf hrs hle1 hK hl hr0;have he:(((B l).size:Int) == 0)=false:=zF (by rw[size_B];have:=List.length_pos_iff.2 hl0;omega);have hlp:0 < (B l).size:=by rw[size_B];exact List.length_pos_iff.2 hl0
  have hL:=L_at0 (B l) hlp;have hcb:contB l=((((B l)[0]'hlp).toNat:Int) == 32 || (((B l)[0]'hlp).toNat:Int) == 9):=(congrArg contB hL).trans rfl;have hlb:(B l).size<=1073741824:=by have:=HNN.out;rw[size_B];omega
  have HB:=zH hB1;clear hL hB1;by_cases hcont:0 < out.length/\contB l=true
  ·obtain⟨la,hla⟩:∃la,Hid (out.getD (out.length - 1) []=la):=⟨_,rfl⟩
   have hal:Hid (addLine out l=out.set (out.length - 1) (la++l++[13,10])):=by unfold Hid;rw[addLine,if_pos hcont,hla.out]
   obtain⟨hn0,hc1⟩:=hcont;rw[hcb]at hc1;obtain⟨g,cap,hv,hg1,hg2,hcap,hcell,hfr⟩:=Own.rowFacts ho1.out (by simpa using hn0);rw[List.length_map]at hv hcap;subst hv;have hlam:out[out.length - 1]?=some la:=by
    rw[<-hla.out,List.getD_eq_getElem?_getD,zG (by omega)];rfl
   have hck0:=hcell (out.length - 1) (.string (B la)) (by rw[List.getElem?_map,hlam];rfl);have hfr0:=hfr (out.length - 1);have hol:out.length<=268435456:=by have:=HNN.out;omega
   have hbl:(B la).size<=2147483648:=by
    have:=HAL.out la (List.mem_of_getElem? hlam);rw[size_B];omega
   clear hlam hcell hfr;have hc2:(((B l)[0]'hlp).toNat:Int)=32\/(((B l)[0]'hlp).toNat:Int)=9:=by simpa using hc1
   clear hc1 hcb;have hwg:w.heap.size<=g:=hg1;rcases hc2 with hc2|hc2;all_goals
    go_wp2;go_roundg K
    case measure=>exact HNX.out.2.2.1
    case rel =>
     refine⟨out.set (out.length - 1) (la++l++[13,10]),r',q',i',err',T',?_⟩;have h9:=ho1.out.set_ (out.length - 1) (.string (B la++(B l++⟨#[13,10]⟩)));have h8:strV (la++l++[13,10])=.string (B la++(B l++⟨#[13,10]⟩)):=(str_eq (by rw[L_append,L_append,L_B,L_B,List.append_assoc])).symm;have hgs:=gr_set0 (Z:=fun k=>k=g) (Gr.refl _ w1) g (out.length - 1) (.string (B la++(B l++⟨#[13,10]⟩))) rfl;have hX:=HNX.out;rw[hal.out]at hX;exact⟨by rw[List.map_set,h8];exact h9,HB.out.gr hgs (fun q=>by omega) (fun q=>by omega) (fun q=>by omega),hok1,hX.1,hX.2.1,by rw[List.length_set];exact zT (Nat.add_le_add_right (Nat.le_succ _) _) hX.2.2.2.1,hX.2.2.2.2,HG1.out.then hgs (fun k hk q=>by omega)⟩
  have hal:Hid (addLine out l=out++[l++[13,10]]):=by unfold Hid;rw[addLine,if_neg hcont]
  obtain⟨A,cap,hv,hcap,_⟩:=ho1.out.slice;rw[List.length_map]at hv hcap;subst hv;rw[hcb]at hcont;have hor:¬0 < out.length\/(¬(((B l)[0]'hlp).toNat:Int)=32/\¬(((B l)[0]'hlp).toNat:Int)=9):=by
   rcases Classical.em (0 < out.length)with h|h
   ·right
    have:=fun h2=>hcont ⟨h,h2⟩
    simpa using this
   exact .inl h
  clear hcont hcb;have hXb:Hid (Value.string (B l++⟨#[13,10]⟩)=strV (l++[13,10])):=str_eq (by rw[L_append,L_B]);have hws:w.heap.size<=w1.heap.size:=HG1.out.size;rcases hor with hor|⟨hc2,hc3⟩
  ·go_wp2_with (at_builtin;rw[hXb.out];refine wp_app1 Tryz.underlying109 info9 rfl rfl (.tmp 42) (.tmp 45) rfl rfl ho1.out hws (strV (l++[13,10])) rfl rfl (by simp;have:=HNN.out;omega) (by decide) ?_;intro v2 w2 ho2 hg2 hb3 hl2)
   all_goals
    go_roundg K
    case measure=>exact HNX.out.2.2.1
    case rel =>
     have hX:=HNX.out;rw[hal.out]at hX;have hof:∀k,(Value.slice A out.length cap).ownBlock=some k->w.heap.size<=k:=fun k hk=>(World.ownsRow.lt ho1.out k hk).1
     have hlt:=HLT.out;refine⟨out++[l++[13,10]],r',q',i',err',T',by simpa using ho2,HB.out.gr (Gr.of_grown hg2) (fun q=>by have:=hof _ q;omega) (fun q=>by have:=hof _ q;omega) (fun q=>by have:=hof _ q;omega),hok1,hX.1,hX.2.1,by rw[zA];exact hX.2.2.2.1,hX.2.2.2.2,HG1.out.then (Gr.of_grown hg2) (fun k hk q=>by have:=hof k q;omega)⟩
  have hc2e:((((B l)[0]'hlp).toNat:Int) == 32)=false:=zF hc2;have hc3e:((((B l)[0]'hlp).toNat:Int) == 9)=false:=zF hc3;go_wp2_with (at_builtin;rw[hXb.out];refine wp_app1 Tryz.underlying109 info9 rfl rfl (.tmp 42) (.tmp 45) rfl rfl ho1.out hws (strV (l++[13,10])) rfl rfl (by simp;have:=HNN.out;omega) (by decide) ?_;intro v2 w2 ho2 hg2 hb3 hl2);all_goals
   go_roundg K
   case measure=>exact HNX.out.2.2.1
   case rel =>
    have hX:=HNX.out;rw[hal.out]at hX;have hof:∀k,(Value.slice A out.length cap).ownBlock=some k->w.heap.size<=k:=fun k hk=>(World.ownsRow.lt ho1.out k hk).1
    have hlt:=HLT.out;refine⟨out++[l++[13,10]],r',q',i',err',T',by simpa using ho2,HB.out.gr (Gr.of_grown hg2) (fun q=>by have:=hof _ q;omega) (fun q=>by have:=hof _ q;omega) (fun q=>by have:=hof _ q;omega),hok1,hX.1,hX.2.1,by rw[zA];exact hX.2.2.2.1,hX.2.2.2.2,HG1.out.then (Gr.of_grown hg2) (fun k hk q=>by have:=hof k q;omega)⟩
 have hp1:=HHN.out;rw[headN_done _ _ _ hf]at hp1;have H1:=zH hp1;unfold eofV;clear hp1 hf hrs hB1;go_wp2_with (go_at_call 93;refine(c93 _ _).mono ?_;rintro e w2⟨rfl,rfl⟩);go_ret2
 refine⟨_,_,rfl,?_,HG1.out.trans (Gr.of_below ((zB _ _).alloc (zR _) _))⟩;rw[<-H1.out];exact⟨_,_,rfl,HG1.out.size,Blk.new _ _ _⟩
theorem naS(p:Addr)(W:World):(nilAhead 488 360 (.pointer (some p)) "Write").run Tryz.prog W=.ok (some false) W:=by kernel_rfl
theorem naR(p:Addr)(W:World):(nilAhead 488 365 (.pointer (some p)) "Write").run Tryz.prog W=.ok (some false) W:=by kernel_rfl
theorem WrS.drewN{w:World}{gc g:Nat}{L:List UInt8}(h:WrS w gc g L)(n:Nat):WrS (w.drewN n) gc g L:=h.gr (Gr.drw (Gr.refl (fun _=>False) w) n) (fun _ _ _ h=>h)
theorem WrR.drewN{w:World}{gc g:Nat}{L:List UInt8}(h:WrR w gc g L)(n:Nat):WrR (w.drewN n) gc g L:=h.gr (Gr.drw (Gr.refl (fun _=>False) w) n) (fun _ _ _ h=>h)
theorem WrS.ltc{w:World}{gc g:Nat}{L:List UInt8}(h:WrS w gc g L):gc < w.heap.size:=by obtain⟨_,_,_,_,h,_⟩:=h;exact h.blk.lt
theorem WrR.ltc{w:World}{gc g:Nat}{L:List UInt8}(h:WrR w gc g L):gc < w.heap.size:=by obtain⟨_,_,h⟩:=h;exact h.blk.lt
theorem c245S(gb gd gs r q i gc g:Nat)(err:Value)(T S L:List UInt8)(w:World)(h:BufAt w gb gd gs r q i err T S)(hW:WrS w gc g L)(hlt:gb < g/\gd < g/\gs < g)(hL:L.length<=50000000) :
  Calls Tryz.prog 245 #[.pointer (some ⟨gb,0,none⟩),.iface 360 (.pointer (some ⟨gc,0,none⟩))] w fun e w'=>e=.returned (.tuple #[.int .i64 ((q - r:Nat):Int),.nilIface])/\BufAt w' gb gd gs q q i err T S/\WrS w' gc g (L++(T.take q).drop r)/\Gr (fun k=>k=gb\/g<=k) w w':=by
 have hle:=h.le;have hwl:=h.wle;obtain⟨lb,ls,hb⟩:=h.blk;have p0:=hb.cell 0;have p2:=hb.cell 2;have p3:=hb.cell 3;obtain⟨D,hD⟩:∃D,Hid ((T.take q).drop r=D):=⟨_,rfl⟩;obtain⟨n,hn⟩:∃n,Hid (q - r=n):=⟨_,rfl⟩;have hDl:Hid (D.length=n):=by unfold Hid;rw[<-hD.out,<-hn.out,List.length_drop,List.length_take,h.len];omega
 have HRD:Hid (RdB w (.slice (sAd gd 0 r 4096) (q - r) (4096 - r)) D):=by
  unfold Hid;rw[<-hD.out];exact RdB.sAd h.cell hle (by rw[h.len];exact hwl) (by rw[h.len];omega)
 have hsl:=slRun gd 0 4096 4096 r q hle hwl;have hgcg:=hW.lt;have hnc:=naS;have hmW:=mWrS;have H:=zH h;have HBB:=zH hb;have HW:=zH hW;have a1:¬((n:Int) < 0):=by omega
 have a2:IntKind.i64.wrap ((r:Int)+(n:Int))=(q:Int):=by have:=hn.out;rw[IntWalk.i64_in _ (by omega)];omega
 rw[hD.out,hn.out];clear h hb hW;go_enter Tryz.func245,Tryz.ntmps245;generalize hbv:Value.slice (some ⟨gd,0,none⟩) 4096 4096=bv at p0 hsl
 go_wp2;refine wp_quiet_call 17 22 (by kernel_rfl) (by kernel_rfl) rfl ?_;simp only[List.take_succ_cons,List.take_zero,List.drop_succ_cons,List.drop_zero];repeat(quiet_step (fail))
 refine wpQuiet_nil ?_;intro _ hw';obtain⟨nq,hw''⟩:=hw';subst hw'';go_wp2_with (go_at_call 291;refine(c291W gc g _ L D _ (HW.out.drewN nq) (HRD.out.drewN nq) (by rw[hDl.out];have:=hn.out;omega) (by omega)).mono ?_;rintro e w2⟨rfl,hW2,hG2⟩;rw[hDl.out]);refine callQ_normal ?_;repeat(quiet_step (fail))
 refine wpQuiet_nil ?_;intro _ hw';obtain⟨nq2,hw''⟩:=hw';subst hw'';subst hbv;have hb2:=(hG2.block gb (show gb < (w.drewN _).heap.size from HBB.out.lt) (by omega)).trans HBB.out;clear p0 p2 p3 hsl;have p2:=Blk.cell hb2 2;have f2:=Blk.frozen hb2 2;have HG2:Hid (Gr (fun k=>k=gb\/g<=k) w w2):=(Gr.drw (Gr.refl _ w) _).trans (hG2.mono fun k _ q=>.inr q);have HW2:=zH hW2;have HB3:Hid (BufAt w2 gb gd gs r q i err T S):=(H.out.drewN _).gr hG2 (by omega) (by omega) (by omega);clear hb2 hG2 hW2;go_wp2;go_ret2
 have hB3:=HB3.out.drewN nq2;exact⟨rfl,hB3.setR (zR q),(HW2.out.drewN nq2).gr (gr_set0 (Z:=fun k=>k=gb) (Gr.refl _ _) gb 2 _ rfl) (fun k hk _ q=>by omega),gr_set0 (HG2.out.drw nq2) gb 2 _ (.inl rfl)⟩
theorem noSWS(p:Value)(W:World):(Instr.typeAssert (.iface 360 p) 206 261 true).run Tryz.prog W=.ok (.tuple #[.nilIface,.bool false]) W:=run_typeAssert_lacksB Tryz.underlying261 (by kernel_rfl) (by kernel_rfl) p 206 W
theorem c126S(gc g:Nat)(L m:List UInt8)(w:World)(hW:WrS w gc g L)(hL:L.length<=50000000)(hm:m.length<=50000000) :
  Calls Tryz.prog 126 #[.iface 360 (.pointer (some ⟨gc,0,none⟩)),.string (B m)] w fun e w'=>e=.returned (.tuple #[.int .i64 (m.length:Int),.nilIface])/\WrS w' gc g (L++m)/\Gr (fun k=>g<=k) w w':=by
 have hmW:=mWrS;have hsw:=noSWS;have hcv:=fun W=>Lib.run_convert_string_bytes (P:=Tryz.prog) W 9 33 5 (B m) Tryz.underlying9 Tryz.underlying33 Tryz.underlying5
 have hgl:=hW.lt;have hbw:Below w.heap.size w (Lib.bytesWorld w 5 (B m)):=below_bytes (zB _ _) (zR _) _;have HW:Hid (WrS (Lib.bytesWorld w 5 (B m)) gc g L):=hW.gr (S:=fun _=>False) (Gr.of_below hbw) (fun _ _ _ q=>q);have HO:Hid (OwnB (Lib.bytesWorld w 5 (B m)) w.heap.size (.slice (some ⟨w.heap.size,0,none⟩) (B m).size (grownCap w (B m).size 0 5)) m):=OwnB.conv w w.heap.size (zR _) (B m) (by rw[size_B];simp[maxLen];omega);have HB:=zH hbw;have hgc:gc < w.heap.size:=hW.ltc;clear hW hbw;go_enter Tryz.func126,Tryz.ntmps126;go_wp2_with (go_at_call 291;refine(c291W gc g _ L m _ HW.out HO.out.rdB (by omega) (by omega)).mono ?_;rintro e w2⟨rfl,hW2,hG2⟩);go_ret2
 exact⟨rfl,hW2,(Gr.of_below HB.out).trans hG2⟩
theorem c236S(gs i gc g:Nat)(S L:List UInt8)(w:World)(h:StrR w gs i S)(hW:WrS w gc g L)(hlt:gs < g)(hL:L.length<=50000000)(hS:S.length<=50000000) :
  Calls Tryz.prog 236 #[.pointer (some ⟨gs,0,none⟩),.iface 360 (.pointer (some ⟨gc,0,none⟩))] w fun e w'=>e=.returned (.tuple #[.int .i64 ((S.length - i:Nat):Int),.nilIface])/\WrS w' gc g (L++S.drop i)/\Gr (fun k=>k=gs\/g<=k) w w':=by
 obtain⟨hi,pr,hb⟩:=h;have p0:=hb.cell 0;have p1:=hb.cell 1;have p2:=hb.cell 2;have f2:=hb.frozen 2;have HB:=zH hb;have HW:=zH hW;have hgl:=hW.lt;clear hb hW;by_cases hlt2:i < S.length
 ·have a1:¬(((B S).size:Int)<=(i:Int)):=by rw[size_B];omega
  have a2:(0:Int)<=(i:Int):=by omega
  have a3:(i:Int)<=((B S).size:Int):=by rw[size_B];omega
  obtain⟨n,hn⟩:∃n,Hid (S.length - i=n):=⟨_,rfl⟩;have hex:=drop_ext S i;have hdl:Hid ((S.drop i).length=n):=by unfold Hid;rw[List.length_drop,hn.out]
  have hsz:(((B (S.drop i)).size:Nat):Int)=(n:Int):=by rw[size_B,hdl.out]
  have e1:IntKind.i64.wrap ((i:Int)+(n:Int))=(S.length:Int):=by have:=hn.out;rw[IntWalk.i64_in _ (by omega)];omega
  have b1:¬((n:Int) < (n:Int)):=by omega
  have hbne:((n:Int) != (n:Int))=false:=by simp
  rw[hn.out];go_enter Tryz.func236,Tryz.ntmps236;go_wp2;go_quiet (fail)
  go_wp2;go_quiet (fail)
  clear p0 p1 p2 f2;have hb1:Blk (w.setCell ⟨gs,2,none⟩ (.int .i64 (-1))) gs #[.string (B S),.int .i64 (i:Int),.int .i64 (-1)] 124:=(HB.out.set_ 2 _).to (by simp);have hG1:Gr (fun k=>k=gs) w (w.setCell ⟨gs,2,none⟩ (.int .i64 (-1))):=gr_set0 (Gr.refl (fun k=>k=gs) w) gs 2 _ rfl;have hW1:WrS (w.setCell ⟨gs,2,none⟩ (.int .i64 (-1))) gc g L:=HW.out.gr hG1 (fun k hk _ q=>by omega);have HH1:=zH (And.intro hb1 (And.intro hG1 hW1));clear hb1 hG1 hW1;generalize w.setCell ⟨gs,2,none⟩ (.int .i64 (-1))=w1 at *
  go_upto_region 6 with(go_at_call 126;refine(c126S gc g L (S.drop i) _ (HH1.out.2.2.drewN _) hL (by rw[hdl.out];have:=hn.out;omega)).mono ?_;rintro e w2⟨rfl,hW2,hG2⟩;rw[hdl.out])
  have hb2:=(hG2.block gs (show gs < (w1.drewN _).heap.size from HH1.out.1.lt) (by omega)).trans HH1.out.1;have p1:=Blk.cell hb2 1;have f1:=Blk.frozen hb2 1;have HG3:Hid (Gr (fun k=>k=gs\/g<=k) w w2):=((HH1.out.2.1.drw _).mono fun k _ q=>.inl q).trans (hG2.mono fun k _ q=>.inr q);have HW2:=zH hW2;clear hb2 hG2 hW2;go_wp2;go_ret2
  exact⟨rfl,HW2.out.gr (gr_set0 (Z:=fun k=>k=gs) (Gr.refl _ _) gs 1 _ rfl) (fun k hk _ q=>by omega),gr_set0 HG3.out gs 1 _ (.inl rfl)⟩
 have a1:(((B S).size:Int)<=(i:Int)):=by rw[size_B];omega
 have hz:S.length - i=0:=by omega
 have hdz:S.drop i=[]:=List.drop_eq_nil_of_le (by omega);rw[hz,hdz,List.append_nil];clear hz hdz;go_enter Tryz.func236,Tryz.ntmps236;go_wp2;go_quiet (fail)
 go_wp2;go_ret2
 have hG1:Gr (fun k=>k=gs) w (w.setCell ⟨gs,2,none⟩ (.int .i64 (-1))):=gr_set0 (Gr.refl (fun k=>k=gs) w) gs 2 _ rfl;exact⟨rfl,HW.out.gr (hG1.drw nq) (fun k hk _ q=>by omega),(hG1.drw nq).mono fun k _ q=>.inl q⟩
theorem hasWTS(p:Value)(W:World):(Instr.typeAssert (.iface 71 p) 106 274 true).run Tryz.prog W=.ok (.tuple #[.iface 71 p,.bool true]) W:=run_typeAssert_hasB Tryz.underlying274 (by kernel_rfl) p 106 W
theorem mWTS(p:Addr)(w:World):(method 488 71 (.pointer (some p)) "WriteTo").run Tryz.prog w=.ok (236,.pointer (some p)) w:=by kernel_rfl
theorem c244S(gb gd gs r q i gc g:Nat)(err:Value)(T S L:List UInt8)(w:World)(h:BufAt w gb gd gs r q i err T S)(hW:WrS w gc g L)(hlt:gb < g/\gd < g/\gs < g)(hL:L.length<=40000000)(hS:S.length<=50000000) :
  Calls Tryz.prog 244 #[.pointer (some ⟨gb,0,none⟩),.iface 360 (.pointer (some ⟨gc,0,none⟩))] w fun e w'=>∃n:Int,e=.returned (.tuple #[.int .i64 n,.nilIface])/\WrS w' gc g (L++restOf r q i T S)/\Gr (fun k=>k=gb\/k=gd\/k=gs\/g<=k) w w':=by
 have hle:=h.le;have hwl:=h.wle;have hmWT:=mWTS;have hwt:=hasWTS;have hWl:=hW.lt;obtain⟨lb,ls,hb⟩:=h.blk;have f5:=hb.frozen 5;have f6:=hb.frozen 6;have p5:=hb.cell 5;have p6:=hb.cell 6;have H:=zH h;have HBB:=zH hb;have HW:=zH hW;clear h hb hW;go_enter Tryz.func244,Tryz.ntmps244;go_upto_region 3 with fail
 have hG1:Gr (fun k=>k=gb) w (World.setCell (World.setCell w ⟨gb,5,none⟩ (.int .i64 (-1))) ⟨gb,6,none⟩ (.int .i64 (-1))):=gr_set0 (gr_set0 (Gr.refl (fun k=>k=gb) w) gb 5 _ rfl) gb 6 _ rfl;have hb1:Blk (World.setCell (World.setCell w ⟨gb,5,none⟩ (.int .i64 (-1))) ⟨gb,6,none⟩ (.int .i64 (-1))) gb #[.slice (some ⟨gd,0,none⟩) 4096 4096,.iface 71 (.pointer (some ⟨gs,0,none⟩)),.int .i64 (r:Int),.int .i64 (q:Int),err,.int .i64 (-1),.int .i64 (-1)] 231:=((HBB.out.set_ 5 _).set_ 6 _).to (by simp);have hB1:BufAt (World.setCell (World.setCell w ⟨gb,5,none⟩ (.int .i64 (-1))) ⟨gb,6,none⟩ (.int .i64 (-1))) gb gd gs r q i err T S :=
  ⟨⟨-1,-1,hb1⟩,(hG1.block gd H.out.buf.lt H.out.nbd.symm).trans H.out.buf,H.out.len,H.out.rd.gr hG1 H.out.nbs.symm,H.out.le,H.out.wle,H.out.nbd,H.out.nbs,H.out.nds⟩
 have hW1:=HW.out.gr hG1 (fun k hk _ q=>by omega);clear p5 p6 f5 f6;generalize World.setCell (World.setCell w ⟨gb,5,none⟩ (.int .i64 (-1))) ⟨gb,6,none⟩ (.int .i64 (-1))=w1 at *
 have p2:=hb1.cell 2;have p3:=hb1.cell 3;have p1:=hb1.cell 1;have HB1:=zH hB1;have HG1:=zH hG1;have HW1:=zH hW1;have HBB1:=zH hb1;clear hb1 hB1 hG1 hW1;by_cases hrq:r < q
 ·have a1:(r:Int) < (q:Int):=by omega
  go_quiet (fail)
  go_upto_region 6 with(go_at_call 245;refine(c245S gb gd gs r q i gc g err T S L _ (HB1.out.drewN _) (HW1.out.drewN _) hlt (by omega)).mono ?_;rintro e w2⟨rfl,hB2,hW2,hG2⟩)
  have hDl:((T.take q).drop r).length<=4096:=by rw[List.length_drop,List.length_take];omega
  obtain⟨lb2,ls2,hb2⟩:=hB2.blk;clear p1 p2 p3;have p1:=hb2.cell 1;have HB2:=zH hB2;have HW2:=zH hW2;have HG2:Hid (Gr (fun k=>k=gb\/k=gd\/k=gs\/g<=k) w w2):=((HG1.out.drw _).mono fun k _ q=>.inl q).trans (hG2.mono fun k _ q=>q.elim .inl (fun q=>.inr (.inr (.inr q))));clear hB2 hW2 hG2 hb2;go_wp2_with (go_at_call 236;refine(c236S gs i gc g S _ _ (HB2.out.rd) HW2.out hlt.2.2 (by rw[zA];omega) hS).mono ?_;rintro e w3⟨rfl,hW3,hG3⟩);go_ret2
  exact⟨_,rfl,by rw[restOf,<-List.append_assoc];exact hW3,HG2.out.trans (hG3.mono fun k _ q=>q.elim (fun q=>.inr (.inr (.inl q))) (fun q=>.inr (.inr (.inr q))))⟩
 have a1:¬((r:Int) < (q:Int)):=by omega
 have hr0:restOf r q i T S=S.drop i:=by rw[restOf,List.drop_eq_nil_of_le (by rw[List.length_take];omega)];rfl
 have HR0:=zH hr0;clear hr0;go_quiet (fail)
 go_wp2_with (go_at_call 236;refine(c236S gs i gc g S _ _ (HB1.out.rd.drewN _) (HW1.out.drewN _) hlt.2.2 (by omega) hS).mono ?_;rintro e w3⟨rfl,hW3,hG3⟩);go_ret2
 exact⟨_,rfl,by rw[HR0.out];exact hW3,((HG1.out.drw _).mono fun k _ q=>.inl q).trans (hG3.mono fun k _ q=>q.elim (fun q=>.inr (.inr (.inl q))) (fun q=>.inr (.inr (.inr q))))⟩
theorem c245R(gb gd gs r q i gc g:Nat)(err:Value)(T S L:List UInt8)(w:World)(h:BufAt w gb gd gs r q i err T S)(hW:WrR w gc g L)(hlt:gb < g/\gd < g/\gs < g)(hL:L.length<=50000000) :
  Calls Tryz.prog 245 #[.pointer (some ⟨gb,0,none⟩),.iface 365 (.pointer (some ⟨gc,0,none⟩))] w fun e w'=>e=.returned (.tuple #[.int .i64 ((q - r:Nat):Int),.nilIface])/\BufAt w' gb gd gs q q i err T S/\WrR w' gc g (L++(T.take q).drop r)/\Gr (fun k=>k=gb\/g<=k) w w':=by
 have hle:=h.le;have hwl:=h.wle;obtain⟨lb,ls,hb⟩:=h.blk;have p0:=hb.cell 0;have p2:=hb.cell 2;have p3:=hb.cell 3;obtain⟨D,hD⟩:∃D,Hid ((T.take q).drop r=D):=⟨_,rfl⟩;obtain⟨n,hn⟩:∃n,Hid (q - r=n):=⟨_,rfl⟩;have hDl:Hid (D.length=n):=by unfold Hid;rw[<-hD.out,<-hn.out,List.length_drop,List.length_take,h.len];omega
 have HRD:Hid (RdB w (.slice (sAd gd 0 r 4096) (q - r) (4096 - r)) D):=by
  unfold Hid;rw[<-hD.out];exact RdB.sAd h.cell hle (by rw[h.len];exact hwl) (by rw[h.len];omega)
 have hsl:=slRun gd 0 4096 4096 r q hle hwl;have hgcg:=hW.lt;have hnc:=naR;have hmW:=mWrR;have H:=zH h;have HBB:=zH hb;have HW:=zH hW;have a1:¬((n:Int) < 0):=by omega
 have a2:IntKind.i64.wrap ((r:Int)+(n:Int))=(q:Int):=by have:=hn.out;rw[IntWalk.i64_in _ (by omega)];omega
 rw[hD.out,hn.out];clear h hb hW;go_enter Tryz.func245,Tryz.ntmps245;generalize hbv:Value.slice (some ⟨gd,0,none⟩) 4096 4096=bv at p0 hsl
 go_wp2;refine wp_quiet_call 17 22 (by kernel_rfl) (by kernel_rfl) rfl ?_;simp only[List.take_succ_cons,List.take_zero,List.drop_succ_cons,List.drop_zero];repeat(quiet_step (fail))
 refine wpQuiet_nil ?_;intro _ hw';obtain⟨nq,hw''⟩:=hw';subst hw'';go_wp2_with (go_at_call 294;refine(c294W gc g _ L D _ (HW.out.drewN nq) (HRD.out.drewN nq) (fun g' o n' c q=>by unfold sAd at q;injection q with q;injection q with q;injection q with q;omega) (by rw[hDl.out];have:=hn.out;omega) (by omega)).mono ?_;rintro e w2⟨rfl,hW2,hG2⟩;rw[hDl.out]);refine callQ_normal ?_;repeat(quiet_step (fail))
 refine wpQuiet_nil ?_;intro _ hw';obtain⟨nq2,hw''⟩:=hw';subst hw'';subst hbv;have hb2:=(hG2.block gb (show gb < (w.drewN _).heap.size from HBB.out.lt) (by omega)).trans HBB.out;clear p0 p2 p3 hsl;have p2:=Blk.cell hb2 2;have f2:=Blk.frozen hb2 2;have HG2:Hid (Gr (fun k=>k=gb\/g<=k) w w2):=(Gr.drw (Gr.refl _ w) _).trans (hG2.mono fun k _ q=>.inr q);have HW2:=zH hW2;have HB3:Hid (BufAt w2 gb gd gs r q i err T S):=(H.out.drewN _).gr hG2 (by omega) (by omega) (by omega);clear hb2 hG2 hW2;go_wp2;go_ret2
 have hB3:=HB3.out.drewN nq2;exact⟨rfl,hB3.setR (zR q),(HW2.out.drewN nq2).gr (gr_set0 (Z:=fun k=>k=gb) (Gr.refl _ _) gb 2 _ rfl) (fun k hk _ q=>by omega),gr_set0 (HG2.out.drw nq2) gb 2 _ (.inl rfl)⟩
theorem noSWR(p:Value)(W:World):(Instr.typeAssert (.iface 365 p) 206 261 true).run Tryz.prog W=.ok (.tuple #[.nilIface,.bool false]) W:=run_typeAssert_lacksB Tryz.underlying261 (by kernel_rfl) (by kernel_rfl) p 206 W
theorem c126R(gc g:Nat)(L m:List UInt8)(w:World)(hW:WrR w gc g L)(hL:L.length<=50000000)(hm:m.length<=50000000) :
  Calls Tryz.prog 126 #[.iface 365 (.pointer (some ⟨gc,0,none⟩)),.string (B m)] w fun e w'=>e=.returned (.tuple #[.int .i64 (m.length:Int),.nilIface])/\WrR w' gc g (L++m)/\Gr (fun k=>g<=k) w w':=by
 have hmW:=mWrR;have hsw:=noSWR;have hcv:=fun W=>Lib.run_convert_string_bytes (P:=Tryz.prog) W 9 33 5 (B m) Tryz.underlying9 Tryz.underlying33 Tryz.underlying5
 have hgl:=hW.lt;have hbw:Below w.heap.size w (Lib.bytesWorld w 5 (B m)):=below_bytes (zB _ _) (zR _) _;have HW:Hid (WrR (Lib.bytesWorld w 5 (B m)) gc g L):=hW.gr (S:=fun _=>False) (Gr.of_below hbw) (fun _ _ _ q=>q);have HO:Hid (OwnB (Lib.bytesWorld w 5 (B m)) w.heap.size (.slice (some ⟨w.heap.size,0,none⟩) (B m).size (grownCap w (B m).size 0 5)) m):=OwnB.conv w w.heap.size (zR _) (B m) (by rw[size_B];simp[maxLen];omega);have HB:=zH hbw;have hgc:gc < w.heap.size:=hW.ltc;clear hW hbw;go_enter Tryz.func126,Tryz.ntmps126;go_wp2_with (go_at_call 294;refine(c294W gc g _ L m _ HW.out HO.out.rdB (fun g' o n c q=>by injection q with q;injection q with q;injection q with q;omega) (by omega) (by omega)).mono ?_;rintro e w2⟨rfl,hW2,hG2⟩);go_ret2
 exact⟨rfl,hW2,(Gr.of_below HB.out).trans hG2⟩
theorem c236R(gs i gc g:Nat)(S L:List UInt8)(w:World)(h:StrR w gs i S)(hW:WrR w gc g L)(hlt:gs < g)(hL:L.length<=50000000)(hS:S.length<=50000000) :
  Calls Tryz.prog 236 #[.pointer (some ⟨gs,0,none⟩),.iface 365 (.pointer (some ⟨gc,0,none⟩))] w fun e w'=>e=.returned (.tuple #[.int .i64 ((S.length - i:Nat):Int),.nilIface])/\WrR w' gc g (L++S.drop i)/\Gr (fun k=>k=gs\/g<=k) w w':=by
 obtain⟨hi,pr,hb⟩:=h;have p0:=hb.cell 0;have p1:=hb.cell 1;have p2:=hb.cell 2;have f2:=hb.frozen 2;have HB:=zH hb;have HW:=zH hW;have hgl:=hW.lt;clear hb hW;by_cases hlt2:i < S.length
 ·have a1:¬(((B S).size:Int)<=(i:Int)):=by rw[size_B];omega
  have a2:(0:Int)<=(i:Int):=by omega
  have a3:(i:Int)<=((B S).size:Int):=by rw[size_B];omega
  obtain⟨n,hn⟩:∃n,Hid (S.length - i=n):=⟨_,rfl⟩;have hex:=drop_ext S i;have hdl:Hid ((S.drop i).length=n):=by unfold Hid;rw[List.length_drop,hn.out]
  have hsz:(((B (S.drop i)).size:Nat):Int)=(n:Int):=by rw[size_B,hdl.out]
  have e1:IntKind.i64.wrap ((i:Int)+(n:Int))=(S.length:Int):=by have:=hn.out;rw[IntWalk.i64_in _ (by omega)];omega
  have b1:¬((n:Int) < (n:Int)):=by omega
  have hbne:((n:Int) != (n:Int))=false:=by simp
  rw[hn.out];go_enter Tryz.func236,Tryz.ntmps236;go_wp2;go_quiet (fail)
  go_wp2;go_quiet (fail)
  clear p0 p1 p2 f2;have hb1:Blk (w.setCell ⟨gs,2,none⟩ (.int .i64 (-1))) gs #[.string (B S),.int .i64 (i:Int),.int .i64 (-1)] 124:=(HB.out.set_ 2 _).to (by simp);have hG1:Gr (fun k=>k=gs) w (w.setCell ⟨gs,2,none⟩ (.int .i64 (-1))):=gr_set0 (Gr.refl (fun k=>k=gs) w) gs 2 _ rfl;have hW1:WrR (w.setCell ⟨gs,2,none⟩ (.int .i64 (-1))) gc g L:=HW.out.gr hG1 (fun k hk _ q=>by omega);have HH1:=zH (And.intro hb1 (And.intro hG1 hW1));clear hb1 hG1 hW1;generalize w.setCell ⟨gs,2,none⟩ (.int .i64 (-1))=w1 at *
  go_upto_region 6 with(go_at_call 126;refine(c126R gc g L (S.drop i) _ (HH1.out.2.2.drewN _) hL (by rw[hdl.out];have:=hn.out;omega)).mono ?_;rintro e w2⟨rfl,hW2,hG2⟩;rw[hdl.out])
  have hb2:=(hG2.block gs (show gs < (w1.drewN _).heap.size from HH1.out.1.lt) (by omega)).trans HH1.out.1;have p1:=Blk.cell hb2 1;have f1:=Blk.frozen hb2 1;have HG3:Hid (Gr (fun k=>k=gs\/g<=k) w w2):=((HH1.out.2.1.drw _).mono fun k _ q=>.inl q).trans (hG2.mono fun k _ q=>.inr q);have HW2:=zH hW2;clear hb2 hG2 hW2;go_wp2;go_ret2
  exact⟨rfl,HW2.out.gr (gr_set0 (Z:=fun k=>k=gs) (Gr.refl _ _) gs 1 _ rfl) (fun k hk _ q=>by omega),gr_set0 HG3.out gs 1 _ (.inl rfl)⟩
 have a1:(((B S).size:Int)<=(i:Int)):=by rw[size_B];omega
 have hz:S.length - i=0:=by omega
 have hdz:S.drop i=[]:=List.drop_eq_nil_of_le (by omega);rw[hz,hdz,List.append_nil];clear hz hdz;go_enter Tryz.func236,Tryz.ntmps236;go_wp2;go_quiet (fail)
 go_wp2;go_ret2
 have hG1:Gr (fun k=>k=gs) w (w.setCell ⟨gs,2,none⟩ (.int .i64 (-1))):=gr_set0 (Gr.refl (fun k=>k=gs) w) gs 2 _ rfl;exact⟨rfl,HW.out.gr (hG1.drw nq) (fun k hk _ q=>by omega),(hG1.drw nq).mono fun k _ q=>.inl q⟩
theorem hasWTR(p:Value)(W:World):(Instr.typeAssert (.iface 71 p) 106 274 true).run Tryz.prog W=.ok (.tuple #[.iface 71 p,.bool true]) W:=run_typeAssert_hasB Tryz.underlying274 (by kernel_rfl) p 106 W
theorem mWTR(p:Addr)(w:World):(method 488 71 (.pointer (some p)) "WriteTo").run Tryz.prog w=.ok (236,.pointer (some p)) w:=by kernel_rfl
theorem c244R(gb gd gs r q i gc g:Nat)(err:Value)(T S L:List UInt8)(w:World)(h:BufAt w gb gd gs r q i err T S)(hW:WrR w gc g L)(hlt:gb < g/\gd < g/\gs < g)(hL:L.length<=40000000)(hS:S.length<=50000000) :
  Calls Tryz.prog 244 #[.pointer (some ⟨gb,0,none⟩),.iface 365 (.pointer (some ⟨gc,0,none⟩))] w fun e w'=>∃n:Int,e=.returned (.tuple #[.int .i64 n,.nilIface])/\WrR w' gc g (L++restOf r q i T S)/\Gr (fun k=>k=gb\/k=gd\/k=gs\/g<=k) w w':=by
 have hle:=h.le;have hwl:=h.wle;have hmWT:=mWTR;have hwt:=hasWTR;have hWl:=hW.lt;obtain⟨lb,ls,hb⟩:=h.blk;have f5:=hb.frozen 5;have f6:=hb.frozen 6;have p5:=hb.cell 5;have p6:=hb.cell 6;have H:=zH h;have HBB:=zH hb;have HW:=zH hW;clear h hb hW;go_enter Tryz.func244,Tryz.ntmps244;go_upto_region 3 with fail
 have hG1:Gr (fun k=>k=gb) w (World.setCell (World.setCell w ⟨gb,5,none⟩ (.int .i64 (-1))) ⟨gb,6,none⟩ (.int .i64 (-1))):=gr_set0 (gr_set0 (Gr.refl (fun k=>k=gb) w) gb 5 _ rfl) gb 6 _ rfl;have hb1:Blk (World.setCell (World.setCell w ⟨gb,5,none⟩ (.int .i64 (-1))) ⟨gb,6,none⟩ (.int .i64 (-1))) gb #[.slice (some ⟨gd,0,none⟩) 4096 4096,.iface 71 (.pointer (some ⟨gs,0,none⟩)),.int .i64 (r:Int),.int .i64 (q:Int),err,.int .i64 (-1),.int .i64 (-1)] 231:=((HBB.out.set_ 5 _).set_ 6 _).to (by simp);have hB1:BufAt (World.setCell (World.setCell w ⟨gb,5,none⟩ (.int .i64 (-1))) ⟨gb,6,none⟩ (.int .i64 (-1))) gb gd gs r q i err T S :=
  ⟨⟨-1,-1,hb1⟩,(hG1.block gd H.out.buf.lt H.out.nbd.symm).trans H.out.buf,H.out.len,H.out.rd.gr hG1 H.out.nbs.symm,H.out.le,H.out.wle,H.out.nbd,H.out.nbs,H.out.nds⟩
 have hW1:=HW.out.gr hG1 (fun k hk _ q=>by omega);clear p5 p6 f5 f6;generalize World.setCell (World.setCell w ⟨gb,5,none⟩ (.int .i64 (-1))) ⟨gb,6,none⟩ (.int .i64 (-1))=w1 at *
 have p2:=hb1.cell 2;have p3:=hb1.cell 3;have p1:=hb1.cell 1;have HB1:=zH hB1;have HG1:=zH hG1;have HW1:=zH hW1;have HBB1:=zH hb1;clear hb1 hB1 hG1 hW1;by_cases hrq:r < q
 ·have a1:(r:Int) < (q:Int):=by omega
  go_quiet (fail)
  go_upto_region 6 with(go_at_call 245;refine(c245R gb gd gs r q i gc g err T S L _ (HB1.out.drewN _) (HW1.out.drewN _) hlt (by omega)).mono ?_;rintro e w2⟨rfl,hB2,hW2,hG2⟩)
  have hDl:((T.take q).drop r).length<=4096:=by rw[List.length_drop,List.length_take];omega
  obtain⟨lb2,ls2,hb2⟩:=hB2.blk;clear p1 p2 p3;have p1:=hb2.cell 1;have HB2:=zH hB2;have HW2:=zH hW2;have HG2:Hid (Gr (fun k=>k=gb\/k=gd\/k=gs\/g<=k) w w2):=((HG1.out.drw _).mono fun k _ q=>.inl q).trans (hG2.mono fun k _ q=>q.elim .inl (fun q=>.inr (.inr (.inr q))));clear hB2 hW2 hG2 hb2;go_wp2_with (go_at_call 236;refine(c236R gs i gc g S _ _ (HB2.out.rd) HW2.out hlt.2.2 (by rw[zA];omega) hS).mono ?_;rintro e w3⟨rfl,hW3,hG3⟩);go_ret2
  exact⟨_,rfl,by rw[restOf,<-List.append_assoc];exact hW3,HG2.out.trans (hG3.mono fun k _ q=>q.elim (fun q=>.inr (.inr (.inl q))) (fun q=>.inr (.inr (.inr q))))⟩
 have a1:¬((r:Int) < (q:Int)):=by omega
 have hr0:restOf r q i T S=S.drop i:=by rw[restOf,List.drop_eq_nil_of_le (by rw[List.length_take];omega)];rfl
 have HR0:=zH hr0;clear hr0;go_quiet (fail)
 go_wp2_with (go_at_call 236;refine(c236R gs i gc g S _ _ (HB1.out.rd.drewN _) (HW1.out.drewN _) hlt.2.2 (by omega) hS).mono ?_;rintro e w3⟨rfl,hW3,hG3⟩);go_ret2
 exact⟨_,rfl,by rw[HR0.out];exact hW3,((HG1.out.drw _).mono fun k _ q=>.inl q).trans (hG3.mono fun k _ q=>q.elim (fun q=>.inr (.inr (.inl q))) (fun q=>.inr (.inr (.inr q))))⟩
end Go.Proofs.YtnkihlpmmfeioaaGreatDoor
