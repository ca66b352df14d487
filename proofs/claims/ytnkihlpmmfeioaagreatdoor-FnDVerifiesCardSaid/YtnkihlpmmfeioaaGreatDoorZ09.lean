/- Part of the proof that laws.FnDVerifies answers true: A16,A37 -/
import Derived.Test.YtnkihlpmmfeioaaGreatDoorZ08
set_option linter.unusedVariables false
set_option linter.unusedSimpArgs false
set_option maxRecDepth 1000000
set_option maxHeartbeats 16000000
namespace Go.Proofs.YtnkihlpmmfeioaaGreatDoor
open Go.RowKit
theorem c32o(s:ByteArray)(w:World)(hs:s.size<=1073741824) :
  Calls Tryz.prog 32 #[.string s] w fun e w'=>∃v,e=.returned (.tuple #[v,.bool (tagsM (split 59 s.data.toList) []).isSome])/\(∃base,OwnP w' base v ((tagsM (split 59 s.data.toList) []).getD [])/\((tagsM (split 59 s.data.toList) []).getD []).length<=1152921504606846976)/\Below w.heap.size w w':=by
 obtain⟨R,hR⟩:∃R,Hid (tagsM (split 59 s.data.toList) []=R):=⟨_,rfl⟩;have hpl:=split_len 59 s.data.toList;have hpa:=split_allLe 59 s.data.toList;rw[size_L]at hpl hpa;rw[hR.out];go_enter Tryz.func32,Tryz.ntmps32;obtain⟨parts,hparts⟩:∃parts,Hid (split 59 s.data.toList=parts):=⟨_,rfl⟩;rw[hparts.out]at hR hpl hpa;go_wp2_with (go_at_call 31;refine(c31 _ _ _ hs).mono ?_;rintro e w1⟨v,rfl,ho1,hb1⟩;rw[hparts.out]at ho1;obtain⟨A,c,rfl,hc,hA⟩:=ho1.slice;rw[List.length_map]at hc hA;rw[List.length_map]);have HA:=zH hA;have HB1:=zH hb1;clear hA ho1 hb1;go_loopg [4,15] parts.length (fun g v j w'=>∃i:Nat,∃acc:List Pair,j=.int .i64 i/\i<=parts.length/\Hid (i+g=parts.length)/\Hid (tagsM (parts.drop i) acc=R)/\Hid (acc.length<=i)/\Hid (OwnP w' w1.heap.size v acc)/\Hid (Below w1.heap.size w1 w'))
 case atStart=>exact⟨0,[],rfl,Nat.zero_le _,Nat.zero_add _,hR.out,zR _,OwnP.nil _ _,zB _ _⟩
 obtain⟨i,acc,rfl,hi,hk,hp,hal,ho,hb⟩:=hrel;by_cases hlt:i < parts.length
 ·obtain⟨gp,rfl,_,hgl,hcn⟩:=HA.out (by omega)
  have hcn0:=hcn i (strV parts[i]) (by rw[List.getElem?_map,zG hlt];rfl);have hcni:=(hb.out.cell (p:=⟨gp,i,none⟩) (cell_lt hcn0)).trans hcn0;clear hcn hcn0;obtain⟨p,hpE⟩:∃p:List UInt8,Hid (parts[i]=p):=⟨parts[i],zH rfl⟩;have hp1:=hp.out;rw[List.drop_eq_getElem_cons hlt,tagsM,hpE.out]at hp1;have hps:=hpa _ (List.getElem_mem hlt);rw[hpE.out]at hcni hps;have hpB:(B p).size<=1073741824:=by rw[size_B];omega
  have hAl:(B (cutA 61 p)).size<=1073741824:=by have:=cutA_le 61 p;rw[size_B]at hpB ⊢;omega
  have hZl:(B (cutZ 61 p)).size<=1073741824:=by have:=cutZ_le 61 p;rw[size_B]at hpB ⊢;omega
  unfold strV at hcni;clear hp hps;by_cases hf:cutF 61 p=true
  ·rw[if_pos hf]at hp1
   have HP:=zH hp1;clear hp1;have hfH:=zH hf;go_wp2_with (first
    |(go_at_call 55;refine(c55p _ _ _ (by omega)).mono ?_;rintro e w2⟨rfl,hb2⟩)
    |(go_at_call 56;refine(c56p _ _ (by first|omega|exact zT hAl (by decide)|exact zT hZl (by decide))).mono ?_;rintro e w3⟨rfl,hb3⟩;replace hb2:=bthen hb2 hb3))
   obtain⟨t,ht⟩:∃t,Hid (trim (cutA 61 p)=t):=⟨_,rfl⟩;obtain⟨tv,htv⟩:∃tv,Hid (trim (cutZ 61 p)=tv):=⟨_,rfl⟩;rw[ht.out,htv.out]at HP ⊢;obtain⟨WX,hWX⟩:∃W,W=w3.alloc (.cells #[.string (B t),.string (B tv)] 101):=⟨_,rfl⟩;have hbX:Below wr.heap.size wr WX:=by rw[hWX];exact hb2.alloc hb2.size _
   have hx0:WX.cell? ⟨w3.heap.size,0,none⟩=some (.string (B t)):=by rw[hWX];exact cell_of_row _ _ 0 _ _ _ (heap_alloc_new w3 _)
   have hx1:WX.cell? ⟨w3.heap.size,1,none⟩=some (.string (B tv)):=by rw[hWX];exact cell_of_row _ _ 1 _ _ _ (heap_alloc_new w3 _)
   have hoX:=zH (ho.out.below hbX);rw[<-hWX];clear hWX hcni ho;generalize w3.heap.size=gx at *
   obtain⟨At,ct,rfl,hct,hAt⟩:=hoX.out.slice;have HAt:=zH hAt;have HbX:=zH hbX;clear hAt hbX hb2 hb3;have hbnd:acc.length<=1073741825:=by have:=hal.out;omega
   go_loopg [11] acc.length (fun g j w'=>∃k:Nat,j=.int .i64 k/\k<=acc.length/\k<=insAt t acc/\Hid (k+g=acc.length)/\Hid (Below WX.heap.size WX w'))
   case atStart=>exact⟨0,rfl,Nat.zero_le _,Nat.zero_le _,Nat.zero_add _,zB _ _⟩
   obtain⟨k,rfl,hka,hki,hkg,hbk⟩:=hrel;have ex0:=(hbk.out.cell (cell_lt hx0)).trans hx0;by_cases hka2:k < acc.length
   ·obtain⟨gt,rfl,_,hgtl,hcc⟩:=HAt.out (by omega)
    have hcc0:=(hcc k acc[k] (zG hka2)).1;have ec0:=(hbk.out.cell (cell_lt hcc0)).trans hcc0;unfold strV at ec0;clear hcc hcc0;cases hless:Op.bytesLess (B acc[k].1).toList (B t).toList with
    |true =>
     have hkn:=insAt_more hki (zG hka2) hless;go_wp2;go_quiet (fail)
     go_wp2;go_roundg (acc.length - k - 1)
     case measure=>have:=hkg.out;omega
     case rel=>exact⟨k+1,by go_num,by omega,hkn,(by have:=hkg.out;unfold Hid;omega),below_drewN hbk.out _⟩
    |false =>
     have hkn:=insAt_here hki (zG hka2) hless;have hbq:=beq_str (B acc[k].1) (B t);rw[L_B,L_B]at hbq;have hq0:=HP.out;unfold insP at hq0;simp only[<-hkn,zG hka2,Option.map_some,Option.some.injEq]at hq0;by_cases heq:acc[k].1=t
     ·rw[if_pos heq]at hq0
      subst hq0;rw[zE heq]at hbq;clear hkn heq;go_wp2;go_quiet (fail)
      go_wp2;go_quiet (fail)
      go_wp2;go_ret2
      first|exact⟨_,rfl,⟨0,OwnP.nil _ _⟩,bthen HB1.out (below_then hb.out hb.out.size (bthen HbX.out (below_drewN hbk.out _)))⟩|exact⟨_,rfl,⟨0,OwnP.nil _ _,Nat.zero_le _⟩,bthen HB1.out (below_then hb.out hb.out.size (bthen HbX.out (below_drewN hbk.out _)))⟩
     rw[if_neg heq]at hq0;have HQ:=zH hq0;rw[zF heq]at hbq;clear hkn heq hq0;go_wp2;go_quiet (fail)
     go_wp2;go_quiet (fail)
     go_wp2;have ex1:=(hbk.out.cell (cell_lt hx1)).trans hx1;have hxl:=cell_lt ex0;have hWH:WX.heap.size<=wr.heap.size:=hbk.out.size;have hbk1:(0:Int)<=(k:Int):=Int.natCast_nonneg _;have hbk2:(k:Int)<=(acc.length:Int):=by omega
     have hbk3:(acc.length:Int)<=(ct:Int):=by omega
     have hbk4:(k:Int)<=(ct:Int):=by omega
     have hbk5:k<=ct:=by omega
     have hbk6:¬ct=k:=by omega
     have src1:∀W',Below wr.heap.size wr W'->0 < k->∃ad,(some (⟨gt,0,none⟩:Addr))=some ad/\∀j u,(pcells (acc.take k))[j]?=some u->W'.cell? (ad.add j)=some u:=by
      intro W' hW' hp;rcases hoX.out.two with⟨h1,_,_⟩|⟨g',h1,_,hgl',hcl⟩
      ·cases h1
      injection h1 with h1;injection h1 with h1;subst h1
      refine⟨_,rfl,fun j u hu=>?_⟩;rw[pcells_take,List.getElem?_take]at hu;split at hu
      ·rw[add_lit',Nat.zero_add]
       have q:=hcl j u hu;have q2:=(hbk.out.cell (p:=⟨gt,j,none⟩) hgl').trans q;exact(hW'.cell (cell_lt q2)).trans q2
      cases hu
     have src3:∀W',Below wr.heap.size wr W'->0 < acc.length - k->∃ad,(some (⟨gt,k*2,none⟩:Addr))=some ad/\∀j u,(pcells (acc.drop k))[j]?=some u->W'.cell? (ad.add j)=some u:=by
      intro W' hW' hp;rcases hoX.out.two with⟨h1,_,_⟩|⟨g',h1,_,hgl',hcl⟩
      ·cases h1
      injection h1 with h1;injection h1 with h1;subst h1
      refine⟨_,rfl,fun j u hu=>?_⟩;rw[pcells_drop,List.getElem?_drop]at hu;rw[add_lit'];have q:=hcl _ u hu;have q2:=(hbk.out.cell (p:=⟨gt,_,none⟩) hgl').trans q;exact(hW'.cell (cell_lt q2)).trans q2
     have hl1:(acc.take k).length=k:=by rw[List.length_take];omega
     have hl3:(acc.drop k).length=acc.length - k:=List.length_drop;have hn1:(([]:List Pair).length+(acc.take k).length)*32<=140737488355328:=by simp;try omega
     have hn2:(([]++(acc.take k)).length+1)*32<=140737488355328:=by simp;try omega
     have hn3:(([]++(acc.take k)++[(t,tv)]).length+(acc.drop k).length)*32<=140737488355328:=by simp;try omega
     go_region_held3 (fun w'=>w'.cell? ⟨gx,0,none⟩=some (.string (B t))/\w'.cell? ⟨gx,1,none⟩=some (.string (B tv)))
      (first
       |go_keep
       |(go_split_ands;exact⟨(hL3.cell hxl).trans ex0,(hL3.cell (p:=⟨gx,1,none⟩) hxl).trans ex1⟩)
       |(go_split_ands;exact⟨(hL2.cell hxl).trans ex0,(hL2.cell (p:=⟨gx,1,none⟩) hxl).trans ex1⟩)
       |(go_split_ands;exact⟨((below_al hL1 _).cell hxl).trans ex0,((below_al hL1 _).cell (p:=⟨gx,1,none⟩) hxl).trans ex1⟩)
       |(go_split_ands;exact⟨(hL1.cell hxl).trans ex0,(hL1.cell (p:=⟨gx,1,none⟩) hxl).trans ex1⟩))
      (first
       |(refine step_appP (s:=.tmp 65) (x:=.tmp 68) (base:=wr.heap.size) (news:=(acc.take k)) (by rfl) (by rfl) (by rfl) (lit_nil' _ _ _ (by omega) (by first|exact hp_new _ _ _ (by simp)|exact hp_old _ _ _ _ (hp_new _ _ _ (by simp)))) (by rfl) hl1 (src1 _ (by repeat(first|exact below_drewN (zB _ _) _|refine below_al ?_ _))) (by first|exact hn1|(simp at hn1 ⊢;omega)) (by simp;try omega) ?_
         intro v1 wa hO1 hB1 hG1;have hL1:=hB1 wr (by repeat(first|exact below_drewN (zB _ _) _|refine below_al ?_ _)))
       |(refine step_appP (s:=.tmp 69) (x:=.tmp 71) (base:=wr.heap.size) (news:=[(t,tv)]) (by rfl) (by rfl) (by rfl) (by first|exact hO1|exact hO1.alloc _) (by rfl) rfl (fun _=>⟨_,rfl,World.news_of_block (cs:=#[.string (B t),.string (B tv)]) (t:=101) (fr:=(0,0)) (by first|exact hp_new _ _ _ (by simp)|exact(hG1.block _ (by simp <;> omega) (by simp[Value.ownBlock])).trans (by first|exact hp_new _ _ _ (by simp)|exact hp_old _ _ _ _ (hp_new _ _ _ (by simp))))⟩) hn2 (by first|exact hL1.size|exact(below_al hL1 _).size) ?_
         intro v2 wb hO2 hB2 hG2;have hL2:=hB2 wr (by first|exact hL1|exact below_al hL1 _))
       |(refine step_appP (s:=.tmp 72) (x:=.tmp 75) (base:=wr.heap.size) (news:=(acc.drop k)) (A:=some (⟨gt,k*2,none⟩:Addr)) (m:=acc.length - k) (c:=ct - k) (by rfl) (by rfl) (by rfl) hO2 (by rfl) hl3 (src3 _ hL2) (by first|exact hn3|(simp at hn3 ⊢;omega)) hL2.size ?_
         intro v3 wc hO3 hB3 hG3;have hL3:=hB3 wr hL2))
     all_goals
      go_wp2;go_roundg (parts.length - i - 1)
      case measure=>have:=hk.out;omega
      case rel =>
       have hk0:=hk.out;have hal0:=hal.out;refine⟨i+1,(acc.take k)++(t,tv)::(acc.drop k),by go_num,by omega,(by unfold Hid;omega),(by exact HQ.out),(by unfold Hid;simp;try omega),?_,bthen hb.out (bthen HbX.out (bthen hbk.out hL3))⟩;have hO4:=hO3.mono (bthen hb.out (bthen HbX.out hbk.out)).size
       rwa [List.nil_append,List.append_assoc]at hO4
   obtain rfl:k=acc.length:=by omega
   have hkn:acc.length=insAt t acc:=by have:=insAt_le t acc;omega
   have hq0:=HP.out;unfold insP at hq0;simp only[<-hkn,List.getElem?_eq_none (zR acc.length),Option.map_none]at hq0;rw[if_neg (by simp)]at hq0;have HQ:=zH hq0;clear hkn hq0;rcases hoX.out.two with⟨rfl,rfl,rfl⟩|⟨gt,rfl,_,hgtl,hcl⟩
   ·go_wp2
    go_quiet (fail)
    go_wp2;go_quiet (fail)
    go_wp2;have ex1:=(hbk.out.cell (cell_lt hx1)).trans hx1;have hxl:=cell_lt ex0;have hWH:WX.heap.size<=wr.heap.size:=hbk.out.size;have hn1:(([]:List Pair).length+([]:List Pair).length)*32<=140737488355328:=by simp;try omega
    have hn2:(([]++([]:List Pair)).length+1)*32<=140737488355328:=by simp;try omega
    have hn3:(([]++([]:List Pair)++[(t,tv)]).length+([]:List Pair).length)*32<=140737488355328:=by simp;try omega
    go_region_held3 (fun w'=>w'.cell? ⟨gx,0,none⟩=some (.string (B t))/\w'.cell? ⟨gx,1,none⟩=some (.string (B tv)))
     (first
      |go_keep
      |(go_split_ands;exact⟨(hL3.cell hxl).trans ex0,(hL3.cell (p:=⟨gx,1,none⟩) hxl).trans ex1⟩)
      |(go_split_ands;exact⟨(hL2.cell hxl).trans ex0,(hL2.cell (p:=⟨gx,1,none⟩) hxl).trans ex1⟩)
      |(go_split_ands;exact⟨((below_al hL1 _).cell hxl).trans ex0,((below_al hL1 _).cell (p:=⟨gx,1,none⟩) hxl).trans ex1⟩)
      |(go_split_ands;exact⟨(hL1.cell hxl).trans ex0,(hL1.cell (p:=⟨gx,1,none⟩) hxl).trans ex1⟩))
     (first
      |(refine step_appP (s:=.tmp 65) (x:=.tmp 68) (base:=wr.heap.size) (news:=([]:List Pair)) (by rfl) (by rfl) (by rfl) (lit_nil' _ _ _ (by omega) (by first|exact hp_new _ _ _ (by simp)|exact hp_old _ _ _ _ (hp_new _ _ _ (by simp)))) (by rfl) rfl (fun h=>absurd h (by simp)) (by first|exact hn1|(simp at hn1 ⊢;omega)) (by simp;try omega) ?_
        intro v1 wa hO1 hB1 hG1;have hL1:=hB1 wr (by repeat(first|exact below_drewN (zB _ _) _|refine below_al ?_ _)))
      |(refine step_appP (s:=.tmp 69) (x:=.tmp 71) (base:=wr.heap.size) (news:=[(t,tv)]) (by rfl) (by rfl) (by rfl) (by first|exact hO1|exact hO1.alloc _) (by rfl) rfl (fun _=>⟨_,rfl,World.news_of_block (cs:=#[.string (B t),.string (B tv)]) (t:=101) (fr:=(0,0)) (by first|exact hp_new _ _ _ (by simp)|exact(hG1.block _ (by simp <;> omega) (by simp[Value.ownBlock])).trans (by first|exact hp_new _ _ _ (by simp)|exact hp_old _ _ _ _ (hp_new _ _ _ (by simp))))⟩) hn2 (by first|exact hL1.size|exact(below_al hL1 _).size) ?_
        intro v2 wb hO2 hB2 hG2;have hL2:=hB2 wr (by first|exact hL1|exact below_al hL1 _))
      |(refine step_appP (s:=.tmp 72) (x:=.tmp 75) (base:=wr.heap.size) (news:=([]:List Pair))  (by rfl) (by rfl) (by rfl) hO2 (by rfl) rfl (fun h=>absurd h (by simp)) (by first|exact hn3|(simp at hn3 ⊢;omega)) hL2.size ?_
        intro v3 wc hO3 hB3 hG3;have hL3:=hB3 wr hL2))
    all_goals
     go_wp2;go_roundg (parts.length - i - 1)
     case measure=>have:=hk.out;omega
     case rel =>
      have hk0:=hk.out;have hal0:=hal.out;refine⟨i+1,([]:List Pair)++(t,tv)::([]:List Pair),by go_num,by omega,(by unfold Hid;omega),(by exact HQ.out),(by unfold Hid;simp;try omega),?_,bthen hb.out (bthen HbX.out (bthen hbk.out hL3))⟩;have hO4:=hO3.mono (bthen hb.out (bthen HbX.out hbk.out)).size
      rwa [List.nil_append,List.append_assoc]at hO4
   by_cases hcc:ct=acc.length
   ·go_wp2
    go_quiet (fail)
    go_wp2;go_quiet (fail)
    go_wp2;have ex1:=(hbk.out.cell (cell_lt hx1)).trans hx1;have hxl:=cell_lt ex0;have hWH:WX.heap.size<=wr.heap.size:=hbk.out.size;have hbk1:(0:Int)<=(acc.length:Int):=Int.natCast_nonneg _;have hbk2:(acc.length:Int)<=(acc.length:Int):=by omega
    have hbk4:(acc.length:Int)<=(ct:Int):=by omega
    have src1:∀W',Below wr.heap.size wr W'->0 < acc.length->∃ad,(some (⟨gt,0,none⟩:Addr))=some ad/\∀j u,(pcells acc)[j]?=some u->W'.cell? (ad.add j)=some u:=by
     intro W' hW' hp;refine⟨_,rfl,fun j u hu=>?_⟩;rw[add_lit',Nat.zero_add];have q:=hcl j u hu;have q2:=(hbk.out.cell (p:=⟨gt,j,none⟩) hgtl).trans q;exact(hW'.cell (cell_lt q2)).trans q2
    have hn1:(([]:List Pair).length+acc.length)*32<=140737488355328:=by simp;try omega
    have hn2:(([]++acc).length+1)*32<=140737488355328:=by simp;try omega
    have hn3:(([]++acc++[(t,tv)]).length+([]:List Pair).length)*32<=140737488355328:=by simp;try omega
    go_region_held3 (fun w'=>w'.cell? ⟨gx,0,none⟩=some (.string (B t))/\w'.cell? ⟨gx,1,none⟩=some (.string (B tv)))
     (first
      |go_keep
      |(go_split_ands;exact⟨(hL3.cell hxl).trans ex0,(hL3.cell (p:=⟨gx,1,none⟩) hxl).trans ex1⟩)
      |(go_split_ands;exact⟨(hL2.cell hxl).trans ex0,(hL2.cell (p:=⟨gx,1,none⟩) hxl).trans ex1⟩)
      |(go_split_ands;exact⟨((below_al hL1 _).cell hxl).trans ex0,((below_al hL1 _).cell (p:=⟨gx,1,none⟩) hxl).trans ex1⟩)
      |(go_split_ands;exact⟨(hL1.cell hxl).trans ex0,(hL1.cell (p:=⟨gx,1,none⟩) hxl).trans ex1⟩))
     (first
      |(refine step_appP (s:=.tmp 65) (x:=.tmp 68) (base:=wr.heap.size) (news:=acc) (by rfl) (by rfl) (by rfl) (lit_nil' _ _ _ (by omega) (by first|exact hp_new _ _ _ (by simp)|exact hp_old _ _ _ _ (hp_new _ _ _ (by simp)))) (by rfl) rfl (src1 _ (by repeat(first|exact below_drewN (zB _ _) _|refine below_al ?_ _))) (by first|exact hn1|(simp at hn1 ⊢;omega)) (by simp;try omega) ?_
        intro v1 wa hO1 hB1 hG1;have hL1:=hB1 wr (by repeat(first|exact below_drewN (zB _ _) _|refine below_al ?_ _)))
      |(refine step_appP (s:=.tmp 69) (x:=.tmp 71) (base:=wr.heap.size) (news:=[(t,tv)]) (by rfl) (by rfl) (by rfl) (by first|exact hO1|exact hO1.alloc _) (by rfl) rfl (fun _=>⟨_,rfl,World.news_of_block (cs:=#[.string (B t),.string (B tv)]) (t:=101) (fr:=(0,0)) (by first|exact hp_new _ _ _ (by simp)|exact(hG1.block _ (by simp <;> omega) (by simp[Value.ownBlock])).trans (by first|exact hp_new _ _ _ (by simp)|exact hp_old _ _ _ _ (hp_new _ _ _ (by simp))))⟩) hn2 (by first|exact hL1.size|exact(below_al hL1 _).size) ?_
        intro v2 wb hO2 hB2 hG2;have hL2:=hB2 wr (by first|exact hL1|exact below_al hL1 _))
      |(refine step_appP (s:=.tmp 72) (x:=.tmp 75) (base:=wr.heap.size) (news:=([]:List Pair))  (by rfl) (by rfl) (by rfl) hO2 (by rfl) (by simp) (fun h=>absurd h (by simp)) (by first|exact hn3|(simp at hn3 ⊢;omega)) hL2.size ?_
        intro v3 wc hO3 hB3 hG3;have hL3:=hB3 wr hL2))
    all_goals
     go_wp2;go_roundg (parts.length - i - 1)
     case measure=>have:=hk.out;omega
     case rel =>
      have hk0:=hk.out;have hal0:=hal.out;refine⟨i+1,acc++(t,tv)::([]:List Pair),by go_num,by omega,(by unfold Hid;omega),(by have:=HQ.out;rw[List.take_length,List.drop_length]at this;exact this),(by unfold Hid;simp;try omega),?_,bthen hb.out (bthen HbX.out (bthen hbk.out hL3))⟩;have hO4:=hO3.mono (bthen hb.out (bthen HbX.out hbk.out)).size
      rwa [List.nil_append,List.append_assoc]at hO4
   go_wp2;go_quiet (fail)
   go_wp2;go_quiet (fail)
   go_wp2;have ex1:=(hbk.out.cell (cell_lt hx1)).trans hx1;have hxl:=cell_lt ex0;have hWH:WX.heap.size<=wr.heap.size:=hbk.out.size;have hbk1:(0:Int)<=(acc.length:Int):=Int.natCast_nonneg _;have hbk2:(acc.length:Int)<=(acc.length:Int):=by omega
   have hbk4:(acc.length:Int)<=(ct:Int):=by omega
   have src1:∀W',Below wr.heap.size wr W'->0 < acc.length->∃ad,(some (⟨gt,0,none⟩:Addr))=some ad/\∀j u,(pcells acc)[j]?=some u->W'.cell? (ad.add j)=some u:=by
    intro W' hW' hp;refine⟨_,rfl,fun j u hu=>?_⟩;rw[add_lit',Nat.zero_add];have q:=hcl j u hu;have q2:=(hbk.out.cell (p:=⟨gt,j,none⟩) hgtl).trans q;exact(hW'.cell (cell_lt q2)).trans q2
   have hn1:(([]:List Pair).length+acc.length)*32<=140737488355328:=by simp;try omega
   have hn2:(([]++acc).length+1)*32<=140737488355328:=by simp;try omega
   have hn3:(([]++acc++[(t,tv)]).length+([]:List Pair).length)*32<=140737488355328:=by simp;try omega
   go_region_held3 (fun w'=>w'.cell? ⟨gx,0,none⟩=some (.string (B t))/\w'.cell? ⟨gx,1,none⟩=some (.string (B tv)))
    (first
     |go_keep
     |(go_split_ands;exact⟨(hL3.cell hxl).trans ex0,(hL3.cell (p:=⟨gx,1,none⟩) hxl).trans ex1⟩)
     |(go_split_ands;exact⟨(hL2.cell hxl).trans ex0,(hL2.cell (p:=⟨gx,1,none⟩) hxl).trans ex1⟩)
     |(go_split_ands;exact⟨((below_al hL1 _).cell hxl).trans ex0,((below_al hL1 _).cell (p:=⟨gx,1,none⟩) hxl).trans ex1⟩)
     |(go_split_ands;exact⟨(hL1.cell hxl).trans ex0,(hL1.cell (p:=⟨gx,1,none⟩) hxl).trans ex1⟩))
    (first
     |(refine step_appP (s:=.tmp 65) (x:=.tmp 68) (base:=wr.heap.size) (news:=acc) (by rfl) (by rfl) (by rfl) (lit_nil' _ _ _ (by omega) (by first|exact hp_new _ _ _ (by simp)|exact hp_old _ _ _ _ (hp_new _ _ _ (by simp)))) (by rfl) rfl (src1 _ (by repeat(first|exact below_drewN (zB _ _) _|refine below_al ?_ _))) (by first|exact hn1|(simp at hn1 ⊢;omega)) (by simp;try omega) ?_
       intro v1 wa hO1 hB1 hG1;have hL1:=hB1 wr (by repeat(first|exact below_drewN (zB _ _) _|refine below_al ?_ _)))
     |(refine step_appP (s:=.tmp 69) (x:=.tmp 71) (base:=wr.heap.size) (news:=[(t,tv)]) (by rfl) (by rfl) (by rfl) (by first|exact hO1|exact hO1.alloc _) (by rfl) rfl (fun _=>⟨_,rfl,World.news_of_block (cs:=#[.string (B t),.string (B tv)]) (t:=101) (fr:=(0,0)) (by first|exact hp_new _ _ _ (by simp)|exact(hG1.block _ (by simp <;> omega) (by simp[Value.ownBlock])).trans (by first|exact hp_new _ _ _ (by simp)|exact hp_old _ _ _ _ (hp_new _ _ _ (by simp))))⟩) hn2 (by first|exact hL1.size|exact(below_al hL1 _).size) ?_
       intro v2 wb hO2 hB2 hG2;have hL2:=hB2 wr (by first|exact hL1|exact below_al hL1 _))
     |(refine step_appP (s:=.tmp 72) (x:=.tmp 75) (base:=wr.heap.size) (news:=([]:List Pair))  (by rfl) (by rfl) (by rfl) hO2 (by rfl) (by simp) (fun h=>absurd h (by simp)) (by first|exact hn3|(simp at hn3 ⊢;omega)) hL2.size ?_
       intro v3 wc hO3 hB3 hG3;have hL3:=hB3 wr hL2))
   all_goals
    go_wp2;go_roundg (parts.length - i - 1)
    case measure=>have:=hk.out;omega
    case rel =>
     have hk0:=hk.out;have hal0:=hal.out;refine⟨i+1,acc++(t,tv)::([]:List Pair),by go_num,by omega,(by unfold Hid;omega),(by have:=HQ.out;rw[List.take_length,List.drop_length]at this;exact this),(by unfold Hid;simp;try omega),?_,bthen hb.out (bthen HbX.out (bthen hbk.out hL3))⟩;have hO4:=hO3.mono (bthen hb.out (bthen HbX.out hbk.out)).size
     rwa [List.nil_append,List.append_assoc]at hO4
  rw[if_neg hf]at hp1;rw[Bool.not_eq_true]at hf;by_cases ht:trim p=[]
  ·rw[if_pos ht]at hp1
   have HP:=zH hp1;have he:(B (trim p)).toList.isEmpty=true:=by rw[toList_B,ht];rfl
   clear ht;clear hp1;go_wp2_with (first
    |(go_at_call 55;refine(c55p _ _ _ (by omega)).mono ?_;rintro e w2⟨rfl,hb2⟩)
    |(go_at_call 56;refine(c56p _ _ (by first|omega|exact zT hAl (by decide)|exact zT hZl (by decide))).mono ?_;rintro e w3⟨rfl,hb3⟩;replace hb2:=bthen hb2 hb3))
   go_roundg (gk - 1)
   case measure=>have:=hk.out;omega
   case rel=>exact⟨i+1,acc,by go_num,by omega,(by have:=hk.out;unfold Hid;omega),HP.out,(by have:=hal.out;unfold Hid;omega),ho.out.below hb2,below_then hb.out hb.out.size hb2⟩
  rw[if_neg ht]at hp1;have he:(B (trim p)).toList.isEmpty=false:=by rw[toList_B,List.isEmpty_eq_false_iff];exact ht
  clear ht;subst hp1;go_wp2_with (first
   |(go_at_call 55;refine(c55p _ _ _ (by omega)).mono ?_;rintro e w2⟨rfl,hb2⟩)
   |(go_at_call 56;refine(c56p _ _ (by first|omega|exact zT hAl (by decide)|exact zT hZl (by decide))).mono ?_;rintro e w3⟨rfl,hb3⟩;replace hb2:=bthen hb2 hb3))
  go_ret2
  first|exact⟨_,rfl,⟨0,OwnP.nil _ _⟩,bthen HB1.out (below_then hb.out hb.out.size hb2)⟩|exact⟨_,rfl,⟨0,OwnP.nil _ _,Nat.zero_le _⟩,bthen HB1.out (below_then hb.out hb.out.size hb2)⟩
 obtain rfl:i=parts.length:=by omega
 have hpR:=hp.out;rw[List.drop_length,tagsM]at hpR;subst hpR;go_wp2;go_ret2
 exact⟨_,rfl,⟨_,ho.out,by have:=hal.out;simp only[Option.getD_some];omega⟩,bthen HB1.out hb.out⟩
theorem c32(s:ByteArray)(w:World)(hs:s.size<=1073741824) :
  Calls Tryz.prog 32 #[.string s] w fun e w'=>∃v,e=.returned (.tuple #[v,.bool (tagsM (split 59 s.data.toList) []).isSome])/\RdP w' v ((tagsM (split 59 s.data.toList) []).getD [])/\Below w.heap.size w w' :=
 (c32o s w hs).mono fun _ _ ⟨v,h1,⟨_,h2,h4⟩,h3⟩=>⟨v,h1,h2.rdP h4,h3⟩
theorem c93(s:ByteArray)(w:World):Calls Tryz.prog 93 #[.string s] w fun e w'=>e=.returned (.iface 235 (.pointer (some ⟨w.heap.size,0,none⟩)))/\w'=w.alloc (.cells #[.string s] 237):=by
 go_enter Tryz.func93,Tryz.ntmps93;go_wp2;go_ret
 exact⟨rfl,rfl⟩
def ErrS(w:World)(v:Value)(m:ByteArray):Prop:=∃g,v=.iface 235 (.pointer (some ⟨g,0,none⟩))/\w.cell? ⟨g,0,none⟩=some (.string m)
def pmM : List (List UInt8)->List Pair->Option (List Pair)
 |[],acc=>some acc
 |p::l,acc=>if cutF 61 p=true then(if hasTag (trim (cutA 61 p)) acc=true then none else pmM l ((trim (cutA 61 p),trim (cutZ 61 p))::acc))else if trim p=[]then pmM l acc else none
def ParamsAt(w':World)(base:Nat)(v err:Value):Option (List Pair)->Prop
 |some D=>err=.nilIface/\∃b n,v=.map (some b)/\base<=b/\OwnM w' b n D
 |none=>∃m,ErrS w' err m/\m.size<=100
theorem B59 : (⟨#[59]⟩:ByteArray)=B [59]:=rfl
theorem B61 : (⟨#[61]⟩:ByteArray)=B [61]:=rfl
theorem c94q(l:List UInt8)(d:ByteArray)(c:UInt8)(hd:d=B [c])(w:World)(hs:(B l).size<=140737488355328) :
  Calls Tryz.prog 94 #[.string (B l),.string d] w fun e w'=>e=.returned (.tuple #[.string (B (cutA c.toNat l)),.string (B (cutZ c.toNat l)),.bool (cutF c.toNat l)])/\Below w.heap.size w w':=c94' (B l) d c hd w hs
theorem plain_split'{c:Int}{l:List UInt8}(h:plainL l):∀p∈split c l,plainL p:=by
 have key:∀(n:Nat) (l:List UInt8),l.length<=n->plainL l->∀p∈split c l,plainL p:=by
  intro n;induction n with
  |zero=>intro l hn h p hp;obtain rfl:=List.eq_nil_of_length_eq_zero (Nat.le_zero.1 hn);simp[split]at hp;subst hp;exact h
  |succ n ih =>
   intro l hn h p hp;cases hf:cutF c l with
   |false=>rw[split_none _ _ hf]at hp;simp at hp;subst hp;exact plain_cutA h
   |true =>
    rw[split_found _ _ hf]at hp;have:=cutZ_lt _ _ hf;rcases List.mem_cons.1 hp with rfl|h2
    ·exact plain_cutA h
    exact ih _ (by omega) (plain_cutZ h) p h2
 exact key _ l (zR _) h
theorem c97(s:ByteArray)(w:World)(hs:s.size<=268435456)(hp:plainL s.data.toList) :
  Calls Tryz.prog 97 #[.string s] w fun e w'=>∃v err,e=.returned (.tuple #[v,err])/\ParamsAt w' w.heap.size v err (pmM (split 59 s.data.toList) [])/\Below w.heap.size w w':=by
 obtain⟨R,hR⟩:∃R,Hid (pmM (split 59 s.data.toList) []=R):=⟨_,rfl⟩;rw[hR.out];obtain⟨ps,hps⟩:∃ps,Hid (split 59 s.data.toList=ps):=⟨_,rfl⟩;rw[hps.out]at hR;have hpl:Hid (∀p∈ps,plainL p):=by unfold Hid;rw[<-hps.out];exact plain_split' hp
 have hle:Hid (∀p∈ps,p.length<=268435456):=by
  unfold Hid;rw[<-hps.out];intro p hq;have:=split_allLe 59 s.data.toList p hq;rw[size_L]at this;omega
 have hlen:ps.length<=268435457:=by have:=split_len 59 s.data.toList;rw[hps.out,size_L]at this;omega
 have hmm:=@run_makeMap Tryz.prog;clear hp;go_enter Tryz.func97,Tryz.ntmps97;go_upto_region 2 with(go_at_call 129;refine(c129' s _ 59 B59 _ (by omega)).mono ?_;rintro e w1⟨v,rfl,hO,hb1⟩;rw[show(((59:UInt8).toNat:Nat):Int)=59 from rfl,hps.out]at hO)
 obtain⟨A,c,rfl,hc,hAg⟩:=hO.slice;rw[List.length_map]at hc hO hAg ⊢;have hAb:Hid (∀g,A=some ⟨g,0,none⟩->ps.length=0\/g < w1.heap.size):=fun g hg=>by
  by_cases h0:0 < ps.length
  ·obtain⟨g',h1,_,h3,_⟩:=hAg h0
   rw[h1]at hg;injection hg with hg;injection hg with hg;subst hg;exact .inr h3
  exact .inl (by omega)
 clear hAg;have hO0:=zH (hO.alloc (.map #[] 0));have hM0:=zH (OwnM.made w1);have hB0:=zH (hb1.alloc hb1.size (.map #[] 0));have hmb:Hid (w.heap.size<=w1.heap.size):=hb1.size;clear hO hb1;go_wp2;generalize w1.alloc (.map #[] 0)=W0 at *
 generalize w1.heap.size=b at *
 clear hmm;go_loopg [19] ps.length (fun g j w'=>∃k:Nat,∃acc:List Pair,Hid (k+g=ps.length)/\k<=ps.length/\j=.int .i64 (k:Int)/\Hid (pmM (ps.drop k) acc=R)/\Hid (∃n,n<=k/\OwnM w' b n acc)/\Hid (Own w' w.heap.size 9 (.slice A ps.length c) (ps.map strV))/\Hid (Below w.heap.size w w'))
 case atStart=>exact⟨0,[],Nat.zero_add _,Nat.zero_le _,rfl,hR,⟨0,zR _,hM0.out⟩,hO0,hB0⟩
 clear hM0 hO0 hB0 hR;obtain⟨k,acc,hk,hks,rfl,hq,hM,hO,hb⟩:=hrel;by_cases hlt:k < ps.length
 ·obtain⟨g,rfl⟩:=hO.out.ptr (by rw[List.length_map];omega)
  obtain⟨p,hpx⟩:∃p,Hid (ps[k]=p):=⟨ps[k],zH rfl⟩;have hxm:=List.getElem_mem hlt;rw[hpx.out]at hxm;have q0:=zG hlt;rw[hpx.out]at q0;have q1:=hO.out.cellAt rfl (j:=k) (u:=strV p) (by rw[List.getElem?_map,q0];rfl);unfold strV at q1;have hxp:=hpl.out p hxm;have hxl:p.length<=268435456:=hle.out p hxm;have hBp:(B p).size<=1073741824:=by rw[size_B];omega
  have hAl:(B (cutA 61 p)).size<=1073741824:=by have:=cutA_le 61 p;rw[size_B];omega
  have hZl:(B (cutZ 61 p)).size<=1073741824:=by have:=cutZ_le 61 p;rw[size_B];omega
  have hpP:=zH hxp;have hpA:=zH (plain_cutA (c:=61) hxp);have hpZ:=zH (plain_cutZ (c:=61) hxp);have hq2:=hq.out;rw[List.drop_eq_getElem_cons hlt,hpx.out,pmM]at hq2;have hltI:(k:Int) < (ps.length:Int):=by omega
  obtain⟨t,ht⟩:∃t,Hid (trim (cutA 61 p)=t):=⟨_,rfl⟩;obtain⟨tv,htv⟩:∃tv,Hid (trim (cutZ 61 p)=tv):=⟨_,rfl⟩;have hTl:(B t).size<=maxLen:=by have:=trim_le (cutA 61 p);rw[ht.out]at this;rw[size_B]at hAl ⊢;unfold maxLen;omega
  have hVl:(B tv).size<=maxLen:=by have:=trim_le (cutZ 61 p);rw[htv.out]at this;rw[size_B]at hZl ⊢;unfold maxLen;omega
  have HTL:=zH hTl;have HVL:=zH hVl;clear hq hxp q0 hxm hTl hVl;cases hf:cutF 61 p with
  |true =>
   rw[if_pos hf,ht.out,htv.out]at hq2;have HF:=zH hf;clear hf;cases hh:hasTag t acc with
   |true =>
    rw[if_pos hh]at hq2;have HH:=zH hh;obtain rfl:R=none:=hq2.symm;clear hh hq2;go_wp2_with (first
     |(go_at_call 94;refine(c94q p _ 61 B61 _ (by omega)).mono ?_;rintro e w2⟨rfl,hb2⟩;rw[show(((61:UInt8).toNat:Nat):Int)=61 from rfl,HF.out])
     |(go_at_call 95;refine(c95p _ _ hAl hpA.out).mono ?_;rintro e w3⟨rfl,hb3⟩;rw[ht.out];have hb23:=bthen hb2 hb3;obtain⟨n,hn,hM1⟩:=hM.out;have lk:=(hM1.below hb23).look_ok (B t) HTL.out;rw[L_B,HH.out]at lk)
     |(go_at_call 93;refine(c93 _ _).mono ?_;rintro e w4⟨rfl,rfl⟩))
    go_ret2
    exact⟨_,_,rfl,⟨_,⟨_,rfl,by rw[cells_row];rfl⟩,by decide⟩,(bthen hb.out hb23).alloc (by have:=hb.out.size;have:=(hb23).size;omega) _⟩
   |false =>
    rw[if_neg (by rw[hh];decide)]at hq2;have HQ:=zH hq2;have HH:=zH hh;clear hh hq2;go_wp2_with (first
     |(go_at_call 94;refine(c94q p _ 61 B61 _ (by omega)).mono ?_;rintro e w2⟨rfl,hb2⟩;rw[show(((61:UInt8).toNat:Nat):Int)=61 from rfl,HF.out])
     |(go_at_call_of 95 (Value.string (B (cutA 61 p)));refine(c95p _ _ hAl hpA.out).mono ?_;rintro e w3⟨rfl,hb3⟩;rw[ht.out];have hb23:=bthen hb2 hb3;obtain⟨n,hn,hM1⟩:=hM.out;have lk:=(hM1.below hb23).look_ok (B t) HTL.out;rw[L_B,HH.out]at lk)
     |(go_at_call_of 95 (Value.string (B (cutZ 61 p)));refine(c95p _ _ hZl hpZ.out).mono ?_;rintro e w4⟨rfl,hb4⟩;rw[htv.out];have hb24:=bthen hb23 hb4;obtain⟨w5,hput,hM5,hg5⟩:=(hM1.below hb24).put (by unfold maxLen;omega) (B t) (B tv) HTL.out HVL.out))
    have hgb:g≠b:=by rcases hAb.out g rfl with h|h <;> omega
    have hO5:Hid (Own w5 w.heap.size 9 (.slice (some ⟨g,0,none⟩) ps.length c) (ps.map strV)):=(hO.out.below hb24).grown hg5 (.inr (by intro h;injection h with h;exact hgb h));have hb5:Hid (Below w.heap.size w w5):=(bthen hb.out hb24).grown hg5 (by have:=hb.out.size;have:=hb24.size;omega) (fun j hj=>by injection hj with hj;have:=hmb.out;omega);go_roundg (gk - 1)
    case measure=>have:=hk.out;omega
    case rel=>exact⟨k+1,(t,tv)::acc,by have:=hk.out;unfold Hid;omega,by omega,by go_num,HQ,⟨n+1,by omega,hM5⟩,hO5,hb5⟩
  |false =>
   rw[if_neg (by rw[hf];decide)]at hq2;have HF:=zH hf;clear hf;by_cases h0:trim p=[]
   ·rw[if_pos h0]at hq2
    have HQ:=zH hq2;have hT0:Hid ((B (trim p)).toList.isEmpty=true/\(B (trim p)).toList=[]):=by unfold Hid;rw[toList_B,h0];exact⟨rfl,rfl⟩
    clear h0 hq2;go_wp2_with (first
     |(go_at_call 94;refine(c94q p _ 61 B61 _ (by omega)).mono ?_;rintro e w2⟨rfl,hb2⟩;rw[show(((61:UInt8).toNat:Nat):Int)=61 from rfl,HF.out])
     |(go_at_call 95;refine(c95p _ _ hBp hpP.out).mono ?_;rintro e w3⟨rfl,hb3⟩;have hb23:=bthen hb2 hb3;have e1:=hT0.out.1;have e2:=hT0.out.2))
    obtain⟨n,hn,hM1⟩:=hM.out;go_roundg (gk - 1)
    case measure=>have:=hk.out;omega
    case rel=>exact⟨k+1,acc,by have:=hk.out;unfold Hid;omega,by omega,by go_num,HQ,⟨n,by omega,hM1.below hb23⟩,hO.out.below hb23,bthen hb.out hb23⟩
   rw[if_neg h0]at hq2;obtain rfl:R=none:=hq2.symm;have hT0:Hid ((B (trim p)).toList.isEmpty=false):=by unfold Hid;rw[toList_B,List.isEmpty_eq_false_iff];exact h0
   clear h0 hq2;go_wp2_with (first
    |(go_at_call 94;refine(c94q p _ 61 B61 _ (by omega)).mono ?_;rintro e w2⟨rfl,hb2⟩;rw[show(((61:UInt8).toNat:Nat):Int)=61 from rfl,HF.out])
    |(go_at_call 95;refine(c95p _ _ hBp hpP.out).mono ?_;rintro e w3⟨rfl,hb3⟩;have hb23:=bthen hb2 hb3;have e1:=hT0.out)
    |(go_at_call 93;refine(c93 _ _).mono ?_;rintro e w4⟨rfl,rfl⟩))
   go_ret2
   exact⟨_,_,rfl,⟨_,⟨_,rfl,by rw[cells_row];rfl⟩,by decide⟩,(bthen hb.out hb23).alloc (by have:=hb.out.size;have:=(hb23).size;omega) _⟩
 have hq2:=hq.out;rw[List.drop_eq_nil_of_le (by omega),pmM]at hq2;obtain rfl:=hq2;obtain⟨n,hn,hM1⟩:=hM.out;have hbb:=hmb.out;have HM1:=zH hM1;clear hM1 hq hM;go_wp2;go_ret2
 exact⟨_,_,rfl,⟨rfl,b,n,rfl,hbb,HM1.out⟩,hb.out⟩
end Go.Proofs.YtnkihlpmmfeioaaGreatDoor
