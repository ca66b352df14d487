/- Part of the proof that laws.FnDVerifies answers true: A11,A12 -/
import Derived.Lib.QuietBelow
import Derived.Test.YtnkihlpmmfeioaaGreatDoorZ04
set_option linter.unusedVariables false
set_option linter.unusedSimpArgs false
set_option maxRecDepth 1000000
set_option maxHeartbeats 16000000
namespace Go.Proofs.YtnkihlpmmfeioaaGreatDoor
open Go.RowKit
def chomp(l:List UInt8):List UInt8:=match l.getLast? with
 |some c=>if(c.toNat:Int)=13 then l.dropLast else l
 |none=>l
def contB(l:List UInt8):Bool:=match l with
 |c::_=>(c.toNat:Int) == 32 || (c.toNat:Int) == 9
 |[]=>false
def addLine(out:List (List UInt8))(line:List UInt8):List (List UInt8) :=
 if 0 < out.length/\contB line=true then out.set (out.length - 1) (out.getD (out.length - 1) []++line++[13,10])else out++[line++[13,10]]
def headN : Nat->List (List UInt8)->List UInt8->Option (List (List UInt8) × List UInt8)
 |0,_,_=>none
 |f+1,out,m=>if cutF 10 m=true then(if chomp (cutA 10 m)=[]then some (out,cutZ 10 m)else headN f (addLine out (chomp (cutA 10 m))) (cutZ 10 m))else none
def headOf(m:List UInt8):Option (List (List UInt8) × List UInt8):=headN (m.length+1) [] m
theorem chomp_cr(s:ByteArray)(h:s.size - 1 < s.size)(hc:(s[s.size - 1].toNat:Int)=13):chomp s.data.toList=s.data.toList.take (s.size - 1):=by
 have hl:=L_last s h;unfold chomp;rw[hl];simp[hc]
theorem chomp_no(s:ByteArray)(h:s.size - 1 < s.size)(hc:¬(s[s.size - 1].toNat:Int)=13):chomp s.data.toList=s.data.toList:=by
 have hl:=L_last s h;unfold chomp;rw[hl];simp[hc]
theorem chomp_le(l:List UInt8):(chomp l).length<=l.length:=by
 unfold chomp;split
 ·split <;> simp
 simp
theorem cut_len(c:Int)(l:List UInt8)(h:cutF c l=true):(cutA c l).length+(cutZ c l).length+1=l.length:=by
 induction l with
 |nil=>simp[cutF]at h
 |cons x l ih =>
  by_cases hx:(x.toNat:Int)=c
  ·simp[cutA,cutZ,hx]
  simp only[cutF,if_neg hx]at h;simp only[cutA,cutZ,if_neg hx,List.length_cons];have:=ih h;omega
theorem Own.set_{w:World}{base g cap:Nat}{e:TypeId}{n:Nat}{xs:List Value}(h:Own w base e (.slice (some ⟨g,0,none⟩) n cap) xs)(j:Nat)(u:Value):Own (w.setCell ⟨g,j,none⟩ u) base e (.slice (some ⟨g,0,none⟩) n cap) (xs.set j u):=by
 have hn:n=xs.length:=by have:=h.slice;obtain⟨A,c,he,_⟩:=this;injection he
 subst hn;have:=(World.ownsRow.stored (w:=w) h j u).1;unfold Own;simpa using this
theorem Own.rowFacts{w:World}{base:Nat}{e:TypeId}{v:Value}{xs:List Value}(h:Own w base e v xs)(hp:0 < xs.length) :
  ∃g cap,v=.slice (some ⟨g,0,none⟩) xs.length cap/\base<=g/\g < w.heap.size/\xs.length<=cap/\(∀j u,xs[j]?=some u->w.cell? ⟨g,j,none⟩=some u)/\∀j,w.frozen? ⟨g,j,none⟩=false:=by
 obtain⟨A,c,rfl,hc,hg⟩:=h.slice;obtain⟨g,rfl,h1,h2,h3⟩:=hg hp;exact⟨g,c,rfl,h1,h2,hc,h3,fun j=>World.ownsRow.frozenAt h j⟩
def allLe(n:Nat)(xs:List (List UInt8)):Prop:=∀x∈xs,x.length<=n
theorem addLine_le{n m:Nat}{out:List (List UInt8)}{line:List UInt8}(h:allLe n out)(hm:n+line.length+2<=m):allLe m (addLine out line):=by
 intro x hx;unfold addLine at hx;split at hx
 ·rcases List.mem_or_eq_of_mem_set hx with h1|h1
  ·have:=h x h1;omega
  have h2:(out.getD (out.length - 1) []).length<=n:=by
   rename_i hc;rw[List.getD_eq_getElem?_getD,zG (by omega)];exact h _ (List.getElem_mem _)
  rw[h1];simp only[zA,List.length_cons,List.length_nil];omega
 rcases List.mem_append.1 hx with h1|h1
 ·have:=h x h1;omega
 simp at h1;rw[h1];simp;omega
theorem addLine_len(out:List (List UInt8))(line:List UInt8):(addLine out line).length<=out.length+1:=by
 unfold addLine;split <;> simp
def headF(r:Option (List (List UInt8) × List UInt8)):List (List UInt8):=match r with|some p=>p.1|none=>[]
def headB(r:Option (List (List UInt8) × List UInt8)):List UInt8:=match r with|some p=>p.2|none=>[]
theorem c25(s:ByteArray)(w:World)(hs:s.size<=268435456) :
  Calls Tryz.prog 25 #[.string s] w fun e w'=>∃v,e=.returned (.tuple #[v,.string (B (headB (headOf s.data.toList))),.bool (headOf s.data.toList).isSome])/\Own w' w.heap.size 9 v ((headF (headOf s.data.toList)).map strV)/\Below w.heap.size w w':=by
 obtain⟨R,hR⟩:∃R,Hid (headOf s.data.toList=R):=⟨_,rfl⟩;rw[hR.out];go_enter Tryz.func25,Tryz.ntmps25;go_wp2;go_loopg [0,5] (s.size+1) (fun g v0 v w'=>∃m:ByteArray,∃out:List (List UInt8),v0=.string m/\Hid (m.size+1<=g)/\m.size<=s.size/\Hid (headN g out m.data.toList=R)/\Hid (out.length+m.size<=s.size)/\Hid (allLe (2*(s.size - m.size)) out)/\Hid (Own w' w.heap.size 9 v (out.map strV))/\Hid (Below w.heap.size w w'))
 case atStart=>exact⟨s,[],rfl,zR _,zR _,hR,Nat.le_of_eq (Nat.zero_add _),(fun x hx=>by cases hx),Own.nil _ _ _,zB _ _⟩
 obtain⟨m,out,rfl,hk,hms,hp,hnn,hal0,ho,hb⟩:=hrel;cases gk with
 |zero=>have:=hk.out;omega
 |succ gm =>
  obtain⟨ln,hln⟩:∃ln,Hid (B (cutA 10 m.data.toList)=ln):=⟨_,rfl⟩;have hlL:Hid (cutA 10 m.data.toList=ln.data.toList):=by unfold Hid;rw[<-hln.out];rfl
  cases hf:cutF 10 m.data.toList with
  |true =>
   have Hf:=zH hf;have hlen:=cut_len 10 _ hf;rw[size_L]at hlen;have Hlen:=zH hlen;have hls:ln.size < m.size:=by rw[<-hln.out,size_B];omega
   clear hf hlen;by_cases hl0:0 < ln.size
   ·have hll:ln.size - 1 < ln.size:=by omega
    have hlne:=isEmpty_pos hl0;by_cases h13:(ln[ln.size - 1].toNat:Int)=13
    ·have hch:chomp (cutA 10 m.data.toList)=(ln.extract 0 (ln.size - 1)).data.toList:=by rw[hlL.out,chomp_cr ln hll h13,L_extract];rfl
     have Hc:=zH hch;clear hch;by_cases hz:0 < ln.size - 1
     ·have he:=isEmpty_pos (s:=(ln.extract 0 (ln.size - 1))) (by simp;omega)
      have hne:Hid (¬chomp (cutA 10 m.data.toList)=[]):=by
       unfold Hid;rw[Hc.out];intro h;have h2:=congrArg List.length h;rw[size_L]at h2;simp only[List.length_nil]at h2;first|omega|(simp at h2;omega)
      have hL:=L_at0 (ln.extract 0 (ln.size - 1)) (by simp;omega);have hp1:=hp.out;rw[headN,if_pos Hf.out,if_neg hne.out]at hp1;have hcb:contB (chomp (cutA 10 m.data.toList))=((((ln.extract 0 (ln.size - 1))[0]'(by simp;omega)).toNat:Int) == 32 || (((ln.extract 0 (ln.size - 1))[0]'(by simp;omega)).toNat:Int) == 9):=by rw[Hc.out,hL,contB]
      have hxs:(ln.extract 0 (ln.size - 1)).size<=m.size:=by have:=Hlen.out;have h1:=chomp_le (cutA 10 m.data.toList);rw[Hc.out,size_L]at h1;omega
      have Hxs:=zH hxs;clear hxs hL;by_cases hcont:0 < out.length/\contB (chomp (cutA 10 m.data.toList))=true
      ·have hal:addLine out (chomp (cutA 10 m.data.toList))=out.set (out.length - 1) (out.getD (out.length - 1) []++chomp (cutA 10 m.data.toList)++[13,10]):=by rw[addLine,if_pos hcont]
       rw[hal]at hp1;have hle1:allLe (2*(s.size - (cutZ 10 m.data.toList).length)) (addLine out (chomp (cutA 10 m.data.toList))):=addLine_le hal0.out (by have:=Hlen.out;have h1:=chomp_le (cutA 10 m.data.toList);omega);rw[hal]at hle1;obtain⟨la,hla⟩:∃la,Hid (out.getD (out.length - 1) []=la):=⟨_,rfl⟩;rw[hla.out]at hle1 hp1;have H1:=zH (And.intro hp1 hle1);clear hp hp1 hal hle1;obtain⟨hn0,hc1⟩:=hcont;rw[hcb]at hc1;obtain⟨g,cap,hv,hg1,hg2,hcap,hcell,hfr⟩:=Own.rowFacts ho.out (by simpa using hn0);rw[List.length_map]at hv hcap;subst hv;have hlam:out[out.length - 1]?=some la:=by
        rw[<-hla.out,List.getD_eq_getElem?_getD,zG (by omega)];rfl
       have hck0:=hcell (out.length - 1) (.string (B la)) (by rw[List.getElem?_map,hlam];rfl);have hfr0:=hfr (out.length - 1);have hol:out.length<=268435456:=by have:=hnn.out;omega
       have hbl:(B la).size<=2147483648:=by
        have:=hal0.out la (List.mem_of_getElem? hlam);rw[size_B];omega
       clear hlam;clear hcell hfr;have hsx:(ln.extract 0 (ln.size - 1)).size<=1073741824:=by have:=Hxs.out;omega
       have hc2:(((ln.extract 0 (ln.size - 1))[0]'(by simp;omega)).toNat:Int)=32\/(((ln.extract 0 (ln.size - 1))[0]'(by simp;omega)).toNat:Int)=9:=by
        simpa using hc1
       clear hc1 hcb;rcases hc2 with hc2|hc2;all_goals
        go_wp2_with (go_at_call 55;refine(c55 _ _ _ (by omega)).mono ?_;rintro e w1⟨rfl,hn⟩;rw[Hf.out,hln.out];have hb1:=below_of_drewN hn;have ho1:=ho.out.below hb1;have hb2:=below_then hb.out hb.out.size hb1;have hck:=(hb1.cell (p:=⟨g,out.length - 1,none⟩) hg2).trans hck0;have hfr1:=(hb1.frozen (p:=⟨g,out.length - 1,none⟩) hg2).trans hfr0;clear hn);go_roundg (gm)
        case measure=>have:=hk.out;have:=Hlen.out;omega
        case rel =>
         refine⟨B (cutZ 10 m.data.toList),_,rfl,by have:=Hlen.out;have:=hk.out;unfold Hid;rw[size_B];omega,by have:=Hlen.out;rw[size_B];omega,H1.out.1,?_,H1.out.2,?_,hb2.setCell hg1 _⟩
         ·have:=hnn.out;have:=Hlen.out;unfold Hid;rw[size_B];simp;omega
         have h9:=ho1.set_ (out.length - 1) (.string (B la++ln.extract 0 (ln.size - 1)++⟨#[13,10]⟩));unfold Hid;rw[List.map_set];have h8:strV (la++chomp (cutA 10 m.data.toList)++[13,10])=.string (B la++ln.extract 0 (ln.size - 1)++⟨#[13,10]⟩):=(str_eq (by rw[L_append,L_append,Hc.out];rfl)).symm;rw[h8];exact h9
      have hal:addLine out (chomp (cutA 10 m.data.toList))=out++[chomp (cutA 10 m.data.toList)++[13,10]]:=by rw[addLine,if_neg hcont]
      rw[hal]at hp1;have hle1:allLe (2*(s.size - (cutZ 10 m.data.toList).length)) (addLine out (chomp (cutA 10 m.data.toList))):=addLine_le hal0.out (by have:=Hlen.out;have h1:=chomp_le (cutA 10 m.data.toList);omega);rw[hal]at hle1;have H1:=zH (And.intro hp1 hle1);clear hp hp1 hal hle1;have hsx:(ln.extract 0 (ln.size - 1)).size<=1073741824:=by have:=Hxs.out;omega
      obtain⟨A,cap,hv,hcap,_⟩:=ho.out.slice;rw[List.length_map]at hv hcap;subst hv;rw[hcb]at hcont;have hor:¬0 < out.length\/(¬(((ln.extract 0 (ln.size - 1))[0]'(by simp;omega)).toNat:Int)=32/\¬(((ln.extract 0 (ln.size - 1))[0]'(by simp;omega)).toNat:Int)=9):=by
       rcases Classical.em (0 < out.length)with h|h
       ·right
        have:=fun h2=>hcont ⟨h,h2⟩
        simpa using this
       exact .inl h
      clear hcont hcb;have hXb:Hid (Value.string ((ln.extract 0 (ln.size - 1))++⟨#[13,10]⟩)=strV (chomp (cutA 10 m.data.toList)++[13,10])):=str_eq (by rw[L_append,Hc.out]);rcases hor with hor|⟨hc2,hc3⟩
      ·go_wp2_with (first
        |(go_at_call 55;refine(c55 _ _ _ (by omega)).mono ?_;rintro e w1⟨rfl,hn⟩;rw[Hf.out,hln.out];have hb1:=below_of_drewN hn;have ho1:=ho.out.below hb1;have hb2:=below_then hb.out hb.out.size hb1;clear hn)
        |(at_builtin;rw[hXb.out];refine wp_app1 Tryz.underlying34 info9 rfl rfl (.tmp 64) (.tmp 67) rfl rfl ho1 hb2.size (strV (chomp (cutA 10 m.data.toList)++[13,10])) rfl rfl (by simp;have:=hnn.out;omega) (by decide) ?_;intro v2 w2 ho2 hg2 hb3 hl2))
       all_goals
        go_roundg (gm)
        case measure=>have:=hk.out;have:=Hlen.out;omega
        case rel=>exact⟨B (cutZ 10 m.data.toList),_,rfl,by have:=Hlen.out;have:=hk.out;unfold Hid;rw[size_B];omega,by have:=Hlen.out;rw[size_B];omega,H1.out.1,by have:=hnn.out;have:=Hlen.out;unfold Hid;rw[size_B];simp;omega,H1.out.2,by unfold Hid;simpa using ho2,hb3 _ hb2⟩
      have hc2e:((((ln.extract 0 (ln.size - 1))[0]'(by simp;omega)).toNat:Int) == 32)=false:=zF hc2;have hc3e:((((ln.extract 0 (ln.size - 1))[0]'(by simp;omega)).toNat:Int) == 9)=false:=zF hc3;go_wp2_with (first
       |(go_at_call 55;refine(c55 _ _ _ (by omega)).mono ?_;rintro e w1⟨rfl,hn⟩;rw[Hf.out,hln.out];have hb1:=below_of_drewN hn;have ho1:=ho.out.below hb1;have hb2:=below_then hb.out hb.out.size hb1;clear hn)
       |(at_builtin;rw[hXb.out];refine wp_app1 Tryz.underlying34 info9 rfl rfl (.tmp 64) (.tmp 67) rfl rfl ho1 hb2.size (strV (chomp (cutA 10 m.data.toList)++[13,10])) rfl rfl (by simp;have:=hnn.out;omega) (by decide) ?_;intro v2 w2 ho2 hg2 hb3 hl2))
      all_goals
       go_roundg (gm)
       case measure=>have:=hk.out;have:=Hlen.out;omega
       case rel=>exact⟨B (cutZ 10 m.data.toList),_,rfl,by have:=Hlen.out;have:=hk.out;unfold Hid;rw[size_B];omega,by have:=Hlen.out;rw[size_B];omega,H1.out.1,by have:=hnn.out;have:=Hlen.out;unfold Hid;rw[size_B];simp;omega,H1.out.2,by unfold Hid;simpa using ho2,hb3 _ hb2⟩
     have he:=toList_nil (s:=(ln.extract 0 (ln.size - 1))) (by simp;omega);have hce:Hid (chomp (cutA 10 m.data.toList)=[]):=by unfold Hid;rw[Hc.out];exact nil_of_size (by simp;omega)
     have hp1:=hp.out;rw[headN,if_pos Hf.out,if_pos hce.out]at hp1;have H1:=zH hp1;clear hp hp1;go_wp2_with (go_at_call 55;refine(c55 _ _ _ (by omega)).mono ?_;rintro e w1⟨rfl,hn⟩;rw[Hf.out,hln.out];have hb1:=below_of_drewN hn;have ho1:=ho.out.below hb1;have hb2:=below_then hb.out hb.out.size hb1;clear hn)
     go_ret3
     exact⟨_,by rw[<-H1.out];rfl,by rw[<-H1.out];exact ho1,hb2⟩
    have hch:chomp (cutA 10 m.data.toList)=ln.data.toList:=by rw[hlL.out,chomp_no ln hll h13]
    have h13e:((ln[ln.size - 1].toNat:Int) == 13)=false:=zF h13;have h13n:((ln[ln.size - 1].toNat:Int) != 13)=true:=zN h13;have Hc:=zH hch;clear hch;by_cases hz:0 < ln.size
    ·have he:=isEmpty_pos (s:=(ln)) (by exact hl0)
     have hne:Hid (¬chomp (cutA 10 m.data.toList)=[]):=by
      unfold Hid;rw[Hc.out];intro h;have h2:=congrArg List.length h;rw[size_L]at h2;simp only[List.length_nil]at h2;first|omega|(simp at h2;omega)
     have hL:=L_at0 (ln) (by exact hl0);have hp1:=hp.out;rw[headN,if_pos Hf.out,if_neg hne.out]at hp1;have hcb:contB (chomp (cutA 10 m.data.toList))=((((ln)[0]'(by exact hl0)).toNat:Int) == 32 || (((ln)[0]'(by exact hl0)).toNat:Int) == 9):=by rw[Hc.out,hL,contB]
     have hxs:(ln).size<=m.size:=by have:=Hlen.out;have h1:=chomp_le (cutA 10 m.data.toList);rw[Hc.out,size_L]at h1;omega
     have Hxs:=zH hxs;clear hxs hL;by_cases hcont:0 < out.length/\contB (chomp (cutA 10 m.data.toList))=true
     ·have hal:addLine out (chomp (cutA 10 m.data.toList))=out.set (out.length - 1) (out.getD (out.length - 1) []++chomp (cutA 10 m.data.toList)++[13,10]):=by rw[addLine,if_pos hcont]
      rw[hal]at hp1;have hle1:allLe (2*(s.size - (cutZ 10 m.data.toList).length)) (addLine out (chomp (cutA 10 m.data.toList))):=addLine_le hal0.out (by have:=Hlen.out;have h1:=chomp_le (cutA 10 m.data.toList);omega);rw[hal]at hle1;obtain⟨la,hla⟩:∃la,Hid (out.getD (out.length - 1) []=la):=⟨_,rfl⟩;rw[hla.out]at hle1 hp1;have H1:=zH (And.intro hp1 hle1);clear hp hp1 hal hle1;obtain⟨hn0,hc1⟩:=hcont;rw[hcb]at hc1;obtain⟨g,cap,hv,hg1,hg2,hcap,hcell,hfr⟩:=Own.rowFacts ho.out (by simpa using hn0);rw[List.length_map]at hv hcap;subst hv;have hlam:out[out.length - 1]?=some la:=by
       rw[<-hla.out,List.getD_eq_getElem?_getD,zG (by omega)];rfl
      have hck0:=hcell (out.length - 1) (.string (B la)) (by rw[List.getElem?_map,hlam];rfl);have hfr0:=hfr (out.length - 1);have hol:out.length<=268435456:=by have:=hnn.out;omega
      have hbl:(B la).size<=2147483648:=by
       have:=hal0.out la (List.mem_of_getElem? hlam);rw[size_B];omega
      clear hlam;clear hcell hfr;have hsx:(ln).size<=1073741824:=by have:=Hxs.out;omega
      have hc2:(((ln)[0]'(by exact hl0)).toNat:Int)=32\/(((ln)[0]'(by exact hl0)).toNat:Int)=9:=by
       simpa using hc1
      clear hc1 hcb;rcases hc2 with hc2|hc2;all_goals
       go_wp2_with (go_at_call 55;refine(c55 _ _ _ (by omega)).mono ?_;rintro e w1⟨rfl,hn⟩;rw[Hf.out,hln.out];have hb1:=below_of_drewN hn;have ho1:=ho.out.below hb1;have hb2:=below_then hb.out hb.out.size hb1;have hck:=(hb1.cell (p:=⟨g,out.length - 1,none⟩) hg2).trans hck0;have hfr1:=(hb1.frozen (p:=⟨g,out.length - 1,none⟩) hg2).trans hfr0;clear hn);go_roundg (gm)
       case measure=>have:=hk.out;have:=Hlen.out;omega
       case rel =>
        refine⟨B (cutZ 10 m.data.toList),_,rfl,by have:=Hlen.out;have:=hk.out;unfold Hid;rw[size_B];omega,by have:=Hlen.out;rw[size_B];omega,H1.out.1,?_,H1.out.2,?_,hb2.setCell hg1 _⟩
        ·have:=hnn.out;have:=Hlen.out;unfold Hid;rw[size_B];simp;omega
        have h9:=ho1.set_ (out.length - 1) (.string (B la++ln++⟨#[13,10]⟩));unfold Hid;rw[List.map_set];have h8:strV (la++chomp (cutA 10 m.data.toList)++[13,10])=.string (B la++ln++⟨#[13,10]⟩):=(str_eq (by rw[L_append,L_append,Hc.out];rfl)).symm;rw[h8];exact h9
     have hal:addLine out (chomp (cutA 10 m.data.toList))=out++[chomp (cutA 10 m.data.toList)++[13,10]]:=by rw[addLine,if_neg hcont]
     rw[hal]at hp1;have hle1:allLe (2*(s.size - (cutZ 10 m.data.toList).length)) (addLine out (chomp (cutA 10 m.data.toList))):=addLine_le hal0.out (by have:=Hlen.out;have h1:=chomp_le (cutA 10 m.data.toList);omega);rw[hal]at hle1;have H1:=zH (And.intro hp1 hle1);clear hp hp1 hal hle1;have hsx:(ln).size<=1073741824:=by have:=Hxs.out;omega
     obtain⟨A,cap,hv,hcap,_⟩:=ho.out.slice;rw[List.length_map]at hv hcap;subst hv;rw[hcb]at hcont;have hor:¬0 < out.length\/(¬(((ln)[0]'(by exact hl0)).toNat:Int)=32/\¬(((ln)[0]'(by exact hl0)).toNat:Int)=9):=by
      rcases Classical.em (0 < out.length)with h|h
      ·right
       have:=fun h2=>hcont ⟨h,h2⟩
       simpa using this
      exact .inl h
     clear hcont hcb;have hXb:Hid (Value.string ((ln)++⟨#[13,10]⟩)=strV (chomp (cutA 10 m.data.toList)++[13,10])):=str_eq (by rw[L_append,Hc.out]);rcases hor with hor|⟨hc2,hc3⟩
     ·go_wp2_with (first
       |(go_at_call 55;refine(c55 _ _ _ (by omega)).mono ?_;rintro e w1⟨rfl,hn⟩;rw[Hf.out,hln.out];have hb1:=below_of_drewN hn;have ho1:=ho.out.below hb1;have hb2:=below_then hb.out hb.out.size hb1;clear hn)
       |(at_builtin;rw[hXb.out];refine wp_app1 Tryz.underlying34 info9 rfl rfl (.tmp 64) (.tmp 67) rfl rfl ho1 hb2.size (strV (chomp (cutA 10 m.data.toList)++[13,10])) rfl rfl (by simp;have:=hnn.out;omega) (by decide) ?_;intro v2 w2 ho2 hg2 hb3 hl2))
      all_goals
       go_roundg (gm)
       case measure=>have:=hk.out;have:=Hlen.out;omega
       case rel=>exact⟨B (cutZ 10 m.data.toList),_,rfl,by have:=Hlen.out;have:=hk.out;unfold Hid;rw[size_B];omega,by have:=Hlen.out;rw[size_B];omega,H1.out.1,by have:=hnn.out;have:=Hlen.out;unfold Hid;rw[size_B];simp;omega,H1.out.2,by unfold Hid;simpa using ho2,hb3 _ hb2⟩
     have hc2e:((((ln)[0]'(by exact hl0)).toNat:Int) == 32)=false:=zF hc2;have hc3e:((((ln)[0]'(by exact hl0)).toNat:Int) == 9)=false:=zF hc3;go_wp2_with (first
      |(go_at_call 55;refine(c55 _ _ _ (by omega)).mono ?_;rintro e w1⟨rfl,hn⟩;rw[Hf.out,hln.out];have hb1:=below_of_drewN hn;have ho1:=ho.out.below hb1;have hb2:=below_then hb.out hb.out.size hb1;clear hn)
      |(at_builtin;rw[hXb.out];refine wp_app1 Tryz.underlying34 info9 rfl rfl (.tmp 64) (.tmp 67) rfl rfl ho1 hb2.size (strV (chomp (cutA 10 m.data.toList)++[13,10])) rfl rfl (by simp;have:=hnn.out;omega) (by decide) ?_;intro v2 w2 ho2 hg2 hb3 hl2))
     all_goals
      go_roundg (gm)
      case measure=>have:=hk.out;have:=Hlen.out;omega
      case rel=>exact⟨B (cutZ 10 m.data.toList),_,rfl,by have:=Hlen.out;have:=hk.out;unfold Hid;rw[size_B];omega,by have:=Hlen.out;rw[size_B];omega,H1.out.1,by have:=hnn.out;have:=Hlen.out;unfold Hid;rw[size_B];simp;omega,H1.out.2,by unfold Hid;simpa using ho2,hb3 _ hb2⟩
    have he:=toList_nil (s:=(ln)) (by simp;omega);have hce:Hid (chomp (cutA 10 m.data.toList)=[]):=by unfold Hid;rw[Hc.out];exact nil_of_size (by simp;omega)
    have hp1:=hp.out;rw[headN,if_pos Hf.out,if_pos hce.out]at hp1;have H1:=zH hp1;clear hp hp1;go_wp2_with (go_at_call 55;refine(c55 _ _ _ (by omega)).mono ?_;rintro e w1⟨rfl,hn⟩;rw[Hf.out,hln.out];have hb1:=below_of_drewN hn;have ho1:=ho.out.below hb1;have hb2:=below_then hb.out hb.out.size hb1;clear hn)
    go_ret3
    exact⟨_,by rw[<-H1.out];rfl,by rw[<-H1.out];exact ho1,hb2⟩
   have he:=toList_nil (s:=ln) (by omega);have hce:Hid (chomp (cutA 10 m.data.toList)=[]):=by unfold Hid;rw[hlL.out,nil_of_size (s:=ln) (by omega)];rfl
   have hp1:=hp.out;rw[headN,if_pos Hf.out,if_pos hce.out]at hp1;have H1:=zH hp1;clear hp hp1;go_wp2_with (go_at_call 55;refine(c55 _ _ _ (by omega)).mono ?_;rintro e w1⟨rfl,hn⟩;rw[Hf.out,hln.out];have hb1:=below_of_drewN hn;have ho1:=ho.out.below hb1;have hb2:=below_then hb.out hb.out.size hb1;clear hn)
   go_ret3
   exact⟨_,by rw[<-H1.out];rfl,by rw[<-H1.out];exact ho1,hb2⟩
  |false =>
   have Hf:=zH hf;have hp1:=hp.out;rw[headN,if_neg (by rw[hf];decide)]at hp1;have H1:=zH hp1;clear hf hp hp1;go_wp2_with (go_at_call 55;refine(c55 _ _ _ (by omega)).mono ?_;rintro e w1⟨rfl,hn⟩;rw[Hf.out,hln.out];have hb1:=below_of_drewN hn;have ho1:=ho.out.below hb1;have hb2:=below_then hb.out hb.out.size hb1;clear hn)
   go_ret3
   exact⟨_,by rw[<-H1.out];rfl,by rw[<-H1.out];exact Own.nil _ _ _,hb2⟩
theorem c26b(s:ByteArray)(w:World)(hs:s.size<=9223372036854775807) :
  Calls Tryz.prog 26 #[.string s] w fun e w'=>e=.returned (.string (B (trim (cutA 58 s.data.toList))))/\Below w.heap.size w w' :=
 (c26 s w hs).mono fun _ _ ⟨he,hn⟩=>⟨he,below_of_drewN hn⟩
theorem c26p(l:List UInt8)(w:World)(hs:(B l).size<=9223372036854775807) :
  Calls Tryz.prog 26 #[.string (B l)] w fun e w'=>e=.returned (.string (B (trim (cutA 58 l))))/\Below w.heap.size w w':=c26b (B l) w hs
theorem c24p(l:List UInt8)(w:World)(hs:(B l).size<=140737488355328) :
  Calls Tryz.prog 24 #[.string (B l)] w fun e w'=>e=.returned (.string (B (lower l)))/\Below w.heap.size w w':=c24 (B l) w hs
theorem Own.cellAt{w:World}{base:Nat}{e:TypeId}{v:Value}{xs:List Value}(h:Own w base e v xs){g n c:Nat}(hv:v=.slice (some ⟨g,0,none⟩) n c){j:Nat}{u:Value}(hu:xs[j]?=some u):w.cell? ⟨g,j,none⟩=some u:=by
 subst hv;have hp:0 < xs.length:=by have:=(List.getElem?_eq_some_iff.1 hu).1;omega
 obtain⟨g',c',he,_,_,_,hc,_⟩:=h.rowFacts hp;injection he with he1
 injection he1 with he1;injection he1 with he1
 subst he1;exact hc j u hu
theorem Own.ne_{w:World}{b b':Nat}{e e':TypeId}{v v':Value}{xs xs':List Value}(h:Own w b e v xs)(h':Own w b' e' v' xs')(hne:e≠e'):v.ownBlock=none\/v.ownBlock≠v'.ownBlock:=by
 rcases h.2 with⟨rfl,_⟩|⟨g,cap,cur,rfl,_,hh,_⟩
 ·exact .inl rfl
 refine .inr fun hk=>?_
 rcases h'.2 with⟨rfl,_⟩|⟨g',cap',cur',rfl,_,hh',_⟩
 ·simp[Value.ownBlock]at hk
 have:g=g':=by simpa [Value.ownBlock]using hk
 subst this;rw[hh]at hh';injection hh' with hh'
 injection hh' with _ ht
 exact hne ht
theorem Own.storeAt{w:World}{base g cap:Nat}{e:TypeId}{n:Nat}{xs:List Value}(h:Own w base e (.slice (some ⟨g,0,none⟩) n cap) xs)(j:Nat)(u:Value):w.frozen? ⟨g,j,none⟩=false/\Own (w.setCell ⟨g,j,none⟩ u) base e (.slice (some ⟨g,0,none⟩) n cap) (xs.set j u)/\w.grownBy (w.setCell ⟨g,j,none⟩ u) (some g):=by
 have hn:n=xs.length:=by have:=h.slice;obtain⟨A,c,he,_⟩:=this;injection he
 subst hn;exact⟨World.ownsRow.frozenAt h j,h.set_ j u,(World.ownsRow.stored (w:=w) h j u).2⟩
theorem wp_app1q{ops:Array Oper}{rest:List Oper}{o:Oper}{a:Act}{Q:Exit->Act->World->Prop}{t e bytes:Nat}{z:Value}{s x:Operand}{w:World}{base:Nat}{v:Value}{xs:List Value}{u:Value}
  (ht:Tryz.prog.underlying t=some (.slice e))(hinfo:(Tryz.prog.info? e).map (fun i=>(i.zero,i.size,i.bytes))=some (some z,1,bytes))(hz:z.cells.size=1)
  (hgd:o.guard=none)(ho:o.op=.call { callee:=.builtin .append,args:=#[s,x],argTypes:=#[t,t] })
  (hs:a.eval s=v) (how:Own w base e v xs) (hbs:base<=w.heap.size) (hu:u.oneCell'=true) (hx:a.eval x=.slice (some ⟨w.heap.size,0,none⟩) 1 1)
  (hlen:(xs.length+1)*bytes<=140737488355328) (hb1:0 < bytes)
  (h:∀v' w',Own w' base e v' (xs++[u])->w.grownBy w' v.ownBlock->(∀w0,Below base w0 w->Below base w0 w')->(v'.ownBlock=v.ownBlock\/v'.ownBlock=some (w.heap.size+1))->wpList Tryz.prog ops Q rest (a.put o.dst v') w') :
  wpList Tryz.prog ops Q (o::rest) a (w.alloc (.cells #[u] e)):=wp_app1 ht hinfo hz hgd s x ho hs how hbs u hu hx hlen hb1 h
theorem info4 : (Tryz.prog.info? 4).map (fun i=>(i.zero,i.size,i.bytes))=some (some (.bool false),1,1):=by kernel_rfl
theorem make_bools(n:Nat)(hn:n<=140737488355328)(W:World):(Instr.makeSlice 204 (.int .i64 (n:Int)) (.int .i64 (n:Int))).run Tryz.prog W=.ok (.slice (some ⟨W.heap.size,0,none⟩) n n) (W.alloc (.cells (madeCells #[.bool false] n) 4)):=by
 obtain⟨i,hi,hz0,hz1,hz2⟩:=info_parts info4;have:=run_make (P:=Tryz.prog) W 204 4 i (.bool false) Tryz.underlying204 hi hz0 .i64 .i64 n n (by omega) (Int.le_refl _) (by rw[hz2];omega) (by omega);simp only[Int.toNat_natCast,hz1,Nat.mul_one]at this;exact this
theorem own_bools(n:Nat)(hn:n<=140737488355328)(W:World)(base:Nat)(hb:base<=W.heap.size):Own (W.alloc (.cells (madeCells #[.bool false] n) 4)) base 4 (.slice (some ⟨W.heap.size,0,none⟩) n n) ((List.replicate n false).map Value.bool):=by
 refine⟨by simp,.inr ⟨W.heap.size,n,madeCells #[.bool false] n,by simp,hb,heap_alloc_new W _,by simp,by simp[maxLen];omega,by rw[size_madeCells];simp,?_⟩⟩;simp only[List.length_map,List.length_replicate,Nat.mul_one];rw[List.take_of_length_le (by simp[size_madeCells])];apply List.ext_getElem
 ·simp[size_madeCells]
 intro j h1 h2;simp[madeCells,Nat.mod_one]
def keyOf(f:List UInt8):List UInt8:=lower (trim (cutA 58 f))
def nthM(key:List UInt8):Nat->List (List UInt8)->List UInt8
 |_,[]=>[]
 |c,f::l=>if keyOf f=key then(if c=0 then f else nthM key (c - 1) l)else nthM key c l
def cntF(key:List UInt8)(l:List (List UInt8)):Nat:=l.countP (fun f=>keyOf f == key)
def cntK(key:List UInt8)(l:List (List UInt8)):Nat:=l.countP (fun n=>lower n == key)
def pickedN(fields:List (List UInt8)):List (List UInt8)->List (List UInt8)->List (List UInt8)
 |_,[]=>[]
 |done,n::l=>nthM (lower n) (cntK (lower n) done) fields.reverse::pickedN fields (done++[n]) l
def usedOk(fields:List (List UInt8))(done:List (List UInt8))(us:List Bool):Prop :=
 us.length=fields.length/\∀(k:Nat) (f:List UInt8),fields[k]?=some f->us[k]?=some (decide (cntF (keyOf f) (fields.drop (k+1)) < cntK (keyOf f) done))
theorem cntK_snoc(key:List UInt8)(done:List (List UInt8))(n:List UInt8):cntK key (done++[n])=cntK key done+if lower n=key then 1 else 0:=by
 unfold cntK;rw[List.countP_append];simp[List.countP_cons]
theorem cntF_drop(key:List UInt8)(fields:List (List UInt8))(k:Nat)(f:List UInt8)(h:fields[k]?=some f):cntF key (fields.drop k)=cntF key (fields.drop (k+1))+if keyOf f=key then 1 else 0:=by
 obtain⟨hk,rfl⟩:=List.getElem?_eq_some_iff.1 h;rw[List.drop_eq_getElem_cons hk];unfold cntF;rw[List.countP_cons];simp
theorem cntF_mono(key:List UInt8)(fields:List (List UInt8))(j k:Nat)(h:j<=k):cntF key (fields.drop k)<=cntF key (fields.drop j):=by
 have:fields.drop k=(fields.drop j).drop (k - j):=by rw[List.drop_drop];congr 1;omega
 rw[this];unfold cntF;exact List.Sublist.countP_le (List.drop_sublist _ _)
theorem usedOk_none{fields done:List (List UInt8)}{us:List Bool}{n:List UInt8}(h:usedOk fields done us)(hn:cntF (lower n) fields<=cntK (lower n) done):usedOk fields (done++[n]) us:=by
 refine⟨h.1,fun k f hf=>?_⟩;rw[h.2 k f hf,cntK_snoc];congr 1
 by_cases hk:lower n=keyOf f
 ·rw[if_pos hk]
  have h1:=cntF_drop (keyOf f) fields k f hf;rw[if_pos rfl]at h1;have h2:=cntF_mono (keyOf f) fields 0 k (Nat.zero_le _);rw[List.drop_zero]at h2;rw[hk]at hn;rw[decide_eq_true (by omega),decide_eq_true (by omega)]
 rw[if_neg hk];rfl
theorem usedOk_found{fields done:List (List UInt8)}{us:List Bool}{n f0:List UInt8}{k0:Nat}(h:usedOk fields done us)(hf0:fields[k0]?=some f0)(hk0:keyOf f0=lower n)(hc:cntF (lower n) (fields.drop (k0+1))=cntK (lower n) done):usedOk fields (done++[n]) (us.set k0 true):=by
 refine⟨by simp[h.1],fun k f hf=>?_⟩;have hkl:k < us.length:=by rw[h.1];exact(List.getElem?_eq_some_iff.1 hf).1
 rw[List.getElem?_set];by_cases hkk:k0=k
 ·subst hkk
  rw[hf0]at hf;obtain rfl:=Option.some.inj hf;rw[if_pos rfl,if_pos hkl,cntK_snoc,if_pos hk0.symm,hk0,hc];simp
 rw[if_neg hkk,h.2 k f hf,cntK_snoc];congr 1
 by_cases hk:lower n=keyOf f
 ·rw[if_pos hk]
  have h1:=cntF_drop (keyOf f) fields k f hf;rw[if_pos rfl]at h1;have h3:=cntF_drop (keyOf f) fields k0 f0 hf0;rw[if_pos (hk0.trans hk)]at h3;rw[hk]at hc;rcases Nat.lt_or_gt_of_ne hkk with hlt|hgt
  ·have h2:=cntF_mono (keyOf f) fields (k0+1) k (by omega)
   rw[decide_eq_true (by omega),decide_eq_true (by omega)]
  have h2:=cntF_mono (keyOf f) fields (k+1) k0 (by omega);rw[decide_eq_false (by omega),decide_eq_false (by omega)]
 rw[if_neg hk];rfl
end Go.Proofs.YtnkihlpmmfeioaaGreatDoor
