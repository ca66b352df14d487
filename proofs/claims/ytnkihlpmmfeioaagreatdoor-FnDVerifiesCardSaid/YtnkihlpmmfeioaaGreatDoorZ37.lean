/- Part of the proof that laws.FnDVerifies answers true: P4,A79,A80,K11,A90 -/
import Derived.Lib.ParseIntB
import Derived.Test.YtnkihlpmmfeioaaGreatDoorZ36
set_option linter.unusedVariables false
set_option linter.unusedSimpArgs false
set_option maxRecDepth 1000000
set_option maxHeartbeats 16000000
namespace Go.Proofs.YtnkihlpmmfeioaaGreatDoor
open Go.RowKit
theorem pu_mono(M:Nat):∀(l:List UInt8) (acc u:Nat),Lib.parseUintM M acc l=.ok u->acc<=u:=by
 intro l;induction l with
 |nil=>intro acc u h;simp[Lib.parseUintM]at h;omega
 |cons c r ih =>
  intro acc u h;rw[Lib.parseUintM]at h;split at h
  ·split at h
   ·cases h
   split at h
   ·cases h
   have:=ih _ _ h;omega
  cases h
theorem pu_digits : ∀(l:List UInt8) (acc:Nat),acc<=9223372036854775808 ->
  digits (acc:Int) l=(match Lib.parseUintM (2 ^ 64 - 1) acc l with|.ok u=>if u<=9223372036854775808 then some (u:Int)else none|_=>none):=by
 intro l;induction l with
 |nil=>intro acc h;simp[digits,Lib.parseUintM,h]
 |cons c r ih =>
  intro acc h;rw[digits,Lib.parseUintM];by_cases hd:48<=c.toNat/\c.toNat<=57
  ·rw[if_neg (by omega),if_pos hd]
   by_cases hb:(9223372036854775808 - ((c.toNat:Int) - 48)) / 10 < (acc:Int)
   ·rw[if_pos hb]
    by_cases h1:1844674407370955162<=acc
    ·rw[if_pos h1]
    rw[if_neg h1];by_cases h2:2 ^ 64 - 1 < acc*10+(c.toNat - 48)
    ·rw[if_pos h2]
    rw[if_neg h2];cases hp:Lib.parseUintM (2 ^ 64 - 1) (acc*10+(c.toNat - 48)) r with
    |ok u =>
     have:=pu_mono _ _ _ _ hp;simp only;rw[if_neg (by omega)]
    |_=>rfl
   rw[if_neg hb,if_neg (by omega),if_neg (by omega)];have:=ih (acc*10+(c.toNat - 48)) (by omega);rw[<-this];congr 1
   omega
  rw[if_pos (by omega),if_neg hd]
theorem wholeR_pu(m:Bool)(r:List UInt8):wholeR m r=(match Lib.parseUintB 64 r with
  |.ok u=>if u<=9223372036854775808 then(if m=true then some (-(u:Int))else if u=9223372036854775808 then none else some (u:Int))else none
  |_=>none):=by
 unfold wholeR Lib.parseUintB;by_cases h:r=[]
 ·rw[if_pos h,if_pos h]
 rw[if_neg h,if_neg h];have:=pu_digits r 0 (by omega);rw[show((0:Nat):Int)=0 from rfl]at this;rw[this];cases hp:Lib.parseUintM (2 ^ 64 - 1) 0 r with
 |ok u =>
  simp only;by_cases hu:u<=9223372036854775808
  ·rw[if_pos hu,if_pos hu]
   simp only;cases m with
   |true=>rfl
   |false =>
    simp only[Bool.false_eq_true,if_false];by_cases he:u=9223372036854775808
    ·rw[if_pos he,if_pos (by omega)]
    rw[if_neg he,if_neg (by omega)]
  rw[if_neg hu,if_neg hu]
 |_=>rfl
theorem neg_end(u:Nat):(if u<=9223372036854775808 then some (-(u:Int))else none) =
  (match (if ¬True/\2 ^ (64 - 1)<=u then Lib.NumEnd.range else if True/\2 ^ (64 - 1) < u then .range else .ok (if True then -(u:Int)else(u:Int)))with|.ok v=>some v|_=>none):=by
 rw[if_neg (by simp:¬(¬True/\2 ^ (64 - 1)<=u))];by_cases h:u<=9223372036854775808
 ·rw[if_pos h,if_neg (by omega)];simp
 rw[if_neg h,if_pos ⟨trivial,by omega⟩]
theorem pos_end(u:Nat):(if u<=9223372036854775808 then(if u=9223372036854775808 then none else some (u:Int))else none) =
  (match (if ¬False/\2 ^ (64 - 1)<=u then Lib.NumEnd.range else if False/\2 ^ (64 - 1) < u then .range else .ok (if False then -(u:Int)else(u:Int)))with|.ok v=>some v|_=>none):=by
 rcases Nat.lt_trichotomy u 9223372036854775808 with h|h|h
 ·rw[if_pos (by omega:u<=9223372036854775808),if_neg (by omega:¬u=9223372036854775808),if_neg (fun q:¬False/\2 ^ (64 - 1)<=u=>by have:=q.2;omega),if_neg (fun q:False/\2 ^ (64 - 1) < u=>q.1)];simp
 ·subst h;simp
 rw[if_neg (by omega:¬u<=9223372036854775808),if_pos (⟨id,by omega⟩:¬False/\2 ^ (64 - 1)<=u)]
theorem whole_parse(l:List UInt8):whole l=(match Lib.parseIntB 64 l with|.ok v=>some v|_=>none):=by
 cases l with
 |nil=>rfl
 |cons c r =>
  rw[whole,Lib.parseIntB];by_cases h45:c.toNat=45
  ·rw[if_pos (by omega),if_pos (.inr h45),wholeR_pu]
   cases hp:Lib.parseUintB 64 r with
   |ok u =>
    have:=neg_end u;simp only[eq_true h45]at this ⊢
    simpa using this
   |_=>rfl
  rw[if_neg (by omega)];by_cases h43:c.toNat=43
  ·rw[if_pos (by omega),if_pos (.inl h43),wholeR_pu]
   cases hp:Lib.parseUintB 64 r with
   |ok u =>
    have:=pos_end u;simp only[eq_false h45]at this ⊢
    simpa using this
   |_=>rfl
  rw[if_neg (by omega),if_neg (fun h=>h.elim h43 h45),wholeR_pu];cases hp:Lib.parseUintB 64 (c::r)with
  |ok u =>
   have:=pos_end u;simp only[eq_false h45]at this ⊢
   simpa using this
  |_=>rfl
def quoteM(l:List UInt8):List UInt8:=34::(l.flatMap escM++[34])
theorem flat_len(l:List UInt8):(l.flatMap escM).length<=4*l.length:=by
 induction l with
 |nil=>simp
 |cons x l ih=>rw[List.flatMap_cons,zA,List.length_cons];have:=escM_len x;omega
theorem ext1(x:UInt8)(m:List UInt8):(B (x::m)).extract 1 (B (x::m)).size=B m:=by
 rw[<-B_L ((B (x::m)).extract 1 (B (x::m)).size),L_extract,L_B,size_B];simp
theorem c278(A:Option Addr)(cc:Nat)(l:List UInt8)(base:Nat)(w:World)(hO:OwnB w base (.slice A 0 cc) [])(hb:base<=w.heap.size)(hcc:l.length<=cc)(hl:l.length<=268435456)(hp:plainL l) :
  Calls Tryz.prog 278 #[.slice A 0 cc,.string (B l),.int .u8 34,.bool false,.bool false] w fun e w'=>∃v',e=.returned v'/\OwnB w' base v' (quoteM l)/\Below base w w':=by
 have a1:¬((cc:Int) < ((B l).size:Int)):=by rw[size_B];omega
 have hcM:cc<=maxLen:=by obtain⟨A',c',he,_,h2,_⟩:=hO.slice;injection he with _ _ e3;omega
 unfold maxLen at hcM;have e1:IntKind.i64.wrap ((cc:Int) - 0)=(cc:Int):=by rw[Int.sub_zero,IntWalk.i64_in _ (by omega)]
 have HO:=zH hO;have HP:=zH hp;clear hO hp;go_enter Tryz.func278,Tryz.ntmps278;go_wp2_with (at_builtin;refine wp_appb rfl (.tmp 36) (.tmp 38) rfl 34 rfl rfl HO.out (by simp) hb ?_;intro v2 w2 hO2 hg2 hb2 hl2;have hb3:=hb2 _ (zB _ _);have HO2:=zH hO2;have HB3:=zH hb3;clear hO2 hg2 hb2 hl2 hb3);go_loopg [0,1] l.length (fun g v0 v1 W=>∃(done rest:List UInt8),v1=.string (B rest)/\Hid (l=done++rest/\rest.length<=g/\OwnB W base v0 (34::done.flatMap escM)/\Below base w W))
 case atStart=>exact⟨[],l,rfl,rfl,zR _,by simpa using HO2.out,HB3.out⟩
 obtain⟨done,rest,rfl,HI⟩:=hrel;obtain⟨wo,hwo⟩:∃wo:World,wo=wr:=⟨_,rfl⟩;rw[<-hwo]at HI ⊢;clear hwo;obtain⟨hdr,hrg,hO,hB⟩:=HI.out;have hlen:=congrArg List.length hdr;rw[zA]at hlen;have hfl:=flat_len done;have hsz:base<=wo.heap.size:=zT hb hB.size;cases rest with
 |nil =>
  have z1:¬((0:Int) < ((B []).size:Int)):=by rw[size_B];simp
  have hd:Hid (done=l):=by rw[hdr,List.append_nil];exact rfl
  have HO1:=zH hO;have HB1:=zH hB;clear hdr hO hB HI;go_wp2_with (at_builtin;refine wp_appb rfl (.tmp 79) (.tmp 81) rfl 34 rfl rfl HO1.out (by simp only[List.length_cons];omega) hsz ?_;intro v3 w3 hO3 hg3 hb4 hl3;have hb5:=hb4 _ HB1.out);go_ret
  exact⟨_,rfl,by rw[hd.out]at hO3;simpa [quoteM]using hO3,hb5⟩
 |cons x m =>
  have z1:(0:Int) < ((B (x::m)).size:Int):=by rw[size_B,List.length_cons];omega
  have hxp:plainB x:=HP.out x (by rw[hdr];simp);have hx1:=hxp.1;have hxe:((x.toNat:Int) == 65533)=false:=zF (by omega);have hex:=ext1 x m;have z2:(1:Int)<=((B (x::m)).size:Int):=by rw[size_B,List.length_cons];omega
  have hml:m.length<=1073741824:=by simp only[List.length_cons]at hlen;omega
  have HN:Hid (l=(done++[x])++m/\m.length < gk):=⟨by rw[hdr];simp,by simp only[List.length_cons]at hrg;omega⟩;have HO1:=zH hO;have HB1:=zH hB;have HX:=zH hxp;clear hdr hO hB HI hxp hrg;go_wp2_with (first
   |(go_at_call 279;refine(c279 m x _ hx1 hml).mono ?_;rintro e w1⟨rfl,rfl⟩)
   |(go_at_call 280;refine(c280 _ _ x base _ HO1.out hsz (by simp only[List.length_cons];omega) HX.out).mono ?_;rintro e w3⟨v3,rfl,hO3,hb3⟩;have HO3:=zH hO3;have HB5:=zH (HB1.out.trans hb3);clear hO3 hb3))
  go_roundg m.length
  case measure=>exact HN.out.2
  case rel=>exact⟨done++[x],m,rfl,HN.out.1,zR _,by have:=HO3.out;simpa using this,HB5.out⟩
theorem c277(l:List UInt8)(w:World)(hl:l.length<=268435456)(hp:plainL l):Calls Tryz.prog 277 #[.string (B l),.int .u8 34,.bool false,.bool false] w fun e w'=>e=.returned (.string (B (quoteM l)))/\Below w.heap.size w w':=by
 obtain⟨c2,hc2⟩:∃c2:Nat,Hid (c2=3*l.length / 2):=⟨_,rfl⟩;obtain⟨t3,ht3⟩:∃t3:Nat,Hid (t3=3*l.length):=⟨_,rfl⟩;have e0:IntKind.i64.wrap (3*((B l).size:Int))=(t3:Int):=by
  have:=ht3.out;rw[size_B,IntWalk.i64_in (3*(l.length:Int)) (by omega)];omega
 have e1:IntKind.i64.wrap ((t3:Int) / 2)=(c2:Int):=by
  have:=hc2.out;have:=ht3.out;rw[IntWalk.i64_in _ (by omega)];omega
 have hmk:=fun W=>make_bytes c2 (by have:=hc2.out;omega) W
 have hO:Hid (OwnB (w.alloc (.cells (madeCells #[.int .u8 0] c2) 5)) w.heap.size (.slice (some ⟨w.heap.size,0,none⟩) 0 c2) []):=own_made c2 (by have:=hc2.out;omega) w w.heap.size (zR _);have hB0:Hid (Below w.heap.size w (w.alloc (.cells (madeCells #[.int .u8 0] c2) 5))):=(zB _ w).alloc (zR _) _;go_enter Tryz.func277,Tryz.ntmps277;go_wp2_with (go_at_call 278;refine(c278 _ c2 l w.heap.size _ hO.out (by simp) (by have:=hc2.out;omega) hl hp).mono ?_;rintro e w2⟨v2,rfl,hO2,hb2⟩;have hcv:=hO2.str;have hb3:=hB0.out.trans hb2);go_ret
 exact⟨rfl,hb3⟩
theorem c276(l:List UInt8)(w:World)(hl:l.length<=268435456)(hp:plainL l):Calls Tryz.prog 276 #[.string (B l)] w fun e w'=>e=.returned (.string (B (quoteM l)))/\Below w.heap.size w w':=by
 go_enter Tryz.func276,Tryz.ntmps276;go_wp2_with (go_at_call 277;refine(c277 l _ hl hp).mono ?_;rintro e w2⟨rfl,hb2⟩);go_ret
 exact⟨rfl,hb2⟩
theorem m235(q:Addr)(V:World):(method 488 235 (.pointer (some q)) "Error").run Tryz.prog V=.ok (270,.pointer (some q)) V:=by kernel_rfl
theorem cf270(l:Array Value)(V:World):(callFunc 270 l).run Tryz.prog V=.ok (.enter 270 l) V:=by kernel_rfl
def parseIntL : ByteArray:=⟨#[80,97,114,115,101,73,110,116]⟩
theorem c275(N:Nat)(num:List UInt8)(p:Addr)(txt:ByteArray)(w:World)(h:Blk w N #[.string parseIntL,.string (B num),.iface 235 (.pointer (some p))] 306)(hp:plainL num)(hl:num.length<=268435456)(ht:w.cell? p=some (.string txt))(htl:txt.size<=1073741824) :
  Calls Tryz.prog 275 #[.pointer (some ⟨N,0,none⟩)] w fun e w'=>(∃m,e=.returned (.string m)/\m.size<=9000000000000000)/\Below w.heap.size w w':=by
 have hfl:=flat_len num;have hsz:("strconv.".toUTF8++parseIntL ++ ": ".toUTF8 ++ "parsing ".toUTF8++B (quoteM num) ++ ": ".toUTF8++txt).size<=9000000000000000:=by
  have h1:parseIntL.size=8:=rfl;have h2:(B (quoteM num)).size=(num.flatMap escM).length+2:=by rw[size_B];simp[quoteM]
  have h3 : "strconv.".toUTF8.size=8:=rfl;have h4 : ": ".toUTF8.size=2:=rfl;have h5 : "parsing ".toUTF8.size=8:=rfl;simp only[ByteArray.size_append];rw[h1,h2,h3,h4,h5];omega
 refine(Tryz.NumError_Error N 0 parseIntL (B num) (B (quoteM num)) txt 235 (.pointer (some p)) 270 (.pointer (some p)) w (h.cell 0) (h.cell 1) (h.cell 2) ?_ (fun W _=>c276 num W hl hp) (fun W=>?_) (fun args W=>?_) (fun W hW=>?_)).mono fun e w' ⟨h1,h2⟩=>⟨⟨_,h1,hsz⟩,h2⟩
 ·have h1:parseIntL.size=8:=rfl
  have h2:(B (quoteM num)).size=(num.flatMap escM).length+2:=by rw[size_B];simp[quoteM]
  rw[h1,h2];omega
 ·have h488:Tryz.prog.types.size+100=488:=by kernel_rfl
  rw[h488];exact m235 p W
 ·exact cf270 args W
 exact(c270 p txt W ((hW.cell (cell_lt ht)).trans ht)).mono fun e w' ⟨h1,h2⟩=>⟨h1,by rw[<-h2];exact zB _ _⟩
def TimeAt(w:World)(t err:Value)(pS pR:Addr)(num:List UInt8):Option Int->Prop
 |some n=>t=.agg #[.int .i64 n,.bool true]/\err=.nilIface
 |none=>t=.agg #[.int .i64 0,.bool false]/\∃N p,err=.iface 294 (.pointer (some ⟨N,0,none⟩))/\(p=pS\/p=pR)/\Blk w N #[.string parseIntL,.string (B num),.iface 235 (.pointer (some p))] 306
theorem c135(l:List UInt8)(w:World)(pS pR:Addr)(hl:l.length<=268435456)(hS:w.cell? ⟨9,0,none⟩=some (.iface 235 (.pointer (some pS))))(hR:w.cell? ⟨10,0,none⟩=some (.iface 235 (.pointer (some pR)))) :
  Calls Tryz.prog 135 #[.string (B l),.int .i64 10,.int .i64 64] w fun e w'=>∃n err,e=.returned (.tuple #[.int .i64 n,err])/\(match whole l with|some m=>n=m/\err=.nilIface|none=>∃N p,err=.iface 294 (.pointer (some ⟨N,0,none⟩))/\(p=pS\/p=pR)/\Blk w' N #[.string parseIntL,.string (B l),.iface 235 (.pointer (some p))] 306/\w.heap.size<=N)/\Below w.heap.size w w':=by
 have hsz:(B l).size<=281474976710656:=by rw[size_B];omega
 cases h:Lib.parseIntB 64 l with
 |ok v =>
  rw[show whole l=some v from by rw[whole_parse,h]];refine(Tryz.strconv_ParseInt_10_at64_ok (B l) (by omega) v h w).mono fun e w' ⟨h1,h2⟩=>⟨v,.nilIface,h1,⟨rfl,rfl⟩,?_⟩
  rcases h2 with rfl|⟨t,rfl⟩
  ·exact zB _ _
  exact below_bytes (zB _ _) (zR _) _
 |range =>
  rw[show whole l=none from by rw[whole_parse,h]];exact(Tryz.strconv_ParseInt_10_at64_range (B l) hsz h _ w hR (.inr ⟨_,_,rfl⟩)).mono fun e w' ⟨N,h1,h2,h3,h4⟩=>⟨_,_,h1,⟨N,pR,rfl,.inr rfl,h3,h2⟩,h4⟩
 |_ =>
  rw[show whole l=none from by rw[whole_parse,h]];exact(Tryz.strconv_ParseInt_10_at64_syntax (B l) hsz (fun v q=>by rw[L_B,h]at q;cases q) (fun q=>by rw[L_B,h]at q;cases q) _ w hS (.inr ⟨_,_,rfl⟩)).mono fun e w' ⟨N,h1,h2,h3,h4⟩=>⟨0,_,h1,⟨N,pS,rfl,.inl rfl,h3,h2⟩,h4⟩
theorem c100(l:List UInt8)(w:World)(pS pR:Addr)(hl:l.length<=268435456)(hp:plainL l)(hS:w.cell? ⟨9,0,none⟩=some (.iface 235 (.pointer (some pS))))(hR:w.cell? ⟨10,0,none⟩=some (.iface 235 (.pointer (some pR)))) :
  Calls Tryz.prog 100 #[.string (B l)] w fun e w'=>∃t err,e=.returned (.tuple #[t,err])/\TimeAt w' t err pS pR (strip l) (whole (strip l))/\Below w.heap.size w w':=by
 have hst:=strip_le l;have hbt:Hid (Blk (w.alloc (.cells #[.int .i64 0,.bool false] 75)) w.heap.size #[.int .i64 0,.bool false] 75):=Blk.new _ _ _;have hB0:Hid (Below w.heap.size w (w.alloc (.cells #[.int .i64 0,.bool false] 75))):=(zB _ w).alloc (zR _) _;have HS:=zH hS;have HR:=zH hR;have HP:=zH hp;obtain⟨O,hO⟩:∃O,Hid (whole (strip l)=O):=⟨_,rfl⟩;rw[hO.out];clear hS hR hp;go_enter Tryz.func100,Tryz.ntmps100;go_upto_region 2 with(first
  |(go_at_call 98;refine(c98p l _ (by rw[size_B];omega) HP.out).mono ?_;rintro e w1⟨rfl,hb1⟩;have hb1':=hB0.out.trans (hb1.mono (by simp)))
  |(go_at_call 135;refine(c135 (strip l) _ pS pR (by omega) ((hb1'.cell (cell_lt HS.out)).trans HS.out) ((hb1'.cell (cell_lt HR.out)).trans HR.out)).mono ?_;rintro e w2⟨n,err,rfl,hm,hb2⟩;rw[hO.out]at hm))
 have hgt:w.heap.size < (w.alloc (.cells #[.int .i64 0,.bool false] 75)).heap.size:=by simp
 have hw1:w.heap.size < w1.heap.size:=zL hgt hb1.size;have hb12:=hb1.trans (hb2.mono hb1.size);have hq:Blk w2 w.heap.size #[.int .i64 0,.bool false] 75:=hbt.out.below hb12 hgt;have hb2w:Below w.heap.size w w2:=hB0.out.trans (hb12.mono (by simp));have p0:=hq.cell 0;have p1:=hq.cell 1;have f0:=hq.frozen 0;have f1:=hq.frozen 1;have HQ:=zH hq;have HB2:=zH hb2w;clear hb1 hb2 hb12 hq hb2w hb1';cases O with
 |some m =>
  obtain⟨rfl,rfl⟩:=hm;go_wp2_with (go_at_call 39;refine(c39 n _).mono ?_;rintro e w3⟨rfl,hb3⟩;have hq3:=HQ.out.below hb3 HQ.out.lt;have g0:=Blk.frozen hq3 0;have g1:=Blk.frozen hq3 1;have q0:=Blk.cell hq3 0;have q1:=Blk.cell hq3 1;have hb4:=HB2.out.trans (hb3.mono HB2.out.size));have hfin:Blk ((w3.setCell ⟨w.heap.size,0,none⟩ (.int .i64 n)).setCell ⟨w.heap.size,1,none⟩ (.bool true)) w.heap.size #[.int .i64 n,.bool true] 75:=((hq3.set_ 0 _).set_ 1 _).to (by simp);refine bodyPost_ret (results_cell_tmp rfl _ _ _ _ (by rfl) hfin (run_loadVar_row _ _ _ _ _ _ _ hfin Tryz.underlying75 rfl (by kernel_rfl))) rfl ?_;exact⟨_,_,rfl,⟨rfl,rfl⟩,below_set (below_set hb4 (zR _)) (zR _)⟩
 |none =>
  obtain⟨N,p,rfl,hpp,hN,hNl⟩:=hm;have hne:N≠w.heap.size:=by omega
  have HN:=zH hN;clear hN;go_wp2;have hfin:Blk ((w2.setCell ⟨w.heap.size,0,none⟩ (.int .i64 0)).setCell ⟨w.heap.size,1,none⟩ (.bool false)) w.heap.size #[.int .i64 0,.bool false] 75:=((HQ.out.set_ 0 _).set_ 1 _).to (by simp);refine bodyPost_ret (results_cell_tmp rfl _ _ _ _ (by rfl) hfin (run_loadVar_row _ _ _ _ _ _ _ hfin Tryz.underlying75 rfl (by kernel_rfl))) rfl ?_;exact⟨_,_,rfl,⟨rfl,N,p,rfl,hpp,(HN.out.setNe hne).setNe hne⟩,below_set (below_set HB2.out (zR _)) (zR _)⟩
theorem joined_le' : ∀(l:List UInt8) (ne wt:Bool),(joined ne wt l).length<=l.length+(if wt=true then 1 else 0):=by
 intro l;induction l with
 |nil=>intro ne wt;exact Nat.zero_le _
 |cons c l ih =>
  intro ne wt;rw[joined];split
  ·have:=ih ne ne
   rw[List.length_cons];split at this <;> omega
  have:=ih true false;rw[if_neg Bool.false_ne_true]at this;split
  ·rename_i h;rw[List.length_cons,List.length_cons,List.length_cons];omega
  rw[List.length_cons,List.length_cons];omega
theorem fieldOf_le'(form l:List UInt8):(fieldOf form l).length<=l.length+3:=by
 unfold fieldOf;split
 ·omega
 split
 ·rename_i h
  have h1:=trim_le (lower (cutA 58 l));have h2:=joined_le' (cutZ 58 l) false false;have h3:=cut_len 58 l h;rw[lower_len]at h1;rw[if_neg Bool.false_ne_true]at h2;simp only[zA,List.length_cons,List.length_nil];omega
 have h1:=trim_le (lower l);rw[lower_len]at h1;simp only[zA,List.length_cons,List.length_nil];omega
theorem plain_strip{l:List UInt8}(h:plainL l):plainL (strip l):=by
 induction l with
 |nil=>exact h
 |cons x l ih =>
  have h2:=ih fun c hc=>h c (List.mem_cons_of_mem _ hc)
  rw[strip];split
  ·exact h2
  intro c hc;rcases List.mem_cons.1 hc with rfl|hc
  ·exact h _ (List.mem_cons_self ..)
  exact h2 _ hc
theorem OwnM.same{w w':World}{b n:Nat}{D:List (List UInt8 × List UInt8)}(h:OwnM w b n D)(hb:w'.heap[b]?=w.heap[b]?):OwnM w' b n D:=by
 obtain⟨M,⟨es,clock,h1,h2⟩,h3⟩:=h;exact⟨M,⟨es,clock,hb.trans h1,h2⟩,h3⟩
theorem RdS.gr{S:Nat->Prop}{w w':World}{A:Option Addr}{n c:Nat}{xs:List (List UInt8)}(h:RdS w (.slice A n c) xs)(hG:Gr S w w')(hS:∀a,A=some a->¬S a.block):RdS w' (.slice A n c) xs:=by
 obtain⟨A',c',h1,hc,hl,hA⟩:=h;injection h1 with e1 e2 e3
 subst e1 e2 e3;refine⟨_,_,rfl,hc,hl,fun h0=>?_⟩;obtain⟨g,off,rfl,hcell⟩:=hA h0;exact⟨g,off,rfl,fun i x hx=>(World.cell?_of_block (a:=⟨g,off+i,none⟩) (hG.block g (cell_lt (hcell i x hx)) (hS _ rfl))).trans (hcell i x hx)⟩
structure VZ(w0:World)(Z:Nat->Prop)(g0 tyr po cH:Nat)(AH:Option Addr)(pr:Value)(pa:Addr)(v0:Value)(recs:List Rec)(pS pR:Addr)(txS txR:ByteArray)(now:Int)(nb:Bool)(body field:List UInt8)(fields:List (List UInt8)):Prop where
 row:RdS w0 (.slice AH fields.length cH) fields
 kr:KRow w0
 opt:VO w0 po pa v0 recs
 nowI:w0.cell? ⟨po,2,none⟩=some (.int .i64 now)
 nowB:w0.cell? ⟨po,3,none⟩=some (.bool nb)
 rdr:RdrAt w0 Z g0 tyr pr body
 g0le:g0<=w0.heap.size
 zlt:∀k,Z k->k < g0
 ah:∀a,AH=some a->a.block < w0.heap.size/\¬Z a.block
 z6:¬Z 6
 es:w0.cell? ⟨9,0,none⟩=some (.iface 235 (.pointer (some pS)))
 er:w0.cell? ⟨10,0,none⟩=some (.iface 235 (.pointer (some pR)))
 ts:w0.cell? pS=some (.string txS)/\txS.size<=1073741824
 tr:w0.cell? pR=some (.string txR)/\txR.size<=1073741824
 req:∃rv,w0.cell? ⟨1,0,none⟩=some rv/\RdS w0 rv reqd
 rk:recsOk recs/\∀r∈recs,allLe 100000000 r.tx
 fn:fields.length<=20000
 fl1:allLe 20000 fields
 fp1:∀f∈fields,plainL f
 bl:body.length<=20000000
 fp:plainL field
 fl:field.length<=20000
def VerB(W:World)(vp:Nat)(T:List Pair)(c:Int):Prop :=
 ∃(d i:ByteArray) (hk:Value) (ks:List (List UInt8)) (tn xn:Int) (tb xb:Bool),Blk W vp #[.string d,.string i,hk,.int .i64 tn,.bool tb,.int .i64 xn,.bool xb,.nilIface] 90/\RdS W hk ks /\
  (c=0->d=B (domOf T)/\i=B (identOf T)/\ks=keysOf T/\tn=(timeOf [116] T).getD 0/\xn=(timeOf [120] T).getD 0)
theorem pickedN_len(fields:List (List UInt8)):∀(ks done:List (List UInt8)),(pickedN fields done ks).length=ks.length:=by
 intro ks;induction ks with
 |nil=>intro done;rfl
 |cons k ks ih=>intro done;rw[pickedN_cons,List.length_cons,List.length_cons,ih]
theorem pickedN_all{P:List UInt8->Prop}(h0:P []){fields:List (List UInt8)}(hf:∀f∈fields,P f):∀(ks done:List (List UInt8)),∀x∈pickedN fields done ks,P x:=by
 intro ks;induction ks with
 |nil=>intro done x hx;cases hx
 |cons k ks ih =>
  intro done x hx;rw[pickedN_cons]at hx;rcases List.mem_cons.1 hx with rfl|hx
  ·rcases nthM_mem (lower k) fields.reverse (cntK (lower k) done)with h|h
   ·rw[h];exact h0
   exact hf _ (List.mem_reverse.1 h)
  exact ih _ x hx
theorem flat_le{f:List UInt8->List UInt8}{m:Nat}:∀(l:List (List UInt8)),(∀x∈l,(f x).length<=m)->(l.flatMap f).length<=l.length*m:=by
 intro l;induction l with
 |nil=>intro _;simp
 |cons x l ih =>
  intro h;have h1:=h x (by simp);have h2:=ih fun y hy=>h y (List.mem_cons_of_mem _ hy)
  rw[List.flatMap_cons,zA,List.length_cons,Nat.succ_mul];omega
theorem keysOf_facts{T:List Pair}(hT:∀t,(valOf t T).length<=20000/\plainL (valOf t T)):(keysOf T).length<=20001/\allLe 20000 (keysOf T)/\∀k∈keysOf T,plainL k:=by
 have h1:=(hT [104]).1;have h2:=strip_le (valOf [104] T);refine⟨?_,fun x hx=>?_,fun k hk=>plain_split' (plain_strip (hT _).2) k hk⟩
 ·have:=split_len 58 (strip (valOf [104] T));show(split 58 (strip (valOf [104] T))).length<=_;omega
 have:=split_allLe 58 (strip (valOf [104] T)) x hx;omega
theorem VQ.of{w0 w:World}{Z:Nat->Prop}{g0 tyr po cH:Nat}{AH:Option Addr}{pr:Value}{pa:Addr}{v0:Value}{recs:List Rec}{pS pR:Addr}{txS txR:ByteArray}{now:Int}{nb:Bool}{body field:List UInt8}{fields:List (List UInt8)}{mp nM cK:Nat}{AK:Option Addr}{T:List Pair}(h:VZ w0 Z g0 tyr po cH AH pr pa v0 recs pS pR txS txR now nb body field fields)(hb:Below w0.heap.size w0 w)(hM:OwnM w mp nM T)(hmp:w0.heap.size<=mp)(hT:∀t,(valOf t T).length<=20000/\plainL (valOf t T))
  (hk:RdS w (.slice AK (keysOf T).length cK) (keysOf T))(hak:∀a,AK=some a->w0.heap.size<=a.block/\a.block < w.heap.size):VQ w Z g0 tyr mp nM cH cK AH AK pr body field T fields:=by
 have hs:=hb.size;have hg:=h.g0le;obtain⟨k1,k2,k3⟩:=keysOf_facts hT;refine⟨fun W hG=>⟨?_,?_,?_,?_⟩,rdr_keep h.rdr (hb.mono h.g0le),by omega,fun t=>⟨zT (hT t).1 (by decide),(hT t).2⟩,h.zlt,fun a q=>by have:=(h.ah a q).1;omega,fun a q=>(hak a q).2,fun form=>?_,by omega,by have:=h.fn;omega,fun x hx=>zT (h.fl1 x hx) (by decide),h.fp1,fun x hx=>zT (k2 x hx) (by decide),k3,by have:=h.kr.lt;omega,h.bl,h.fp,by have:=h.fl;omega⟩
 ·exact(h.row.gr (Gr.of_below hb) (S:=fun _=>False) (fun _ _ q=>q)).gr hG (fun a q r=>by have:=h.ah a q;rcases r with r|r;exact this.2 r;omega)
 ·exact hk.gr hG (fun a q r=>by have:=hak a q;rcases r with r|r;(have:=h.zlt _ r;omega);omega)
 ·exact hM.same (hG.block mp hM.lt (fun r=>by rcases r with r|r;(have:=h.zlt _ r;omega);(have:=hM.lt;omega)))
 ·exact fun i x hx=>(World.cell?_of_block (a:=⟨6,i,none⟩) (hG.block 6 (by have:=h.kr.lt;omega) (fun r=>by rcases r with r|r;exact h.z6 r;(have:=h.kr.lt;omega)))).trans ((h.kr.below hb h.kr.lt) i x hx)
 have h1:=flat_le (f:=fldW form) (m:=20003) (pickedN fields [] (keysOf T)) (fun x hx=>?_)
 ·rw[pickedN_len]at h1
  have:(keysOf T).length*20003<=20001*20003:=Nat.mul_le_mul_right _ k1;omega
 have h2:=pickedN_all (P:=fun l=>l.length<=20000) (Nat.zero_le _) h.fl1 _ _ x hx;unfold fldW;split
 ·exact Nat.zero_le _
 have:=fieldOf_le' form x;omega
theorem rdS_list{w:World}{base:Nat}{v:Value}{l:List UInt8}(h:Own w base 9 v ((listOf l).map strV))(hl:l.length<=268435456):RdS w v (listOf l) :=
 h.rdS (by have h1:=split_len 58 (strip l);have h2:=strip_le l;unfold listOf;omega)
theorem VerB.of{w0 w W:World}{Z:Nat->Prop}{g0 tyr po cH:Nat}{AH:Option Addr}{pr:Value}{pa:Addr}{v0:Value}{recs:List Rec}{pS pR:Addr}{txS txR:ByteArray}{now:Int}{nb:Bool}{body field:List UInt8}{fields:List (List UInt8)}{vp:Nat}{T:List Pair}{d i:ByteArray}{tn xn:Int}{tb xb:Bool}{A:Option Addr}{n c:Nat}{ks:List (List UInt8)}{k:Int}(h:VZ w0 Z g0 tyr po cH AH pr pa v0 recs pS pR txS txR now nb body field fields)(hb:Below w0.heap.size w0 w)(hvp:w0.heap.size<=vp)(hv:Blk w vp #[.string d,.string i,(.slice A n c),.int .i64 tn,.bool tb,.int .i64 xn,.bool xb,.nilIface] 90)
  (hk:RdS w (.slice A n c) ks)(hak:∀a,A=some a->w0.heap.size<=a.block/\a.block < w.heap.size)(hG:Gr (fun k=>Z k\/w.heap.size<=k) w W)
  (hc:k=0->d=B (domOf T)/\i=B (identOf T)/\ks=keysOf T/\tn=(timeOf [116] T).getD 0/\xn=(timeOf [120] T).getD 0):VerB W vp T k:=by
 have hg:=h.g0le;have hl:=hv.lt;exact⟨d,i,_,ks,tn,xn,tb,xb,(hG.block vp hl (fun r=>by rcases r with r|r;(have:=h.zlt _ r;omega);omega)).trans hv,hk.gr hG (fun a q r=>by have:=hak a q;rcases r with r|r;(have:=h.zlt _ r;omega);omega),hc⟩
theorem b64_15_18(ct:Code)(h:ct=tlS B64 18):tlS B64 15=joinS 3 (tlS B64 15) ct:=by subst h;kernel_rfl
theorem t15(F:Nat->Value)(ct:Code)(hct:ct=tlS B64 15)(R:Ending->World->Prop)(w0 w:World){Z:Nat->Prop}{g0 tyr po cH:Nat}{AH:Option Addr}{pr:Value}{pa:Addr}{v0:Value}{recs:List Rec}{pS pR:Addr}{txS txR:ByteArray}{now:Int}{nb:Bool}{body field:List UInt8}{fields:List (List UInt8)}{vp mp nM:Nat}{T:List Pair}{tn xn:Int}{tb xb:Bool}{AK:Option Addr}{cK:Nat}(hZ:Hid (VZ w0 Z g0 tyr po cH AH pr pa v0 recs pS pR txS txR now nb body field fields))(hb:Below w0.heap.size w0 w)(hvp:w0.heap.size<=vp)(hvb:Hid (Blk w vp #[.string (B (domOf T)),.string (B (identOf T)),(.slice AK (keysOf T).length cK),.int .i64 tn,.bool tb,.int .i64 xn,.bool xb,.nilIface] 90))(hM:Hid (OwnM w mp nM T))(hmp:w0.heap.size<=mp)(hT:Hid (∀t,(valOf t T).length<=20000/\plainL (valOf t T)))(h0:F 0=.slice AH fields.length cH)(h1:F 1=.iface tyr pr)(h2:F 2=.string (B field))(h4:F 4=.pointer (some ⟨po,0,none⟩))(h12:F 12=.pointer (some ⟨vp,0,none⟩))(h13:F 13=.map (some mp))(h14:F 14=.nilIface)(h21:F 21=.slice AK (keysOf T).length cK)(hkey:Hid (RdS w (.slice AK (keysOf T).length cK) (keysOf T)))(hak:∀a,AK=some a->w0.heap.size<=a.block/\a.block < w.heap.size/\a.block≠vp)(htn:tn=(timeOf [116] T).getD 0)(hxn:xn=(timeOf [120] T).getD 0)(hok:¬(hasTag [113] T=true/\among dnstxtL (listOf (valOf [113] T))=false)->Early T now)
  (hR:∀(err:Value) (w':World),ErrIs err (judgeT fields body field recs now T)->VerB w' vp T (judgeT fields body field recs now T)->Gr (fun k=>Z k\/w0.heap.size<=k) w0 w'->R (.returned (.tuple #[.pointer (some ⟨vp,0,none⟩),err])) w') :
  Code.wp Tryz.prog ct (bodyPost Tryz.prog Tryz.f64 R) ⟨frS 506 F,[]⟩ w:=by
 obtain⟨ct2,hct2⟩:∃ct2,Hid (ct2=tlS B64 18):=⟨_,rfl⟩;subst hct;rw[b64_15_18 ct2 hct2.out];conv=>arg 2;whnf
 simp only[joinS];rw[fr506,h0,h1,h2,h4,h12,h13,h14,h21];have HR:=zH hR;have hA0:Hid (Below w.heap.size w (w.alloc (.cells #[.string ⟨#[100,110,115,47,116,120,116]⟩] 9))):=(zB _ w).alloc (zR _) _;have hk113:=(hM.out.below hA0.out).look_ok ⟨#[113]⟩ (by decide);rw[show(⟨#[113]⟩:ByteArray).data.toList=[113]from rfl]at hk113;clear hR;cases hq:hasTag [113] T with
 |true =>
  rw[hq]at hk113;have hcode:Hid ((if among dnstxtL (listOf (valOf [113] T))=true then judgeA fields body field recs T else 2)=judgeT fields body field recs now T):=by
   unfold Hid;cases h:among dnstxtL (listOf (valOf [113] T))with
   |true=>rw[if_pos rfl,judgeT_yes (hok (fun q=>by rw[h]at q;cases q.2))]
   |false=>rw[if_neg Bool.false_ne_true,judgeT_no (fun E=>E.q ⟨hq,h⟩)]
  clear hq hok;go_wp2_with (go_at_call 89;refine(c89p (valOf [113] T) _ (by rw[size_B];have:=(hT.out [113]).1;omega) (hT.out _).2).mono ?_;rintro e w2⟨v,rfl,ho2,hb2⟩;have hrd:=rdS_list ho2 (by have:=(hT.out [113]).1;omega);have hrd2:=zH hrd;obtain⟨AM,cM,rfl,_⟩:=hrd;have hbW:Below w.heap.size w w2:=hA0.out.trans (hb2.mono hA0.out.size));refine useF 506 _ (by kernel_rfl) ?_;refine t18 _ ct2 hct2.out R w2 w2 (zH ((VQ.of hZ.out (hb.trans (hbW.mono hb.size)) (hM.out.below hbW) hmp hT.out (hkey.out.below hbW) (fun a q=>⟨(hak a q).1,zL (hak a q).2.1 hbW.size⟩)))) (zH (hZ.out.opt.below (hb.trans (hbW.mono hb.size)))) (zB _ _) (zL hvb.out.lt hbW.size) (zH (((hvb.out.below hbW hvb.out.lt).cell 0).trans rfl)) (zH hZ.out.rk) rfl rfl rfl rfl rfl rfl rfl rfl _ rfl rfl (zH hrd2.out) ?_;intro err w' he hG;have hbw:Below w0.heap.size w0 w2:=hb.trans (hbW.mono hb.size);refine HR.out _ _ (hcode.out ▸ he) (VerB.of hZ.out hbw hvp (hvb.out.below hbW hvb.out.lt) (hkey.out.below hbW) (fun a q=>⟨(hak a q).1,zL (hak a q).2.1 hbW.size⟩) hG (fun _=>⟨rfl,rfl,rfl,htn,hxn⟩)) (VC.gr hbw hG)
 |false =>
  rw[hq]at hk113;have hcode:Hid ((if among dnstxtL [dnstxtL]=true then judgeA fields body field recs T else 2)=judgeT fields body field recs now T):=by
   unfold Hid;rw[if_pos (by decide),judgeT_yes (hok (fun q=>by rw[hq]at q;cases q.1))]
  clear hq hok;have hbW:=hA0.out;have hms:=zH (Own.rdS (Own.lit w w.heap.size (zR _) 9 #[.string ⟨#[100,110,115,47,116,120,116]⟩] 1 rfl (by decide) ([dnstxtL].map strV) rfl) (by decide));go_wp2;refine useF 506 _ (by kernel_rfl) ?_;refine t18 _ ct2 hct2.out R _ _ (zH ((VQ.of hZ.out (hb.trans (hbW.mono hb.size)) (hM.out.below hbW) hmp hT.out (hkey.out.below hbW) (fun a q=>⟨(hak a q).1,zL (hak a q).2.1 hbW.size⟩)))) (zH (hZ.out.opt.below (hb.trans (hbW.mono hb.size)))) (zB _ _) (zL hvb.out.lt hbW.size) (zH (((hvb.out.below hbW hvb.out.lt).cell 0).trans rfl)) (zH hZ.out.rk) rfl rfl rfl rfl rfl rfl rfl rfl [dnstxtL] rfl rfl (zH hms.out) ?_;intro err w' he hG;have hbw:Below w0.heap.size w0 (w.alloc (.cells #[.string ⟨#[100,110,115,47,116,120,116]⟩] 9)):=hb.trans (hbW.mono hb.size);refine HR.out _ _ (hcode.out ▸ he) (VerB.of hZ.out hbw hvp (hvb.out.below hbW hvb.out.lt) (hkey.out.below hbW) (fun a q=>⟨(hak a q).1,zL (hak a q).2.1 hbW.size⟩) hG (fun _=>⟨rfl,rfl,rfl,htn,hxn⟩)) (VC.gr hbw hG)
end Go.Proofs.YtnkihlpmmfeioaaGreatDoor
