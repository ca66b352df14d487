/- Part of the proof that laws.FnDVerifies answers true: K5,A17,A43 -/
import Derived.Test.YtnkihlpmmfeioaaGreatDoorZ11
set_option linter.unusedVariables false
set_option linter.unusedSimpArgs false
set_option maxRecDepth 1000000
set_option maxHeartbeats 16000000
namespace Go.Proofs.YtnkihlpmmfeioaaGreatDoor
open Go.RowKit
open Go.Maps
def OwnMI(w:World)(b n:Nat)(F:List UInt8->Nat):Prop :=
 ∃M:DataW Unit,w.ownsMap Tryz.prog 9 (plainElem Tryz.prog 3) b n M/\IsMap M/\∀t:List UInt8,M.atKey (.string t) (.lit (.int .i64 0))=.lit (.int .i64 (F t:Int))
theorem OwnMI.made(w:World):OwnMI (w.alloc (.map #[] 0)) w.heap.size 0 (fun _=>0) :=
 ⟨.map [],World.ownsMap_made w _ _ _,⟨_,rfl⟩,fun t=>rfl⟩
theorem OwnMI.grown{w w':World}{b n:Nat}{F:List UInt8->Nat}{row:Option Nat}(h:OwnMI w b n F)(hg:w.grownBy w' row)(hne:some b≠row):OwnMI w' b n F:=by
 obtain⟨M,h1,h2,h3⟩:=h;exact⟨M,h1.kept hg hne,h2,h3⟩
theorem OwnMI.below{w w':World}{b n:Nat}{F:List UInt8->Nat}(h:OwnMI w b n F)(hb:Below w.heap.size w w'):OwnMI w' b n F:=h.grown (grown_of_below hb) (by simp)
theorem OwnMI.lt{w:World}{b n:Nat}{F:List UInt8->Nat}(h:OwnMI w b n F):b < w.heap.size:=by obtain⟨M,h1,_⟩:=h;exact h1.lt
theorem OwnMI.look{w:World}{b n:Nat}{F:List UInt8->Nat}(h:OwnMI w b n F)(t:ByteArray)(ht:t.size<=maxLen) :
  (Instr.lookup 246 (.map (some b)) (.string t) false).run Tryz.prog w=.ok (.int .i64 (F t.data.toList:Int)) w:=by
 obtain⟨M,h1,h2,h3⟩:=h;obtain⟨c,hr,hc,_⟩:=h1.lookup_int law9 Tryz.underlying246 Tryz.underlying3 (by kernel_rfl) (keyS t ht);rw[hr];have h4:=h3 t.data.toList;rw[h4]at hc;injection hc with hc
 injection hc with _ hc
 rw[hc]
theorem OwnMI.put{w:World}{b n:Nat}{F:List UInt8->Nat}(h:OwnMI w b n F)(hn:n < maxLen)(k:ByteArray)(v:Nat)(hk:k.size<=maxLen)(hv:v < 9223372036854775808) :
  ∃w',(Instr.mapUpdate 246 (.map (some b)) (.string k) (.int .i64 (v:Int))).run Tryz.prog w=.ok () w'/\OwnMI w' b (n+1) (fun t=>if k.data.toList=t then v else F t)/\w.grownBy w' (some b):=by
 obtain⟨M,h1,h2,h3⟩:=h;have hw:(Lit.int .i64 (v:Int)).wf=true:=by
  simp only[Lit.wf,Bool.and_eq_true,decide_eq_true_eq];constructor
  ·exact Int.le_trans (by decide) (Int.natCast_nonneg v)
  have:IntKind.i64.max=9223372036854775807:=by decide
  omega
 obtain⟨w',hr,h4,h5⟩:=h1.update law9 Tryz.underlying246 hn (keyS k hk) (plainElem_int Tryz.underlying3 hw);refine⟨w',hr,⟨_,h4,h2.put _ _,fun t=>?_⟩,h5⟩;have hkl:WideAt.IsKeyLit (.string k.data.toList):=by trivial
 by_cases he:k.data.toList=t
 ·subst he
  rw[atKey_put_same h2 hkl];simp
 have hne:(Lit.string t)≠Lit.string k.data.toList:=fun q=>he (by injection q with q;exact q.symm)
 rw[atKey_put_other hne];simp[he,h3 t]
theorem c117p(l:List UInt8)(w:World)(hs:(B l).size<=140737488355328) :
  Calls Tryz.prog 117 #[.string (B l)] w fun e w'=>e=.returned (.string (B (bare l)))/\Below w.heap.size w w':=c117 (B l) w hs
theorem c76p(l:List UInt8)(w:World)(hs:(B l).size<=1073741824) :
  Calls Tryz.prog 76 #[.string (B l)] w fun e w'=>e=.returned (.tuple #[.string (B ((unb64 l).getD [])),.bool (unb64 l).isSome])/\Below w.heap.size w w':=c76 (B l) w hs
structure Key where
 kind:List UInt8
 bytes:List UInt8
 hashes:Option (List (List UInt8))
 services:Option (List (List UInt8))
def dkim1L : List UInt8:=[68,75,73,77,49]
def rsaL : List UInt8:=[114,115,97]
def edL : List UInt8:=[101,100,50,53,53,49,57]
def kindOf(ts:List Pair):List UInt8:=if hasTag [107] ts=true then(if valOf [107] ts=[]then rsaL else valOf [107] ts)else rsaL
def badKey(kind b:List UInt8):Bool:=(decide (kind=rsaL) && decide (8*b.length < 1024)) || (decide (kind=edL) && !decide (b.length=32))
def listOf(l:List UInt8):List (List UInt8):=split 58 (strip l)
def servOf(ts:List Pair):Option (List (List UInt8)):=if hasTag [115] ts=true then(if among [42] (listOf (valOf [115] ts))=true then none else some (listOf (valOf [115] ts)))else none
def hashOf(ts:List Pair):Option (List (List UInt8)):=if hasTag [104] ts=true then some (listOf (valOf [104] ts))else none
theorem hashOf_isNone(ts:List Pair):(hashOf ts).isNone=!hasTag [104] ts:=by unfold hashOf;cases hasTag [104] ts <;> rfl
def keyM(ts:List Pair):Option Key :=
 if hasTag [118] ts=true/\valOf [118] ts≠dkim1L then none
 else match unb64 (bare (valOf [112] ts))with
  |none=>none
  |some b =>
   if hasTag [112] ts=true/\valOf [112] ts≠[]/\(kindOf ts=rsaL\/kindOf ts=edL)/\badKey (kindOf ts) b=false then
    some { kind:=kindOf ts,bytes:=b,hashes:=hashOf ts,services:=servOf ts }
   else none
def readM(text:List UInt8):Option Key :=
 match tagsM (split 59 text) []with
 |none=>none
 |some ts=>keyM ts
theorem kindOf_a{ts:List Pair}(h:¬(hasTag [107] ts=true)\/valOf [107] ts=[]):kindOf ts=rsaL:=by
 unfold kindOf;split
 ·rename_i h1
  rcases h with h|h
  ·exact absurd h1 h
  rw[if_pos h]
 rfl
theorem kindOf_b{ts:List Pair}(h:¬(¬(hasTag [107] ts=true)\/valOf [107] ts=[])):kindOf ts=valOf [107] ts:=by
 unfold kindOf;rw[if_pos (Classical.byContradiction fun h1=>h (.inl h1)),if_neg fun h1=>h (.inr h1)]
theorem bare_le(l:List UInt8):(bare l).length<=l.length:=by
 induction l with
 |nil=>simp[bare]
 |cons x l ih=>unfold bare;split <;> simp <;> omega
theorem valOf_le{n:Nat}{xs:List Pair}(h:∀x∈xs,x.2.length<=n)(t:List UInt8):(valOf t xs).length<=n:=by
 induction xs with
 |nil=>simp[valOf]
 |cons x l ih =>
  unfold valOf;split
  ·exact h x (by simp)
  exact ih fun y hy=>h y (by simp[hy])
theorem tagsM_le{n:Nat}:∀(parts:List (List UInt8)) (acc ts:List Pair),(∀p∈parts,p.length<=n)->(∀x∈acc,x.2.length<=n)->tagsM parts acc=some ts->∀x∈ts,x.2.length<=n:=by
 intro parts;induction parts with
 |nil=>intro acc ts _ ha h;rw[tagsM]at h;injection h with h;subst h;exact ha
 |cons p l ih =>
  intro acc ts hp ha h;rw[tagsM]at h;have hp':∀q∈l,q.length<=n:=fun q hq=>hp q (by simp[hq])
  split at h
  ·split at h
   ·cases h
   rename_i acc' hins;refine ih acc' ts hp' (fun x hx=>?_) h;unfold insP at hins;split at hins
   ·cases hins
   injection hins with hins
   subst hins;rcases List.mem_append.1 hx with h1|h1
   ·exact ha x (List.mem_of_mem_take h1)
   rcases List.mem_cons.1 h1 with rfl|h2
   ·have h1:=trim_le (cutZ 61 p);have h2:=cutZ_le 61 p;have h3:=hp p (by simp);simp only;omega
   exact ha x (List.mem_of_mem_drop h2)
  split at h
  ·exact ih acc ts hp' ha h
  cases h
theorem unb64N_le : ∀(f:Nat) (l r:List UInt8),unb64N f l=some r->r.length<=3*f:=by
 intro f;induction f with
 |zero=>intro l r h;rw[unb64N]at h;injection h with h;subst h;simp
 |succ f ih =>
  intro l r h;rw[unb64N]at h;split at h
  ·injection h with h;subst h;simp
  split at h
  ·cases h
  rename_i p hp;obtain⟨r',hr',rfl⟩:=Option.map_eq_some_iff.1 h;have:=ih _ _ hr';simp[bytes3];omega
theorem unb64_le(l:List UInt8):((unb64 l).getD []).length<=3*l.length:=by
 unfold unb64;split
 ·cases h:unb64N l.length l with
  |none=>simp
  |some r=>exact unb64N_le _ _ _ h
 simp
theorem RdB.setNe{w:World}{g k:Nat}{u:Value}{v:Value}{l:List UInt8}(h:RdB w v l)(hv:∀g' o n c,v=.slice (some ⟨g',o,none⟩) n c->g'≠g):RdB (w.setCell ⟨g,k,none⟩ u) v l:=by
 obtain⟨A,c,rfl,hc,hA⟩:=h;refine⟨A,c,rfl,hc,fun hp=>?_⟩;obtain⟨g',off,rfl,hcl⟩:=hA hp;exact⟨g',off,rfl,fun i x hx=>(World.cell?_of_block (heap_setCell_other w ⟨g,k,none⟩ g' u (hv _ _ _ _ rfl))).trans (hcl i x hx)⟩
theorem listOf_len(l:List UInt8):(listOf l).length<=l.length+1:=by
 have h1:=split_len 58 (strip l);have h2:=strip_le l;unfold listOf;omega
theorem c71p(l:List UInt8)(w:World)(hs:(B l).size<=1073741824) :
  Calls Tryz.prog 71 #[.string (B l)] w fun e w'=>∃v,e=.returned v/\Own w' w.heap.size 9 v ((listOf l).map strV)/\Below w.heap.size w w':=c71 (B l) w hs
theorem RdB.below{w w':World}{v:Value}{l:List UInt8}(h:RdB w v l){b:Nat}(hb:Below b w w')(hv:∀g o n c,v=.slice (some ⟨g,o,none⟩) n c->g < b):RdB w' v l:=by
 obtain⟨A,c,rfl,hc,hA⟩:=h;refine⟨A,c,rfl,hc,fun hp=>?_⟩;obtain⟨g,off,rfl,hcl⟩:=hA hp;exact⟨g,off,rfl,fun i x hx=>(hb.cell (p:=⟨g,off+i,none⟩) (hv _ _ _ _ rfl)).trans (hcl i x hx)⟩
def KeyAt(w:World)(base:Nat)(v:Value)(K:Key):Prop :=
 ∃(bv:Value) (bi:Int) (hv sv:Value) (Af:Option Addr) (nf cf:Nat) (nt:ByteArray),v=.agg #[.string (B K.kind),bv,.int .i64 bi,hv,sv,.slice Af nf cf,.string nt,.bool K.hashes.isNone,.bool K.services.isNone]/\RdB w bv K.bytes/\(∀g o n c,bv=.slice (some ⟨g,o,none⟩) n c->base<=g)/\Own w base 9 hv ((K.hashes.getD []).map strV)/\Own w base 9 sv ((K.services.getD []).map strV)
theorem c39(n:Int)(w:World):Calls Tryz.prog 39 #[.int .i64 n] w fun e w'=>e=.returned (.agg #[.int .i64 n,.bool true])/\Below w.heap.size w w':=by
 go_enter Tryz.func39,Tryz.ntmps39;go_wp2;exact bodyPost_ret (results_cell_row rfl _ _ w.heap.size 75 _ _ _ rfl (heap_alloc_new _ _) Tryz.underlying75 rfl (by kernel_rfl)) rfl ⟨rfl,(zB _ _).alloc (zR _) _⟩
theorem c43(n:Int)(b:Bool)(w:World):Calls Tryz.prog 43 #[.agg #[.int .i64 n,.bool b]] w fun e w'=>e=.returned (.int .i64 n)/\Below w.heap.size w w':=by
 go_enter Tryz.func43,Tryz.ntmps43;go_wp2;go_ret
 exact⟨rfl,(zB _ _).alloc (zR _) _⟩
theorem c101(m n:Int)(a b:Bool)(w:World):Calls Tryz.prog 101 #[.agg #[.int .i64 m,.bool a],.agg #[.int .i64 n,.bool b]] w fun e w'=>e=.returned (.bool (decide (n < m)))/\Below w.heap.size w w':=by
 go_enter Tryz.func101,Tryz.ntmps101;go_wp2;go_ret
 exact⟨rfl,((zB _ _).alloc (zR _) _).alloc (by simp) _⟩
theorem c107(v1 v2:Value)(l1 l2:List UInt8)(w:World)(h1:(convert 33 9 v1).run Tryz.prog w=.ok (.string (B l1)) w)(h2:(convert 33 9 v2).run Tryz.prog w=.ok (.string (B l2)) w) :
  Calls Tryz.prog 107 #[v1,v2] w fun e w'=>e=.returned (.bool (l1 == l2))/\w=w':=by
 go_enter Tryz.func107,Tryz.ntmps107;go_wp2;go_ret
 exact⟨ret_eq (bool_eq (by simp[toList_B])),rfl⟩
theorem ta158_nil(W:World):(Instr.typeAssert .nilIface 68 158 true).run Tryz.prog W=.ok (.tuple #[.string ⟨#[]⟩,.bool false]) W:=by kernel_rfl
theorem ta158_158(m:ByteArray)(W:World):(Instr.typeAssert (.iface 158 (.string m)) 68 158 true).run Tryz.prog W=.ok (.tuple #[.string m,.bool true]) W:=by kernel_rfl
theorem ta158_191(m:ByteArray)(W:World):(Instr.typeAssert (.iface 191 (.string m)) 68 158 true).run Tryz.prog W=.ok (.tuple #[.string ⟨#[]⟩,.bool false]) W:=by kernel_rfl
theorem ta158_173(m:ByteArray)(W:World):(Instr.typeAssert (.iface 173 (.string m)) 68 158 true).run Tryz.prog W=.ok (.tuple #[.string ⟨#[]⟩,.bool false]) W:=by kernel_rfl
theorem ta191_nil(W:World):(Instr.typeAssert .nilIface 68 191 true).run Tryz.prog W=.ok (.tuple #[.string ⟨#[]⟩,.bool false]) W:=by kernel_rfl
theorem ta191_158(m:ByteArray)(W:World):(Instr.typeAssert (.iface 158 (.string m)) 68 191 true).run Tryz.prog W=.ok (.tuple #[.string ⟨#[]⟩,.bool false]) W:=by kernel_rfl
theorem ta191_191(m:ByteArray)(W:World):(Instr.typeAssert (.iface 191 (.string m)) 68 191 true).run Tryz.prog W=.ok (.tuple #[.string m,.bool true]) W:=by kernel_rfl
theorem ta191_173(m:ByteArray)(W:World):(Instr.typeAssert (.iface 173 (.string m)) 68 191 true).run Tryz.prog W=.ok (.tuple #[.string ⟨#[]⟩,.bool false]) W:=by kernel_rfl
theorem ta173_nil(W:World):(Instr.typeAssert .nilIface 68 173 true).run Tryz.prog W=.ok (.tuple #[.string ⟨#[]⟩,.bool false]) W:=by kernel_rfl
theorem ta173_158(m:ByteArray)(W:World):(Instr.typeAssert (.iface 158 (.string m)) 68 173 true).run Tryz.prog W=.ok (.tuple #[.string ⟨#[]⟩,.bool false]) W:=by kernel_rfl
theorem ta173_191(m:ByteArray)(W:World):(Instr.typeAssert (.iface 191 (.string m)) 68 173 true).run Tryz.prog W=.ok (.tuple #[.string ⟨#[]⟩,.bool false]) W:=by kernel_rfl
theorem ta173_173(m:ByteArray)(W:World):(Instr.typeAssert (.iface 173 (.string m)) 68 173 true).run Tryz.prog W=.ok (.tuple #[.string m,.bool true]) W:=by kernel_rfl
def ErrIs(err:Value)(c:Int):Prop:=(err=.nilIface/\c=0)\/(∃m,err=.iface 158 (.string m)/\c=2)\/(∃m,err=.iface 191 (.string m)/\c=3)\/(∃m,err=.iface 173 (.string m)/\c=1)
theorem c66(err:Value)(c:Int)(w:World)(h:ErrIs err c):Calls Tryz.prog 66 #[err] w fun e w'=>e=.returned (.bool (decide (c=2)))/\w=w':=by
 rcases h with⟨rfl,rfl⟩|⟨m,rfl,rfl⟩|⟨m,rfl,rfl⟩|⟨m,rfl,rfl⟩
 ·have ta:=ta158_nil
  go_enter Tryz.func66,Tryz.ntmps66;go_wp2;go_ret
  exact⟨rfl,rfl⟩
 ·have ta:=ta158_158 m
  go_enter Tryz.func66,Tryz.ntmps66;go_wp2;go_ret
  exact⟨rfl,rfl⟩
 ·have ta:=ta158_191 m
  go_enter Tryz.func66,Tryz.ntmps66;go_wp2;go_ret
  exact⟨rfl,rfl⟩
 have ta:=ta158_173 m;go_enter Tryz.func66,Tryz.ntmps66;go_wp2;go_ret
 exact⟨rfl,rfl⟩
theorem c65(err:Value)(c:Int)(w:World)(h:ErrIs err c):Calls Tryz.prog 65 #[err] w fun e w'=>e=.returned (.bool (decide (c=3)))/\w=w':=by
 rcases h with⟨rfl,rfl⟩|⟨m,rfl,rfl⟩|⟨m,rfl,rfl⟩|⟨m,rfl,rfl⟩
 ·have ta:=ta191_nil
  go_enter Tryz.func65,Tryz.ntmps65;go_wp2;go_ret
  exact⟨rfl,rfl⟩
 ·have ta:=ta191_158 m
  go_enter Tryz.func65,Tryz.ntmps65;go_wp2;go_ret
  exact⟨rfl,rfl⟩
 ·have ta:=ta191_191 m
  go_enter Tryz.func65,Tryz.ntmps65;go_wp2;go_ret
  exact⟨rfl,rfl⟩
 have ta:=ta191_173 m;go_enter Tryz.func65,Tryz.ntmps65;go_wp2;go_ret
 exact⟨rfl,rfl⟩
theorem c67(err:Value)(c:Int)(w:World)(h:ErrIs err c):Calls Tryz.prog 67 #[err] w fun e w'=>e=.returned (.bool (decide (c=1)))/\w=w':=by
 rcases h with⟨rfl,rfl⟩|⟨m,rfl,rfl⟩|⟨m,rfl,rfl⟩|⟨m,rfl,rfl⟩
 ·have ta:=ta173_nil
  go_enter Tryz.func67,Tryz.ntmps67;go_wp2;go_ret
  exact⟨rfl,rfl⟩
 ·have ta:=ta173_158 m
  go_enter Tryz.func67,Tryz.ntmps67;go_wp2;go_ret
  exact⟨rfl,rfl⟩
 ·have ta:=ta173_191 m
  go_enter Tryz.func67,Tryz.ntmps67;go_wp2;go_ret
  exact⟨rfl,rfl⟩
 have ta:=ta173_173 m;go_enter Tryz.func67,Tryz.ntmps67;go_wp2;go_ret
 exact⟨rfl,rfl⟩
theorem c69(err:Value)(c:Int)(w:World)(h:ErrIs err c):Calls Tryz.prog 69 #[err] w fun e w'=>e=.returned (.bool (decide (c=1)))/\w=w':=by
 go_enter Tryz.func69,Tryz.ntmps69;go_wp2_with (go_at_call 67;refine(c67 _ c _ h).mono ?_;rintro e w1⟨rfl,rfl⟩);go_ret
 exact⟨rfl,rfl⟩
theorem c44(err:Value)(c:Int)(w:World)(h:ErrIs err c):Calls Tryz.prog 44 #[err] w fun e w'=>e=.returned (.int .i64 c)/\w=w':=by
 have H:=h;rcases h with⟨rfl,rfl⟩|⟨m,rfl,rfl⟩|⟨m,rfl,rfl⟩|⟨m,rfl,rfl⟩;all_goals
  go_enter Tryz.func44,Tryz.ntmps44;go_wp2_with (first
   |(go_at_call 66;refine(c66 _ _ _ H).mono ?_;rintro e w1⟨rfl,rfl⟩)
   |(go_at_call 65;refine(c65 _ _ _ H).mono ?_;rintro e w1⟨rfl,rfl⟩)
   |(go_at_call 69;refine(c69 _ _ _ H).mono ?_;rintro e w1⟨rfl,rfl⟩))
  go_ret
  exact⟨rfl,rfl⟩
theorem c90s(l:List UInt8)(w:World)(h:l=simpleL):Calls Tryz.prog 90 #[.string (B l)] w fun e w'=>e=.returned (.tuple #[.iface 224 (.pointer (some ⟨w.heap.size,0,none⟩)),.bool true])/\w'=w.alloc (.cells #[] 226):=by
 subst h;have h1:((B simpleL).toList == [115,105,109,112,108,101])=true:=by rw[toList_B];rfl
 go_enter Tryz.func90,Tryz.ntmps90;go_wp2;go_ret2
 exact⟨rfl,rfl⟩
theorem c90r(l:List UInt8)(w:World)(h:l=relaxedL):Calls Tryz.prog 90 #[.string (B l)] w fun e w'=>e=.returned (.tuple #[.iface 227 (.pointer (some ⟨w.heap.size,0,none⟩)),.bool true])/\w'=w.alloc (.cells #[] 228):=by
 subst h;have h1:((B relaxedL).toList == [115,105,109,112,108,101])=false:=by rw[toList_B];rfl
 have h2:((B relaxedL).toList == [114,101,108,97,120,101,100])=true:=by rw[toList_B];rfl
 go_enter Tryz.func90,Tryz.ntmps90;go_wp2;go_ret2
 exact⟨rfl,rfl⟩
theorem c90n(l:List UInt8)(w:World)(h:known l=false):Calls Tryz.prog 90 #[.string (B l)] w fun e w'=>e=.returned (.tuple #[.nilIface,.bool false])/\w=w':=by
 unfold known at h;rw[Bool.or_eq_false_iff]at h;have h1:((B l).toList == [115,105,109,112,108,101])=false:=by rw[toList_B];exact h.1
 have h2:((B l).toList == [114,101,108,97,120,101,100])=false:=by rw[toList_B];exact h.2
 clear h;go_enter Tryz.func90,Tryz.ntmps90;go_wp2;go_ret2
 exact⟨rfl,rfl⟩
theorem c264(p:Value)(t:TypeId)(x:Value)(w:World):Calls Tryz.prog 264 #[p,.iface t x] w fun e w'=>e=.returned (.iface 360 (.pointer (some ⟨w.heap.size,0,none⟩)))/\w'=w.alloc (.cells #[.iface t x,.slice none 0 0,.bool false] 364):=by
 go_enter Tryz.func264,Tryz.ntmps264;go_wp2;go_ret
 exact⟨rfl,rfl⟩
theorem c266(p:Value)(t:TypeId)(x:Value)(w:World):Calls Tryz.prog 266 #[p,.iface t x] w fun e w'=>e=.returned (.iface 365 (.pointer (some ⟨w.heap.size,0,none⟩)))/\w'=w.alloc (.cells #[.iface t x,.slice none 0 0,.bool false,.bool false,.bool false] 367):=by
 go_enter Tryz.func266,Tryz.ntmps266;go_wp2;go_ret
 exact⟨rfl,rfl⟩
theorem c265(p:Value)(s:ByteArray)(w:World):Calls Tryz.prog 265 #[p,.string s] w fun e w'=>e=.returned (.string s)/\w=w':=by
 go_enter Tryz.func265,Tryz.ntmps265;go_wp2;go_ret
 exact⟨rfl,rfl⟩
theorem c102(l:List UInt8)(w:World):Calls Tryz.prog 102 #[.string (B l)] w fun e w'=>e=.returned (.tuple #[if l == [100,110,115,47,116,120,116]then .func (.func 136) #[] #[]else .nilFunc,.bool (l == [100,110,115,47,116,120,116])])/\w=w':=by
 cases h:l == [100,110,115,47,116,120,116]with
 |true =>
  have h1:((B l).toList == [100,110,115,47,116,120,116])=true:=by rw[toList_B];exact h
  go_enter Tryz.func102,Tryz.ntmps102;go_wp2;go_ret2
  exact⟨rfl,rfl⟩
 |false =>
  have h1:((B l).toList == [100,110,115,47,116,120,116])=false:=by rw[toList_B];exact h
  go_enter Tryz.func102,Tryz.ntmps102;go_wp2;go_ret2
  exact⟨rfl,rfl⟩
theorem c42(k:ByteArray)(A:Option Addr)(n c:Nat)(w:World)(hn:n<=1152921504606846975):Calls Tryz.prog 42 #[.string k,.slice A n c] w fun e w'=>e=.returned (.int .i64 (if k.data.toList=edL then 256 else 8*(n:Int)))/\w=w':=by
 by_cases h:k.data.toList=edL
 ·have h1:(k.toList == [101,100,50,53,53,49,57])=true:=by rw[Lib.toList_data];exact zE h
  rw[if_pos h];go_enter Tryz.func42,Tryz.ntmps42;go_wp2;go_ret
  exact⟨rfl,rfl⟩
 have h1:(k.toList == [101,100,50,53,53,49,57])=false:=by rw[Lib.toList_data];exact zF h
 rw[if_neg h];go_enter Tryz.func42,Tryz.ntmps42;go_wp2;go_ret
 exact⟨ret_eq (by go_num),rfl⟩
theorem c41(k:ByteArray)(A:Option Addr)(n c:Nat)(w:World)(hn:n<=1152921504606846975):Calls Tryz.prog 41 #[.string k,.slice A n c] w fun e w' =>
  e=.returned (.tuple #[.iface 82 (.agg #[.string k,.slice A n c]),.int .i64 (if k.data.toList=edL then 256 else 8*(n:Int)),.nilIface])/\w=w':=by
 have h42:=c42 k A n c w hn;generalize (if k.data.toList=edL then(256:Int)else 8*(n:Int))=N at *
 go_enter Tryz.func41,Tryz.ntmps41;go_wp2_with (go_at_call 42;refine h42.mono ?_;rintro e w1⟨rfl,rfl⟩)
 go_ret3
 exact⟨rfl,rfl⟩
theorem c269(c:Int)(w:World):Calls Tryz.prog 269 #[.int .i32 c] w fun e w'=>e=.returned (.bool (decide (c=32\/c=9\/c=13\/c=10)))/\w=w':=by
 by_cases h1:c=32
 ·subst h1
  go_enter Tryz.func269,Tryz.ntmps269;go_wp2;go_ret
  exact⟨rfl,rfl⟩
 have e1:(c == 32)=false:=zF h1;by_cases h2:c=9
 ·subst h2
  go_enter Tryz.func269,Tryz.ntmps269;go_wp2;go_ret
  exact⟨rfl,rfl⟩
 have e2:(c == 9)=false:=zF h2;by_cases h3:c=10
 ·subst h3
  go_enter Tryz.func269,Tryz.ntmps269;go_wp2;go_ret
  exact⟨rfl,rfl⟩
 have e3:(c == 10)=false:=zF h3;by_cases h4:c=13
 ·subst h4
  go_enter Tryz.func269,Tryz.ntmps269;go_wp2;go_ret
  exact⟨rfl,rfl⟩
 have e4:(c == 13)=false:=zF h4;have hd:decide (c=32\/c=9\/c=13\/c=10)=false:=by simp[h1,h2,h3,h4]
 rw[hd];clear hd h1 h2 h3 h4;go_enter Tryz.func269,Tryz.ntmps269;go_wp2;go_ret
 exact⟨rfl,rfl⟩
end Go.Proofs.YtnkihlpmmfeioaaGreatDoor
