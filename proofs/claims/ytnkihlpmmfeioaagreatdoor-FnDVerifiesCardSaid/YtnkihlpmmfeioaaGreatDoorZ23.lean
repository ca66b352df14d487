/- Part of the proof that laws.FnDVerifies answers true: P8,A81,K9,K10,A82,A83 -/
import Derived.Test.YtnkihlpmmfeioaaGreatDoorZ22
set_option linter.unusedVariables false
set_option linter.unusedSimpArgs false
set_option maxRecDepth 1000000
set_option maxHeartbeats 16000000
namespace Go.Proofs.YtnkihlpmmfeioaaGreatDoor
open Go.RowKit
theorem nthM_none(key:List UInt8):∀(l:List (List UInt8)) (c:Nat),cntF key l<=c->nthM key c l=[]:=by
 intro l;induction l with
 |nil=>intro c _;rfl
 |cons f l ih =>
  intro c h;unfold cntF at h ih;rw[List.countP_cons]at h;rw[nthM];by_cases hf:keyOf f=key
  ·rw[if_pos (zE hf)]at h
   rw[if_pos hf,if_neg (by omega)];exact ih _ (by omega)
  rw[if_neg (by simpa using hf)]at h;rw[if_neg hf];exact ih _ (by omega)
theorem cntF_rev(key:List UInt8)(l:List (List UInt8)):cntF key l.reverse=cntF key l:=by unfold cntF;rw[List.countP_reverse]
def PickM(fields done:List (List UInt8))(F:List UInt8->Nat):Prop:=∀t,F t=min (cntK t done) (cntF t fields)
theorem PickM.zero(fields:List (List UInt8)):PickM fields [] (fun _=>0):=fun t=>by simp[cntK]
theorem PickM.nth{fields done:List (List UInt8)}{F:List UInt8->Nat}(h:PickM fields done F)(n:List UInt8):nthM (lower n) (F (lower n)) fields.reverse=nthM (lower n) (cntK (lower n) done) fields.reverse:=by
 rw[h (lower n)];by_cases hc:cntK (lower n) done<=cntF (lower n) fields
 ·rw[Nat.min_eq_left hc]
 rw[Nat.min_eq_right (by omega),nthM_none _ _ _ (by rw[cntF_rev];exact zR _),nthM_none _ _ _ (by rw[cntF_rev];omega)]
theorem PickM.next{fields done:List (List UInt8)}{F:List UInt8->Nat}(h:PickM fields done F)(n:List UInt8):PickM fields (done++[n]) (pickF fields (lower n) F):=by
 intro t;unfold pickF;rw[cntK_snoc,h t,h (lower n)];by_cases ht:lower n=t
 ·subst ht
  rw[if_pos rfl];split
  ·rename_i hq;omega
  rename_i hq;have:¬min (cntK (lower n) done) (cntF (lower n) fields) < cntF (lower n) fields:=fun q=>hq ⟨rfl,q⟩
  omega
 rw[if_neg (fun q=>ht q.1),if_neg ht,Nat.add_zero]
theorem PickM.le{fields done:List (List UInt8)}{F:List UInt8->Nat}(h:PickM fields done F)(t:List UInt8):F t<=done.length:=by
 rw[h t];have:cntK t done<=done.length:=List.countP_le_length;omega
theorem nthM_mem(key:List UInt8):∀(l:List (List UInt8)) (c:Nat),nthM key c l=[]\/nthM key c l∈l:=by
 intro l;induction l with
 |nil=>intro c;exact .inl rfl
 |cons f l ih =>
  intro c;rw[nthM];split
  ·split
   ·exact .inr (by simp)
   exact(ih _).imp id fun h=>by simp[h]
  exact(ih _).imp id fun h=>by simp[h]
theorem mCanS(p:Value)(w:World):(method 488 224 p "CanonicalizeHeader").run Tryz.prog w=.ok (265,p) w:=by kernel_rfl
theorem mCanR(p:Value)(w:World):(method 488 227 p "CanonicalizeHeader").run Tryz.prog w=.ok (267,p) w:=by kernel_rfl
theorem mBodS(p:Value)(w:World):(method 488 224 p "CanonicalizeBody").run Tryz.prog w=.ok (264,p) w:=by kernel_rfl
theorem mBodR(p:Value)(w:World):(method 488 227 p "CanonicalizeBody").run Tryz.prog w=.ok (266,p) w:=by kernel_rfl
def CanTy(ty:Nat)(form:List UInt8):Prop:=(ty=224/\form=simpleL)\/(ty=227/\form=relaxedL)
def canF(ty:Nat):Nat:=if ty=224 then 265 else 267
theorem cCan(ty:Nat)(form:List UInt8)(p:Value)(l:List UInt8)(w:World)(h:CanTy ty form)(hs:l.length<=268435456)(hp:plainL l) :
  Calls Tryz.prog (canF ty) #[p,.string (B l)] w fun e w'=>e=.returned (.string (B (fieldOf form l)))/\Below w.heap.size w w':=by
 rcases h with⟨rfl,rfl⟩|⟨rfl,rfl⟩
 ·refine(c265 p (B l) w).mono ?_
  rintro e w'⟨rfl,rfl⟩;refine⟨?_,zB _ _⟩;rw[fieldOf,if_pos rfl]
 exact c267 p (B l) w (by rw[size_B];exact hs) (by rw[L_B];exact hp)
structure PS(wo w:World)(g gp mb:Nat)(hv:Value)(fields done:List (List UInt8))(l:List UInt8):Prop where
 dig:∃bv,DigAt w g bv l/\∀q,bv.ownBlock=some q->q≠gp/\q≠mb
 pick:∃F,PickAt w gp mb done.length hv F/\PickM fields done F
 row:RdS w hv fields
 hvl:∀a n c,hv=.slice (some a) n c->a.block < g
 bel:Below g wo w
 ord:g < gp/\g < mb/\gp≠mb/\gp < w.heap.size/\mb < w.heap.size
theorem RdS.belowA{w w':World}{v:Value}{xs:List (List UInt8)}{b:Nat}(h:RdS w v xs)(hb:Below b w w')(hv:∀a n c,v=.slice (some a) n c->a.block < b):RdS w' v xs:=by
 obtain⟨A,c,rfl,hc,hl,hA⟩:=h;refine⟨A,c,rfl,hc,hl,fun h0=>?_⟩;obtain⟨g,off,rfl,hcell⟩:=hA h0;refine⟨g,off,rfl,fun i x hx=>?_⟩;have hlt:=hv ⟨g,off,none⟩ _ _ rfl;exact(World.cell?_of_block (a:=⟨g,off+i,none⟩) (hb.block g hlt)).trans (hcell i x hx)
theorem PS.below{wo w w':World}{g gp mb:Nat}{hv:Value}{fields done:List (List UInt8)}{l:List UInt8}(h:PS wo w g gp mb hv fields done l)(hb:Below w.heap.size w w'):PS wo w' g gp mb hv fields done l:=by
 obtain⟨⟨bv,hd,hbv⟩,⟨F,hp,hF⟩,hr,hvl,hbl,ho⟩:=h;have hsz:=hb.size;exact⟨⟨bv,hd.gr (S:=fun _=>False) (Gr.of_below hb) (fun q=>q) (fun _ _ q=>q),hbv⟩,⟨F,hp.below hb,hF⟩,hr.below hb,hvl,hbl.trans (hb.mono (by omega)),by omega⟩
theorem PS.pick111{wo w:World}{g gp mb:Nat}{hv:Value}{fields done:List (List UInt8)}{l:List UInt8}(h:PS wo w g gp mb hv fields done l)(n:List UInt8)
  (hd:done.length < 1073741824)(hn:n.length<=1073741824)(hp:plainL n)(hf:allLe 1073741824 fields)(hfp:∀f∈fields,plainL f)(hfl:fields.length<=1073741824) :
  Calls Tryz.prog 111 #[.pointer (some ⟨gp,0,none⟩),.string (B n)] w fun e w'=>e=.returned (.string (B (nthM (lower n) (cntK (lower n) done) fields.reverse)))/\PS wo w' g gp mb hv fields (done++[n]) l:=by
 obtain⟨⟨bv,hdg,hbv⟩,⟨F,hpk,hF⟩,hr,hvl,hbl,ho⟩:=h;refine(c111 (B n) gp mb done.length hv F fields w hpk hr hF.le hd (by rw[size_B];exact hn) (by rw[L_B];exact hp) hf hfp hfl).mono ?_;rintro e w'⟨rfl,hpk',hgr⟩;rw[L_B]at hpk' ⊢;rw[hF.nth];have hG:=Gr.of_grown hgr;have hsz:=hG.size;have hB:Below mb w w':=hG.below (by omega) (fun k hk q=>by injection q with q;omega);refine⟨rfl,⟨bv,hdg.gr hG (fun q=>by injection q with q;omega) (fun k hk q=>(hbv k hk).2 (by injection q with q;exact q.symm)),hbv⟩,⟨_,by rw[zA];exact hpk',hF.next n⟩,hr.belowA (hB.mono (by omega:g<=mb)) hvl,hvl,hbl.trans (hB.mono (by omega)),by omega⟩
theorem OwnMI.same{w w':World}{b n:Nat}{F:List UInt8->Nat}(h:OwnMI w b n F)(hb:w'.heap[b]?=w.heap[b]?):OwnMI w' b n F:=by
 obtain⟨M,⟨es,clock,h1,h2⟩,h3⟩:=h;exact⟨M,⟨es,clock,hb.trans h1,h2⟩,h3⟩
theorem PS.write112{wo w:World}{g gp mb:Nat}{hv:Value}{fields done:List (List UInt8)}{l:List UInt8}(h:PS wo w g gp mb hv fields done l)(m:List UInt8)(A:Option Addr)(n c:Nat)(hm:RdB w (.slice A n c) m)(hl:l.length+m.length<=1099511627776) :
  Calls Tryz.prog 112 #[.pointer (some ⟨g,0,none⟩),.slice A n c] w fun e w'=>e=.returned (.tuple #[.int .i64 (n:Int),.nilIface])/\PS wo w' g gp mb hv fields done (l++m):=by
 obtain⟨⟨bv,hdg,hbv⟩,⟨F,hpk,hF⟩,hr,hvl,hbl,ho⟩:=h;refine(c112 g bv l m A n c w hdg hm hl).mono ?_;rintro e w'⟨rfl,bv',hd',hG,hbv'⟩;have hsz:=hG.size;have hB:Below g w w':=hG.below (Nat.le_of_lt hdg.lt) (fun k hk q=>by
  rcases q with q|q
  ·omega
  have:=(hdg.row q).1;omega)
 have hkeep:∀k,k < w.heap.size->(k=gp\/k=mb)->w'.heap[k]?=w.heap[k]?:=fun k hk hq=>hG.block k hk (fun q=>by
  rcases q with q|q
  ·omega
  have:=hbv k q;omega)
 have hpk':PickAt w' gp mb done.length hv F:=by
  obtain⟨h1,h2⟩:=hpk;exact⟨(hkeep gp ho.2.2.2.1 (.inl rfl)).trans h1,h2.same (hkeep mb ho.2.2.2.2 (.inr rfl))⟩
 refine⟨rfl,⟨bv',hd',fun q hq=>?_⟩,⟨F,hpk',hF⟩,hr.belowA hB hvl,hvl,hbl.trans hB,by omega⟩;rcases hbv' with hb'|hb'
 ·exact hbv q (hb' ▸ hq)
 rw[hb']at hq;injection hq with hq;omega
theorem PS.text{wo w:World}{g gp mb:Nat}{hv:Value}{fields done:List (List UInt8)}{l:List UInt8}(h:PS wo w g gp mb hv fields done l)(m:List UInt8)(hm:m.length<=maxLen) :
  PS wo (Lib.bytesWorld w 5 (B m)) g gp mb hv fields done l/\RdB (Lib.bytesWorld w 5 (B m)) (.slice (some ⟨w.heap.size,0,none⟩) (B m).size (grownCap w (B m).size 0 5)) m :=
 ⟨h.below (below_bytes (zB _ _) (zR _) _),(OwnB.conv w w.heap.size (zR _) (B m) (by rw[size_B];exact hm)).rdB⟩
theorem pickedN_cons(fields done l:List (List UInt8))(n:List UInt8):pickedN fields done (n::l)=nthM (lower n) (cntK (lower n) done) fields.reverse::pickedN fields (done++[n]) l:=rfl
noncomputable def tlS : Code->Nat->Code
 |c,0=>c
 |.seq _ b,n+1=>tlS b n
 |_,_+1=>.skip
noncomputable def joinS : Nat->Code->Code->Code
 |0,_,t=>t
 |n+1,.seq a b,t=>.seq a (joinS n b t)
 |_+1,c,_=>c
noncomputable def B74 : Code:=Tryz.f74.body.getD .skip
noncomputable def B64 : Code:=Tryz.f64.body.getD .skip
noncomputable def B45 : Code:=Tryz.f45.body.getD .skip
def frL(F:Nat->Value):Nat->Nat->List Value
 |_,0=>[]
 |i,n+1=>F i::frL F (i+1) n
def frS(n:Nat)(F:Nat->Value):Array Value:=(frL F 0 n).toArray
theorem fr506(F:Nat->Value):frS 506 F=(F 0::F 1::F 2::F 3::F 4::F 5::F 6::F 7::F 8::F 9::F 10::F 11::F 12::F 13::F 14::F 15::F 16::F 17::F 18::F 19::F 20::F 21::F 22::F 23::F 24::F 25::F 26::F 27::F 28::F 29::F 30::F 31::F 32::F 33::F 34::F 35::F 36::F 37::F 38::F 39::F 40::F 41::F 42::F 43::F 44::F 45::F 46::F 47::F 48::F 49::F 50::F 51::F 52::F 53::F 54::F 55::F 56::F 57::F 58::F 59::F 60::F 61::F 62::F 63::F 64::F 65::F 66::F 67::F 68::F 69::F 70::F 71::F 72::F 73::F 74::F 75::F 76::F 77::F 78::F 79::F 80::F 81::F 82::F 83::F 84::F 85::F 86::F 87::F 88::F 89::F 90::F 91::F 92::F 93::F 94::F 95::F 96::F 97::F 98::F 99::F 100::F 101::F 102::F 103::F 104::F 105::F 106::F 107::F 108::F 109::F 110::F 111::F 112::F 113::F 114::F 115::F 116::F 117::F 118::F 119::F 120::F 121::F 122::F 123::F 124::F 125::F 126::F 127::F 128::F 129::F 130::F 131::F 132::F 133::F 134::F 135::F 136::F 137::F 138::F 139::F 140::F 141::F 142::F 143::F 144::F 145::F 146::F 147::F 148::F 149::F 150::F 151::F 152::F 153::F 154::F 155::F 156::F 157::F 158::F 159::F 160::F 161::F 162::F 163::F 164::F 165::F 166::F 167::F 168::F 169::F 170::F 171::F 172::F 173::F 174::F 175::F 176::F 177::F 178::F 179::F 180::F 181::F 182::F 183::F 184::F 185::F 186::F 187::F 188::F 189::F 190::F 191::F 192::F 193::F 194::F 195::F 196::F 197::F 198::F 199::F 200::F 201::F 202::F 203::F 204::F 205::F 206::F 207::F 208::F 209::F 210::F 211::F 212::F 213::F 214::F 215::F 216::F 217::F 218::F 219::F 220::F 221::F 222::F 223::F 224::F 225::F 226::F 227::F 228::F 229::F 230::F 231::F 232::F 233::F 234::F 235::F 236::F 237::F 238::F 239::F 240::F 241::F 242::F 243::F 244::F 245::F 246::F 247::F 248::F 249::F 250::F 251::F 252::F 253::F 254::F 255::F 256::F 257::F 258::F 259::F 260::F 261::F 262::F 263::F 264::F 265::F 266::F 267::F 268::F 269::F 270::F 271::F 272::F 273::F 274::F 275::F 276::F 277::F 278::F 279::F 280::F 281::F 282::F 283::F 284::F 285::F 286::F 287::F 288::F 289::F 290::F 291::F 292::F 293::F 294::F 295::F 296::F 297::F 298::F 299::F 300::F 301::F 302::F 303::F 304::F 305::F 306::F 307::F 308::F 309::F 310::F 311::F 312::F 313::F 314::F 315::F 316::F 317::F 318::F 319::F 320::F 321::F 322::F 323::F 324::F 325::F 326::F 327::F 328::F 329::F 330::F 331::F 332::F 333::F 334::F 335::F 336::F 337::F 338::F 339::F 340::F 341::F 342::F 343::F 344::F 345::F 346::F 347::F 348::F 349::F 350::F 351::F 352::F 353::F 354::F 355::F 356::F 357::F 358::F 359::F 360::F 361::F 362::F 363::F 364::F 365::F 366::F 367::F 368::F 369::F 370::F 371::F 372::F 373::F 374::F 375::F 376::F 377::F 378::F 379::F 380::F 381::F 382::F 383::F 384::F 385::F 386::F 387::F 388::F 389::F 390::F 391::F 392::F 393::F 394::F 395::F 396::F 397::F 398::F 399::F 400::F 401::F 402::F 403::F 404::F 405::F 406::F 407::F 408::F 409::F 410::F 411::F 412::F 413::F 414::F 415::F 416::F 417::F 418::F 419::F 420::F 421::F 422::F 423::F 424::F 425::F 426::F 427::F 428::F 429::F 430::F 431::F 432::F 433::F 434::F 435::F 436::F 437::F 438::F 439::F 440::F 441::F 442::F 443::F 444::F 445::F 446::F 447::F 448::F 449::F 450::F 451::F 452::F 453::F 454::F 455::F 456::F 457::F 458::F 459::F 460::F 461::F 462::F 463::F 464::F 465::F 466::F 467::F 468::F 469::F 470::F 471::F 472::F 473::F 474::F 475::F 476::F 477::F 478::F 479::F 480::F 481::F 482::F 483::F 484::F 485::F 486::F 487::F 488::F 489::F 490::F 491::F 492::F 493::F 494::F 495::F 496::F 497::F 498::F 499::F 500::F 501::F 502::F 503::F 504::F 505::[]).toArray:=rfl
theorem fr398(F:Nat->Value):frS 398 F=(F 0::F 1::F 2::F 3::F 4::F 5::F 6::F 7::F 8::F 9::F 10::F 11::F 12::F 13::F 14::F 15::F 16::F 17::F 18::F 19::F 20::F 21::F 22::F 23::F 24::F 25::F 26::F 27::F 28::F 29::F 30::F 31::F 32::F 33::F 34::F 35::F 36::F 37::F 38::F 39::F 40::F 41::F 42::F 43::F 44::F 45::F 46::F 47::F 48::F 49::F 50::F 51::F 52::F 53::F 54::F 55::F 56::F 57::F 58::F 59::F 60::F 61::F 62::F 63::F 64::F 65::F 66::F 67::F 68::F 69::F 70::F 71::F 72::F 73::F 74::F 75::F 76::F 77::F 78::F 79::F 80::F 81::F 82::F 83::F 84::F 85::F 86::F 87::F 88::F 89::F 90::F 91::F 92::F 93::F 94::F 95::F 96::F 97::F 98::F 99::F 100::F 101::F 102::F 103::F 104::F 105::F 106::F 107::F 108::F 109::F 110::F 111::F 112::F 113::F 114::F 115::F 116::F 117::F 118::F 119::F 120::F 121::F 122::F 123::F 124::F 125::F 126::F 127::F 128::F 129::F 130::F 131::F 132::F 133::F 134::F 135::F 136::F 137::F 138::F 139::F 140::F 141::F 142::F 143::F 144::F 145::F 146::F 147::F 148::F 149::F 150::F 151::F 152::F 153::F 154::F 155::F 156::F 157::F 158::F 159::F 160::F 161::F 162::F 163::F 164::F 165::F 166::F 167::F 168::F 169::F 170::F 171::F 172::F 173::F 174::F 175::F 176::F 177::F 178::F 179::F 180::F 181::F 182::F 183::F 184::F 185::F 186::F 187::F 188::F 189::F 190::F 191::F 192::F 193::F 194::F 195::F 196::F 197::F 198::F 199::F 200::F 201::F 202::F 203::F 204::F 205::F 206::F 207::F 208::F 209::F 210::F 211::F 212::F 213::F 214::F 215::F 216::F 217::F 218::F 219::F 220::F 221::F 222::F 223::F 224::F 225::F 226::F 227::F 228::F 229::F 230::F 231::F 232::F 233::F 234::F 235::F 236::F 237::F 238::F 239::F 240::F 241::F 242::F 243::F 244::F 245::F 246::F 247::F 248::F 249::F 250::F 251::F 252::F 253::F 254::F 255::F 256::F 257::F 258::F 259::F 260::F 261::F 262::F 263::F 264::F 265::F 266::F 267::F 268::F 269::F 270::F 271::F 272::F 273::F 274::F 275::F 276::F 277::F 278::F 279::F 280::F 281::F 282::F 283::F 284::F 285::F 286::F 287::F 288::F 289::F 290::F 291::F 292::F 293::F 294::F 295::F 296::F 297::F 298::F 299::F 300::F 301::F 302::F 303::F 304::F 305::F 306::F 307::F 308::F 309::F 310::F 311::F 312::F 313::F 314::F 315::F 316::F 317::F 318::F 319::F 320::F 321::F 322::F 323::F 324::F 325::F 326::F 327::F 328::F 329::F 330::F 331::F 332::F 333::F 334::F 335::F 336::F 337::F 338::F 339::F 340::F 341::F 342::F 343::F 344::F 345::F 346::F 347::F 348::F 349::F 350::F 351::F 352::F 353::F 354::F 355::F 356::F 357::F 358::F 359::F 360::F 361::F 362::F 363::F 364::F 365::F 366::F 367::F 368::F 369::F 370::F 371::F 372::F 373::F 374::F 375::F 376::F 377::F 378::F 379::F 380::F 381::F 382::F 383::F 384::F 385::F 386::F 387::F 388::F 389::F 390::F 391::F 392::F 393::F 394::F 395::F 396::F 397::[]).toArray:=rfl
theorem frL_get(d:Value)(m:List Value):∀(l:List Value) (i:Nat),(∀k,l[k]?=m[i+k]?)->frL (fun i=>m.getD i d) i l.length=l:=by
 intro l;induction l with
 |nil=>intro i _;rfl
 |cons x l ih =>
  intro i h;rw[List.length_cons,frL];have h0:=h 0;rw[Nat.add_zero,List.getElem?_cons_zero]at h0;have h1:m.getD i d=x:=by rw[List.getD_eq_getElem?_getD,<-h0];rfl
  rw[h1,ih (i+1) (fun k=>by have:=h (k+1);rw[List.getElem?_cons_succ]at this;rw[this];congr 1;omega)]
theorem useF{P:Program}{ct:Code}{Q:Exit->Act->World->Prop}{W:World}(n:Nat)(l:List Value)(hl:l.length=n)(h:Code.wp P ct Q ⟨frS n (fun i=>l.getD i .nilIface),[]⟩ W):Code.wp P ct Q ⟨l.toArray,[]⟩ W:=by
 have e:frL (fun i=>l.getD i .nilIface) 0 n=l:=by rw[<-hl];exact frL_get _ l l 0 (fun k=>by rw[Nat.zero_add])
 unfold frS at h;rw[e]at h;exact h
noncomputable def loop64(k:Nat):Code:=((loopsOf B64)[k]?).getD .skip
def fldW(form p:List UInt8):List UInt8:=if p=[]then[]else fieldOf form p
theorem fldW_nil(form:List UInt8):fldW form []=[]:=rfl
theorem fldW_ne(form p:List UInt8)(h:¬p=[]):fldW form p=fieldOf form p:=if_neg h
theorem useQ{Q:Exit->Act->World->Prop}{e:Exit}{W:World}(n:Nat)(l:List Value)(hl:l.length=n)(h:Q e ⟨frS n (fun i=>l.getD i .nilIface),[]⟩ W):Q e ⟨l.toArray,[]⟩ W:=by
 have q:frL (fun i=>l.getD i .nilIface) 0 n=l:=by rw[<-hl];exact frL_get _ l l 0 (fun k=>by rw[Nat.zero_add])
 unfold frS at h;rw[q]at h;exact h
theorem l64p(F:Nat->Value)(Q:Exit->Act->World->Prop)(c:Code)(hc:c=loop64 5)(wo w:World)(ty g gp mb cK:Nat)(AK:Option Addr)(hp hv:Value)(form L l0:List UInt8)(fields keys:List (List UInt8))(hform:CanTy ty form)(h51:F 51=.iface ty hp)(h57:F 57=.pointer (some ⟨g,0,none⟩))(h62:F 62=.pointer (some ⟨gp,0,none⟩))(hA:F 445=.slice AK keys.length cK)(hN:F 446=.int .i64 (keys.length:Int))(hI:F 447=.int .i64 0)
  (hPS:Hid (PS wo w g gp mb hv fields [] l0))(hkeys:RdS wo (.slice AK keys.length cK) keys)(hAK:∀a,AK=some a->a.block < g)
  (hL:Hid (l0++(pickedN fields [] keys).flatMap (fldW form)=L))(hLl:L.length<=1000000000000)(hkn:keys.length<=100000000)(hfn:fields.length<=1073741824)
  (hfl:allLe 268435456 fields)(hfp:∀f∈fields,plainL f)(hkl:allLe 268435456 keys)(hkp:∀k∈keys,plainL k)
  (hexit:∀(G:Nat->Value) (w':World),G 2=F 2->G 12=F 12->G 36=F 36->G 51=.iface ty hp->G 56=F 56->G 57=.pointer (some ⟨g,0,none⟩)->Hid (PS wo w' g gp mb hv fields keys L)->Q (.exit 11) ⟨frS 506 G,[]⟩ w') :
  Code.wp Tryz.prog (Code.loop c) Q ⟨frS 506 F,[]⟩ w:=by
 subst hc;conv=>arg 2;arg 1;whnf
 rw[fr506,h51,h57,h62,hA,hN,hI];clear h51 h57 h62 hA hN hI;have HEX:=zH hexit;have HF:=zH (And.intro hfl hfp);have HK:=zH (And.intro hkl hkp);have hmc:=mCanS hp;have hmd:=mCanR hp;have hfl2:Hid (allLe 1073741824 fields):=fun x hx=>zT (hfl x hx) (by decide)
 obtain⟨_,_,hk1,hkc,_,hkC⟩:=hkeys;injection hk1 with hk1 hk2 hk3
 subst hk1 hk3;have HKC:=zH hkC;have HAK:=zH hAK;clear hexit hfl hfp hkl hkp hkC hAK;obtain⟨fo,hfo⟩:∃fo,Hid (form=fo):=⟨_,rfl⟩;rw[hfo.out]at hform hL;rcases hform with⟨rfl,hfq⟩|⟨rfl,hfq⟩;all_goals
  have HFQ:=zH hfq;clear hfq;go_loopg [447] keys.length (fun gk v w'=>∃k:Nat,∃l:List UInt8,v=.int .i64 (k:Int)/\k<=keys.length/\Hid (k+gk=keys.length)/\Hid (PS wo w' g gp mb hv fields (keys.take k) l)/\Hid (l++(pickedN fields (keys.take k) (keys.drop k)).flatMap (fldW fo)=L))
  case atStart=>exact⟨0,l0,rfl,Nat.zero_le _,Nat.zero_add _,hPS,hL⟩
  clear hPS hL;obtain⟨k,l,rfl,hk,hkg,hP,hl⟩:=hrel;by_cases hlt:k < keys.length
  ·obtain⟨gK,oK,rfl,hcl⟩:=HKC.out (by omega)
   have hgK:gK < g:=HAK.out ⟨gK,oK,none⟩ rfl;obtain⟨n,hnE⟩:∃n:List UInt8,Hid (keys[k]=n):=⟨keys[k],zH rfl⟩;have hc0:=hcl k n (by rw[zG hlt,hnE.out]);have hck:=(hP.out.bel.cell (p:=⟨gK,oK+k,none⟩) hgK).trans hc0;have hnl:n.length<=268435456:=by rw[<-hnE.out];exact HK.out.1 _ (List.getElem_mem hlt)
   have hnp:Hid (plainL n):=by unfold Hid;rw[<-hnE.out];exact HK.out.2 _ (List.getElem_mem hlt)
   have htk:Hid (keys.take (k+1)=keys.take k++[n]):=by unfold Hid;rw[List.take_succ_eq_append_getElem hlt,hnE.out]
   obtain⟨pk,hpk⟩:∃pk,Hid (nthM (lower n) (cntK (lower n) (keys.take k)) fields.reverse=pk):=⟨_,rfl⟩;have hl2:=hl.out;rw[List.drop_eq_getElem_cons hlt,hnE.out,pickedN_cons,<-htk.out,hpk.out,List.flatMap_cons,<-List.append_assoc]at hl2;have hll:(l++fldW fo pk).length<=L.length:=by have h9:=congrArg List.length hl2;simp only[zA]at h9 ⊢;omega
   have hmem:=nthM_mem (lower n) fields.reverse (cntK (lower n) (keys.take k));rw[hpk.out]at hmem;have hpp:Hid (pk.length<=268435456/\plainL pk):=by
    rcases hmem with hm|hm
    ·rw[hm];exact⟨Nat.zero_le _,fun c hc=>by simp at hc⟩
    exact⟨HF.out.1 _ (List.mem_reverse.1 hm),HF.out.2 _ (List.mem_reverse.1 hm)⟩
   have HL2:=zH hl2;have HLL:=zH hll;have hkd:(keys.take k).length < 1073741824:=by rw[List.length_take];omega
   have i1:(k:Int) < (keys.length:Int):=by omega
   clear hl hc0 hcl hl2 hll hmem;by_cases hpe:pk=[]
   ·subst hpe
    rw[fldW_nil,List.append_nil]at HL2;have e1:(!(B []).toList.isEmpty)=false:=by simp[toList_B]
    have e2:(B []).toList.isEmpty=true:=by simp[toList_B]
    go_wp2_with (go_at_call 111;refine(hP.out.pick111 n hkd (by omega) hnp.out hfl2.out HF.out.2 hfn).mono ?_;rintro e w2⟨rfl,hP2⟩;rw[hpk.out];rw[<-htk.out]at hP2);go_roundg (gk - 1)
    case measure=>have:=hkg.out;omega
    case rel=>exact⟨k+1,l,by go_num,by omega,by have:=hkg.out;unfold Hid;omega,hP2,HL2⟩
   rw[fldW_ne _ _ hpe]at HL2 HLL;obtain⟨m,hm⟩:∃m,Hid (fieldOf fo pk=m):=⟨_,rfl⟩;rw[hm.out]at HL2 HLL;have hml:l.length+m.length<=1099511627776:=by have:=HLL.out;rw[zA]at this;omega
   have hmm:m.length<=maxLen:=by unfold maxLen;omega
   have hcv:=fun W=>Lib.run_convert_string_bytes (P:=Tryz.prog) W 9 33 5 (B m) Tryz.underlying9 Tryz.underlying33 Tryz.underlying5
   have e1:(!(B pk).toList.isEmpty)=true:=by simp[toList_B,hpe]
   have e2:(B pk).toList.isEmpty=false:=by simp[toList_B,hpe]
   go_wp2_with (first
    |(go_at_call 111;refine(hP.out.pick111 n hkd (by omega) hnp.out hfl2.out HF.out.2 hfn).mono ?_;rintro e w2⟨rfl,hP2⟩;rw[hpk.out];rw[<-htk.out]at hP2)
    |(go_at_call 112;refine(hP3.write112 m _ _ _ hr3 hml).mono ?_;rintro e w4⟨rfl,hP4⟩)
    |((first|(go_at_call 265;refine(cCan 224 fo hp pk _ (.inl ⟨rfl,HFQ.out⟩) hpp.out.1 hpp.out.2).mono ?_)|(go_at_call 267;refine(cCan 227 fo hp pk _ (.inr ⟨rfl,HFQ.out⟩) hpp.out.1 hpp.out.2).mono ?_));rintro e w3⟨rfl,hb3⟩;rw[hm.out];have hT:=(hP2.below hb3).text m hmm;obtain⟨hP3,hr3⟩:=hT))
   go_roundg (gk - 1)
   case measure=>have:=hkg.out;omega
   case rel=>exact⟨k+1,l++m,by go_num,by omega,by have:=hkg.out;unfold Hid;omega,hP4,HL2⟩
  obtain rfl:k=keys.length:=by omega
  have hl2:=hl.out;rw[List.drop_length,pickedN,List.flatMap_nil,List.append_nil]at hl2;subst hl2;have hP2:=hP;rw[List.take_length]at hP2;go_wp2;exact useQ 506 _ (by kernel_rfl) (HEX.out _ _ rfl rfl rfl rfl rfl rfl hP2)
theorem v8b(F:Nat->Value)(ct:Code)(hct:ct=tlS B64 44)(R:Ending->World->Prop)(wo w:World)(ty g gp mb gq b3:Nat)(form:List UInt8)(hp hv kv sv:Value)(L kb sg field:List UInt8)(kd:ByteArray)(fields keys:List (List UInt8))(h2:F 2=.string (B field))(h36:F 36=.pointer (some ⟨gq,0,none⟩))(h51:F 51=.iface ty hp)(h56:F 56=sv)(h57:F 57=.pointer (some ⟨g,0,none⟩))
  (hform:CanTy ty form)(hPS:Hid (PS wo w g gp mb hv fields keys L))(hres:Hid (wo.cell? ⟨gq,0,none⟩=some (.iface 82 (.agg #[.string kd,kv]))))(hgq:gq < g)(hkv:Hid (∀W,Below g wo W->RdB W kv kb))(hsv:Hid (∀W,Below g wo W->OwnB W b3 sv sg))(hKR:Hid (KRow wo))(h6:6 < g)
  (hfp:Hid (plainL field))(hfl:field.length<=268435456)(hem:Hid (plainL (emptied field)/\(emptied field).length<=268435456))(hfo:(fieldOf form (emptied field)).length<=1073741824)
  (hLl:L.length+(without (fieldOf form (emptied field))).length<=1073741824)(hkl:kb.length<=536870912)(hsha:Hid (∀l,(sha l).length<=536870912))
  (hR:∀(err:Value) (w':World),ErrIs err (if sg=sha (kb++sha (L++without (fieldOf form (emptied field))))then 0 else 1)->Below g wo w'->R (.returned (.tuple #[F 12,err])) w') :
  Code.wp Tryz.prog ct (bodyPost Tryz.prog Tryz.f64 R) ⟨frS 506 F,[]⟩ w:=by
 subst hct;conv=>arg 2;whnf
 rw[fr506,h2,h36,h51,h56,h57];clear h2 h36 h51 h56 h57;have HR:=zH hR;have hmc:=mCanS hp;have hmd:=mCanR hp;obtain⟨ef,hef⟩:∃ef,Hid (emptied field=ef):=⟨_,rfl⟩;rw[hef.out]at HR hem hfo hLl;obtain⟨cf,hcf⟩:∃cf,Hid (fieldOf form ef=cf):=⟨_,rfl⟩;rw[hcf.out]at HR hfo hLl;obtain⟨m,hm⟩:∃m,Hid (without cf=m):=⟨_,rfl⟩;rw[hm.out]at HR hLl;have hml:L.length+m.length<=1099511627776:=by omega
 have hmm:m.length<=maxLen:=by unfold maxLen;omega
 have hcv:=fun W=>Lib.run_convert_string_bytes (P:=Tryz.prog) W 9 33 5 (B m) Tryz.underlying9 Tryz.underlying33 Tryz.underlying5
 have hmv:=mVer;have hme:=mErr;obtain⟨hs,hhs⟩:∃hs,Hid (sha (L++m)=hs):=⟨_,rfl⟩;have hhl:hs.length<=536870912:=by rw[<-hhs.out];exact hsha.out _
 rw[hhs.out]at HR;clear hR;have c1:∀W,Below g wo W->W.cell? ⟨gq,0,none⟩=some (.iface 82 (.agg #[.string kd,kv])):=fun W hb=>(hb.cell (p:=⟨gq,0,none⟩) hgq).trans hres.out
 have C1:=zH c1;clear c1;obtain⟨fo,hfo2⟩:∃fo,Hid (form=fo):=⟨_,rfl⟩;rw[hfo2.out]at hform hcf;rcases hform with⟨rfl,hfq⟩|⟨rfl,hfq⟩ <;> by_cases hq:sg=sha (kb++hs)
 all_goals
  first|rw[if_pos hq]at HR|rw[if_neg hq]at HR
  have HQ:=zH hq;have HFQ:=zH hfq;clear hq hfq;go_wp2_with (first
   |(go_at_call 113;refine(c113 (B field) _ (by rw[size_B];omega) (by rw[L_B];exact hfp.out)).mono ?_;rintro e w1⟨rfl,hb1⟩;rw[L_B,hef.out];have hP1:=hPS.out.below hb1)
   |((first|(go_at_call 265;refine(cCan 224 fo hp ef _ (.inl ⟨rfl,HFQ.out⟩) hem.out.2 hem.out.1).mono ?_)|(go_at_call 267;refine(cCan 227 fo hp ef _ (.inr ⟨rfl,HFQ.out⟩) hem.out.2 hem.out.1).mono ?_));rintro e w2⟨rfl,hb2⟩;rw[hcf.out];have hP2:=hP1.below hb2)
   |(go_at_call 114;refine(c114 (B cf) _ (by rw[size_B];exact hfo)).mono ?_;rintro e w3⟨rfl,hb3⟩;rw[L_B,hm.out];obtain⟨hP3,hr3⟩:=(hP2.below hb3).text m hmm)
   |(go_at_call 112;refine(hP3.write112 m _ _ _ hr3 hml).mono ?_;rintro e w4⟨rfl,hP4⟩;obtain⟨bv4,hd4,_⟩:=hP4.dig;have hB4:=hP4.bel)
   |(go_at_call 108;refine(c108 g bv4 (L++m) _ hd4 (by rw[zA];omega) (hKR.out.below hB4 h6)).mono ?_;rintro e w5⟨v5,rfl,ho5,hd5,hg5⟩;have hB5:Below g wo w5:=hB4.trans ((Gr.of_grown hg5).below (Nat.le_of_lt hd4.lt) (fun k hk q=>by injection q with q;omega));rw[hhs.out]at ho5;have hc5:=C1.out _ hB5;obtain⟨A5,c5,rfl,_⟩:=ho5.slice)
   |(go_at_call 241;refine(c241 kd kv _ _ kb hs sg _ _ (hkv.out _ hB5) ho5.rdB (hsv.out _ hB5) hkl hhl (hKR.out.below hB5 h6)).mono ?_;rintro e w6⟨err,rfl,he1,he2,hb6⟩;(first|(have q:=he1 HQ.out.symm;obtain rfl:=q)|(obtain⟨em,⟨ge,rfl,hce⟩,_⟩:=he2 (fun q=>HQ.out q.symm)));have hB6:=hB5.trans (hb6.mono (Nat.le_of_lt hd5.lt)))
   |(go_at_call 270;refine(c270 _ _ _ hce).mono ?_;rintro e w7⟨rfl,rfl⟩))
  skip
  refine HR.out _ _ ?_ hB6
  first|exact .inl ⟨rfl,rfl⟩|exact .inr (.inr (.inr ⟨_,rfl,rfl⟩))
end Go.Proofs.YtnkihlpmmfeioaaGreatDoor
