/- Proved: laws.FnDVerifies returns true for every message text,every slice of records,every limit and every time;its arguments and the three package-level variables that its row names read as they did. Conditions: the listed package-level variables hold what the text of the program gives them (the tied card),and the arguments fit into memory as the row has it (no text,no slice beyond its reach). -/
import Derived.ProofKit
import Derived.OpenShut
import Derived.ShutString
import Derived.ChangeOld
import Derived.Below
import Derived.OpenVars
import Derived.Stop.Joined
import Derived.LaidByTextLater
import Derived.Test.YtnkihlpmmfeioaaGreatDoorCards
import Derived.Test.YtnkihlpmmfeioaaGreatDoorTie
import Derived.SevenTiedAt
import Derived.Test.YtnkihlpmmfeioaaGreatDoorZ48
set_option linter.unusedVariables false
set_option linter.unusedSimpArgs false
set_option maxRecDepth 1000000
set_option maxHeartbeats 16000000
namespace Go.Proofs.YtnkihlpmmfeioaaGreatDoor
open Go.RowKit
open Go.ChangeShapes Go.WideShapes Go.ChangeAt
open Go.ChangeMaps (open_string shut_string)
theorem own : ownKnob Tryz.prog.godebug=none:=by kernel_rfl
theorem laidOut : laidOutB Tryz.prog=true:=by kernel_rfl
theorem vars3{H:Type}{enc:TypeId × Value->H}{W:World}{sp:Nat->Bool}{a b c:String}:∀{gs:List (DataW H)} {q:List MemPlace},DataW.TrodVars enc Tryz.prog W sp [a,b,c] gs q->∃g1 g2 g3,gs=[g1,g2,g3]
 |[],_,h=>h.elim
 |[_],_,h=>by obtain⟨_,_,_,_,_,_,_,_,_,_,h,_⟩:=h;exact h.elim
 |[_,_],_,h=>by
  obtain⟨_,_,_,_,_,_,_,_,_,_,h,_⟩:=h;obtain⟨_,_,_,_,_,_,_,_,_,_,h,_⟩:=h;exact h.elim
 |[x,y,z],_,_=>⟨x,y,z,rfl⟩
 |_::_::_::_::_,_,h=>by
  obtain⟨_,_,_,_,_,_,_,_,_,_,h,_⟩:=h;obtain⟨_,_,_,_,_,_,_,_,_,_,h,_⟩:=h;obtain⟨_,_,_,_,_,_,_,_,_,_,h,_⟩:=h;exact h.elim
theorem door_met(os:Os)(args:Array Value):laidMetH Tryz.prog Rows.fnDVerifiesRow.laid ((World.doorLaid Tryz.prog 400 os).forCall (fun _ _=>0) ⟨#[],args,[]⟩).memory :=
 laidMetH_of_parts3 (fuel:=8) (laidMet_of_run' 8 (by kernel_rfl) (by kernel_rfl)) (by kernel_rfl) (by kernel_rfl)
theorem lifted(os:Os)(started:os.Started)(H:Type)(enc:TypeId × Value->H) :
  ReturnsInHanded {} Tryz.checked os 3 .any (fun w args=>(Rows.fnDVerifiesSpec.pre enc Tryz.prog Tryz.f3 [] false w args/\laidMetH Tryz.prog Rows.fnDVerifiesRow.laid w)/\sizedMet enc Tryz.prog Tryz.f3 (OpenSpec.ofChange Rows.fnDVerifiesSpec) false w args)
   (Rows.fnDVerifiesSpec.post enc Tryz.prog Tryz.f3 false true false false):=by
 refine returnsInHanded_of_change_and (C:=Tryz.checked) (X:=fun w _=>laidMetH Tryz.prog Rows.fnDVerifiesRow.laid w) (fun _ _ _ hh h=>h.of_heap hh) own started (by kernel_rfl) Tryz.func3
  (ChangeSpec.witness_shaped (enc:=enc) (C:=Tryz.checked) (os:=os) (X:=fun w _=>laidMetH Tryz.prog Rows.fnDVerifiesRow.laid w) false (World.doorLaid Tryz.prog 400 os) #[.string ByteArray.empty,.slice none 0 0,.int .i64 0,.int .i64 0] 8 rfl (World.shaped_of_RefB (by kernel_rfl) (by kernel_rfl)) (by kernel_rfl) (by kernel_rfl) (by kernel_rfl) (door_met os _)) ?_
 intro W base args ds gs before hval0 hW _ hsz0 hL _;have hsz:(DataW.weightsEach Tryz.prog (Tryz.f3.params.toList++Rows.fnDVerifiesSpec.plain.varTypes Tryz.prog) (ds++gs)).all (·<=reachBytes)=true:=hsz0;have hval:∀(j:Nat) t v,Tryz.f3.params[j]?=some t->args[j]?=some v->Value.okWide Tryz.prog W .any base t v:=hval0;have hW':=hW;obtain⟨p,q,hA0,hV,rfl,hfz,hnd⟩:=hW;have hA:DataW.TrodAll enc Tryz.prog W 0 (fun _=>true) true Tryz.f3.params.toList args.toList ds p:=hA0;rw[Tryz.params3]at hA hval hsz;obtain⟨v0,vs0,d0,ds0,p0,q0,hargs,rfl,rfl,h0,r0⟩:=trodAll_cons hA;obtain⟨v1,vs1,d1,ds1,p1,q1,rfl,rfl,rfl,h1,r1⟩:=trodAll_cons r0;obtain⟨v2,vs2,d2,ds2,p2,q2,rfl,rfl,rfl,h2,r2⟩:=trodAll_cons r1;obtain⟨v3,vs3,d3,ds3,p3,q3,rfl,rfl,rfl,h3,r3⟩:=trodAll_cons r2;obtain⟨rfl,rfl,rfl⟩:=trodAll_nil r3;obtain rfl:args=#[v0,v1,v2,v3]:=by cases args;simp_all
 obtain⟨g1,g2,g3,rfl⟩:=vars3 hV;obtain⟨a0,rfl,rfl,rfl,y0⟩:=open_string Tryz.underlying9 (hval 0 9 v0 rfl rfl) h0;have w0:a0.data.toList.length<=140737488355328:=zT (sized_string hsz (j:=0) (t:=9) rfl rfl) (by decide);obtain⟨A1,n1,c1,rfl⟩:=okWide_slice Tryz.underlying22 (hval 1 22 v1 rfl rfl);have k1:=h1;have lt1:∀x∈p1,x.block < W.heap.size:=by obtain⟨m,hm⟩:=k1;exact DataW.trod_lt m _ _ _ hm
 obtain⟨recs,hR,hok⟩:∃recs,RdR W (.slice A1 n1 c1) recs/\∀x∈recs,RecOk x:=by
  obtain⟨fuel,hf⟩:=h1;exact rdR_of hf fun m hm=>by
   have:=List.all_eq_true.1 hsz m (DataW.weights_mem_each (j:=1) rfl rfl m hm)
   simpa using this
 obtain⟨a2,rfl,rfl,rfl,w2⟩:=open_int Tryz.underlying3 (hval 2 3 v2 rfl rfl) h2;obtain⟨a3,rfl,rfl,rfl,w3⟩:=open_int Tryz.underlying2 (hval 3 2 v3 rfl rfl) h3;obtain⟨pE,pF,pS,pR,pT,txS,txR,hE⟩:=en_of_laid hL;clear hA0 hval0 hsz0 hsz hL;have hw:=c3 a0.data.toList _ recs a2 a3 W pE pF pS pR pT txS txR hE w0 hR hok;rw[B_L]at hw;refine hw.mono fun e W' ⟨he,bel⟩=>?_
 subst he;exact⟨_,rfl,_,_,_,[],_,_,hW',trodAll_mk1 (shut_bool Tryz.underlying4 _),trodAll_cons_mk (shut_string Tryz.underlying9 y0) (trodAll_cons_mk (Below.trod laidOut (by kernel_rfl) (of_decide_eq_true (by kernel_rfl)) k1 bel lt1) (trodAll_cons_mk (shut_int Tryz.underlying3 w2) (trodAll_cons_mk (shut_int Tryz.underlying2 w3) trodAll_mk0))),Below.trodVars laidOut bel (by kernel_rfl) hV,bel.frame _,fun h=>by cases h⟩
theorem joined_of{P:Program}{f:FuncId}{fn:Func}{s:ChangeSpec}{c:OpenClaim}(h0:c.wf (OpenSpec.ofChange s)=true)(h1:laidOutB P=true)(h2:mapsRowed P=true)(h3:fn.params.all (P.readableRec ·)=true)(h4:namedTie P c.named s.vars=true)(h5:(c.stops == [])=true)(h6:(P.stops == [])=true)(h7:(c.knobs == [])=true)(h8:(P.stopKnobs == [])=true)(h9:(c.inPlace == P.inPlace f)=true)(h10:(c.unfollowed == P.unfollowed f)=true)(h11:(c.recurses == P.recurses f)=true)(h12:(c.named == P.varsNamed f)=true)(h13:(c.maps == (fn.params.toList++s.plain.varTypes P).any (P.mapsRec ·))=true)(h14:(c.ifaces == (fn.params.toList++s.plain.varTypes P).any (P.ifacesRec ·))=true)(h15:(c.mapsOut == P.mapsAmong fn.resultTypes.toList)=true)(h16:(c.loops == (fn.params.toList++s.plain.varTypes P).any (P.loopsFrom ·))=true)(h17:(c.wideKeys == (fn.params.toList++s.plain.varTypes P++fn.resultTypes.toList).any (P.wideKeysFrom ·))=true)(h18:s.vars.all (P.varReadable ·)=true)(h19:fn.resultTypes.all (fun t=>P.readableRec t && decide (t < P.types.size))=true)(h20:(c.ifacesOut == fn.resultTypes.toList.any (P.ifacesRec ·))=true)(h21:(c.loopsOut == fn.resultTypes.toList.any (P.loopsFrom ·))=true)(h22:(c.plainKeys == P.plainKeys)=true)(h23:c.shortTexts.isNone=true)(h24:P.stopsHeard=true)(h25:P.mayEnter=true)(h26:(c.lifted == P.liftsFinal)=true)(h27:(P.make == some c.make)=true)(h28:(c.kinds == (if c.domain.isEmpty then[]else fn.params.toList.map fun t=>match P.underlying t with|some (.int k)=>some k|_=>none))=true)(h29:(c.pinned == c.pinnedBy)=true)(h30:(c.veiled == (fn.params.toList++s.plain.varTypes P++fn.resultTypes.toList).any (P.veiledRec ·))=true)(h31:c.veiledFits P fn.params.toList (fn.params.toList++s.plain.varTypes P++fn.resultTypes.toList)=true):joinedFacts P f fn s c=true:=by
 simp only[joinedFacts,Bool.and_eq_true];exact⟨⟨⟨⟨⟨⟨⟨⟨⟨⟨⟨⟨⟨⟨⟨⟨⟨⟨⟨⟨⟨⟨⟨⟨⟨⟨⟨⟨⟨⟨⟨h0,h1⟩,h2⟩,h3⟩,h4⟩,h5⟩,h6⟩,h7⟩,h8⟩,h9⟩,h10⟩,h11⟩,h12⟩,h13⟩,h14⟩,h15⟩,h16⟩,h17⟩,h18⟩,h19⟩,h20⟩,h21⟩,h22⟩,h23⟩,h24⟩,h25⟩,h26⟩,h27⟩,h28⟩,h29⟩,h30⟩,h31⟩
theorem pgF1 : laidOutB Tryz.prog=true:=by kernel_rfl
theorem pgF2 : mapsRowed Tryz.prog=true:=by kernel_rfl
theorem pgF6 : (Tryz.prog.stops == [])=true:=by kernel_rfl
theorem pgF8 : (Tryz.prog.stopKnobs == [])=true:=by kernel_rfl
theorem pgF24 : Tryz.prog.stopsHeard=true:=by kernel_rfl
theorem pgF25 : Tryz.prog.mayEnter=true:=by kernel_rfl
theorem fnDVerifiesF9 : (Rows.fnDVerifiesRow.inPlace == Tryz.prog.inPlace 3)=true:=by kernel_rfl
theorem fnDVerifiesF10 : (Rows.fnDVerifiesRow.unfollowed == Tryz.prog.unfollowed 3)=true:=by kernel_rfl
theorem fnDVerifiesF11 : (Rows.fnDVerifiesRow.recurses == Tryz.prog.recurses 3)=true:=by kernel_rfl
theorem fnDVerifiesF12 : (Rows.fnDVerifiesRow.named == Tryz.prog.varsNamed 3)=true:=by kernel_rfl
theorem fnDVerifiesF22 : (Rows.fnDVerifiesRow.plainKeys == Tryz.prog.plainKeys)=true:=by kernel_rfl
theorem fnDVerifiesF26 : (Rows.fnDVerifiesRow.lifted == Tryz.prog.liftsFinal)=true:=by kernel_rfl
theorem fnDVerifiesF27 : (Tryz.prog.make == some Rows.fnDVerifiesRow.make)=true:=by kernel_rfl
theorem fnDVerifies_closed : joinedFacts Tryz.prog 3 Tryz.f3 Rows.fnDVerifiesSpec Rows.fnDVerifiesRow=true :=
 joined_of (by kernel_rfl) pgF1 pgF2 (by kernel_rfl) (by kernel_rfl) (by kernel_rfl) pgF6 (by kernel_rfl) pgF8 fnDVerifiesF9 fnDVerifiesF10 fnDVerifiesF11 fnDVerifiesF12 (by kernel_rfl) (by kernel_rfl) (by kernel_rfl) (by kernel_rfl) (by kernel_rfl) (by kernel_rfl) (by kernel_rfl) (by kernel_rfl) (by kernel_rfl) fnDVerifiesF22 (by kernel_rfl) pgF24 pgF25 fnDVerifiesF26 fnDVerifiesF27 (by kernel_rfl) (by kernel_rfl) (by kernel_rfl) (by kernel_rfl)
theorem fnDVerifies_named : Tryz.prog.funcNamed Rows.fnDVerifiesRow.func=some 3:=by kernel_rfl
theorem fnDVerifies_holds : Rows.FnDVerifiesSaid :=
 OpenClaim.holds_of_wide 3 Tryz.f3 rfl rfl rfl rfl rfl rfl rfl ⟨rfl,rfl,rfl,rfl,rfl⟩ rfl rfl rfl rfl rfl fnDVerifies_named Tryz.func3 fnDVerifies_closed
  (of_decide_eq_true (by kernel_rfl)) (by unfold Func.isWrapper;first|(rw[if_pos (by decide +kernel)];kernel_rfl)|(rw[if_neg (by decide +kernel)];exact⟨rfl,rfl⟩))
  (fun os started H enc _=>lifted os started H enc)
#print axioms fnDVerifies_holds
open Go
theorem fnDVerifies_card : Rows.FnDVerifiesCardSaid :=
 Claim7.holds_tied_plain_at .later [] [.data,.data,.data,.data,.sentinel,.sentinel,.sentinel,.sentinel,.sentinel,.sentinel,.sentinel,.sentinel,.sentinel,.data] true (true, "4d18348b6e9595a2e7a9892f5525d0de4ec2c490a410f52b76276ea4a536faa2") true
  fnDVerifies_holds (fun _ h=>by cases h) (by kernel_rfl) (fun _ h=>by cases h) fnDVerifies_row_tie rfl ⟨rfl,rfl⟩ (by kernel_rfl) rfl
  (fun f fn hf hfn=>by
   obtain rfl:f=3:=Option.some.inj (fnDVerifies_named.symm.trans hf) |>.symm;obtain rfl:fn=Tryz.f3:=(Option.some.inj (Tryz.func3.symm.trans hfn)).symm;exact⟨by kernel_rfl,fun j t ht=>by
    rw[Tryz.params3]at ht;have hm:t∈[9,22,3,2]:=by simpa using Array.mem_of_getElem? ht
    have hall:([9,22,3,2].all fun u=>!Tryz.prog.wantsStandIn u)=true:=by kernel_rfl
    exact(show Tryz.prog.wantsStandIn t=false by simpa using List.all_eq_true.1 hall t hm)⟩)
  (by kernel_rfl)
#print axioms fnDVerifies_card
end Go.Proofs.YtnkihlpmmfeioaaGreatDoor
