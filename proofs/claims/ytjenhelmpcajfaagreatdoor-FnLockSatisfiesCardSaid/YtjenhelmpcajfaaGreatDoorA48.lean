/- Proved: the given statement FnLockSatisfiesCardSaid: a lock satisfies its inputs if it was made for the same imports and its versions match the constraints that count (or the overrides in their place); what is missing, superfluous and unmet is told; no lock satisfies nothing. Conditions: those of the given row and card alone, nothing is added. -/
import Derived.Test.YtjenhelmpcajfaaGreatDoorRows
import Derived.Lib.LaidU8
import Derived.LaidMore
import Derived.LaidOnce
import Derived.Test.YtjenhelmpcajfaaGreatDoorA46
import Derived.Test.YtjenhelmpcajfaaGreatDoorA47
import Derived.Test.YtjenhelmpcajfaaGreatDoorCards
import Derived.Test.YtjenhelmpcajfaaGreatDoorTie
import Derived.ProofKit
import Derived.OpenShut
import Derived.ReadAgain
import Derived.Lay
import Derived.Stop.Joined
import Derived.SevenTiedAt
set_option linter.all false
set_option maxRecDepth 100000
set_option maxHeartbeats 2000000
namespace Go.Proofs.YtjenhelmpcajfaaGreatDoor
open Go.Proofs.Tryz Go.RowKit
theorem Gy {H:Type} {enc:TypeId × Value->H} {P:Program} {w:World} {base:Nat} {sp:Nat->Bool} {held:Bool} {fuel:Nat} {t:TypeId} {ms:Array (String × TypeId)} {cs:List Value} {x:DataW H × List MemPlace} (ht:P.underlying t=some (.interface ms)) (h:DataW.trod enc P w base sp held fuel t cs=some x):
 cs= [.nilIface]\/∃te pe,cs= [.iface te pe]:=by
 cases fuel with
 | zero=>simp [DataW.trod] at h
 | succ n=>
   unfold DataW.trod at h;rw [ht] at h;split at h<;>simp_all
theorem Gz {W:World} {n:String} {d:DataW Unit} {g:Nat} (h:Lib.VarReads Tryz.prog W n d) (hg:Tryz.prog.globalNamed n=some g) {t:TypeId} (hty:(Tryz.prog.globals[g]?).map (·.type)=some t) {ms:Array (String × TypeId)} (ht:Tryz.prog.underlying t=some (.interface ms)):
 ∃ev,W.cell? ⟨g,0,none⟩=some ev/\(ev= .nilIface\/∃te pe,ev= .iface te pe):=by
 obtain ⟨g',t',cs,fuel,p,hg',hty',hv,hd⟩:=h;obtain rfl:=Option.some.inj (hg.symm.trans hg');obtain rfl:=Option.some.inj (hty.symm.trans hty');have hc:=World.var?_cell hg' hv 0;rcases Gy ht hd with e|⟨te,pe,e⟩
 · refine ⟨_, ?_, .inl rfl⟩;rw [hc,<-Array.getElem?_toList,e];rfl
 refine ⟨_, ?_, .inr ⟨te,pe,rfl⟩⟩;rw [hc,<-Array.getElem?_toList,e];rfl
theorem N5 {P:Program} {W:World} {name:String} {k:IntKind} {zs:List Int} {g:Nat} {t e:TypeId} {n:Nat} (hg:P.globalNamed name=some g) (hty:(P.globals[g]?).map (·.type)=some t) (ht:P.underlying t=some (.array n e)) (he:P.underlying e=some (.int k)) (hce:P.cellsOf e=1) (hct:P.cellsOf t=n)
 (h:Lib.VarReads P W name (Lib.tabData k zs)):Lib.TabIs P W name k zs:=by
 obtain ⟨g',t',cs,fuel,p,hg',ht',hvar,hd⟩:=h;obtain rfl:=Option.some.inj (hg.symm.trans hg');obtain rfl:=Option.some.inj (hty.symm.trans ht');unfold Lib.TabIs;rw [hvar,<-Lib.cells_of_tab ht he hce hct hd]
theorem Tv {W:World} (h:laidMetH Tryz.prog Rows.fnLockSatisfiesRow.laid W):Gl W:=by
 rw [MakeChecks.laidMetH_plain _ _ _ (by kernel_rfl)] at h;have r:∀n d,(n,d)∈Rows.fnLockSatisfiesRow.laid->Lib.VarReads Tryz.prog W n d:=fun n d hm=>Lib.laidMet.reads h hm
 have h2:=r "internal/strconv.uint64pow10" _ (.tail _ (.tail _ (.head _)));have h4:=r "strconv.ErrRange" _ (.tail _ (.tail _ (.tail _ (.tail _ (.head _)))));have h5:=r "strconv.ErrSyntax" _ (.tail _ (.tail _ (.tail _ (.tail _ (.tail _ (.head _))))));exact ⟨Gz h5 (show Tryz.prog.globalNamed "strconv.ErrSyntax"=some 0 by kernel_rfl) (show (Tryz.prog.globals[0]?).map (·.type)=some 192 by kernel_rfl) underlying192,Gz h4 (show Tryz.prog.globalNamed "strconv.ErrRange"=some 1 by kernel_rfl) (show (Tryz.prog.globals[1]?).map (·.type)=some 192 by kernel_rfl) underlying192,N5 (g:=9) (show Tryz.prog.globalNamed "internal/strconv.uint64pow10"=some 9 by kernel_rfl) (show (Tryz.prog.globals[9]?).map (·.type)=some 398 by kernel_rfl) underlying398 underlying262 (by kernel_rfl) (by kernel_rfl) h2⟩
section
open Go.ChangeAt Go.ChangeShapes Go.WideShapes
def Tw:Kd (List aa × List LD) where
 sz:=2
 rep:=fun F w x cs=>∃iv pv,cs= [iv,pv]/\bK F w iv x.1/\Rd E0 F w pv x.2
 len:=fun ⟨_,_,h,_⟩=>by rw [h];rfl
 one:=fun ⟨iv,pv,h,h1,h2⟩ u hu=>by
  obtain ⟨A,c,rfl⟩:=h1.form;obtain ⟨B,d,rfl⟩:=h2.form;rw [h] at hu;simp at hu;rcases hu with rfl|rfl<;>rfl
 step:=fun ho hk ⟨iv,pv,h,h1,h2⟩=>⟨iv,pv,h,h1.step' ho hk,h2.step' ho hk⟩
def Tx:Kd (aa × List Pk) where
 sz:=2
 rep:=fun F w x cs=>∃tv,cs= [.string x.1,tv]/\Rd pU F w tv x.2
 len:=fun ⟨_,h,_⟩=>by rw [h];rfl
 one:=fun ⟨tv,h,h1⟩ u hu=>by
  obtain ⟨A,c,rfl⟩:=h1.form;rw [h] at hu;simp at hu;rcases hu with rfl|rfl<;>rfl
 step:=fun ho hk ⟨tv,h,h1⟩=>⟨tv,h,h1.step' ho hk⟩
theorem o25:dV Tryz.prog 25 Tw (fun x=>(∀l∈x.2,Sq l)/\∀s∈x.1,s.size<=140737488351232):=by
 intro H enc w base spare held fuel cs x h hz;obtain ⟨hl,hf⟩:=dG underlying25 h hz;rw [show Tryz.prog.cellsOf 25=2 by kernel_rfl] at hl;obtain ⟨a,⟨iv,h1,ha⟩,z1⟩:=hf 0 _ rfl 1 (by kernel_rfl) O3;obtain ⟨b,⟨pv,h2,hb⟩,z2⟩:=hf 1 _ rfl 1 (by kernel_rfl) o23
 match cs,hl with
 | [c0,c1],_=>
   simp at h1 h2;subst h1 h2;exact ⟨⟨a,b⟩,⟨_,_,rfl,ha,hb⟩,z2.2,z1.2⟩
theorem o29:dV Tryz.prog 29 Tx (fun x=>x.1.size<=140737488351232/\(∀p∈x.2,ND p)/\x.2.length<=1466015503700):=by
 intro H enc w base spare held fuel cs x h hz;obtain ⟨hl,hf⟩:=dG underlying29 h hz;rw [show Tryz.prog.cellsOf 29=2 by kernel_rfl] at hl;obtain ⟨a,h1,z1⟩:=hf 0 _ rfl 1 (by kernel_rfl) o9;obtain ⟨b,⟨pv,h2,hb⟩,z2⟩:=hf 1 _ rfl 1 (by kernel_rfl) o27;have hby:Tryz.prog.bytesOf 122=96:=by kernel_rfl
 match cs,hl with
 | [c0,c1],_=>
   simp only [aD] at h1;simp at h1 h2;subst h1 h2;refine ⟨⟨a,b⟩,⟨_,rfl,hb⟩,z1,z2.2, ?_⟩;have:=z2.1;rw [hby] at this;have hr:reachBytes=140737488351232:=rfl;show b.length<=_;omega
structure In5 where
 ns:List Nd
 os:List Nd
 ig:List aa
 rq:List aa
 tr:aa × List Pk
def kIn:Kd In5 where
 sz:=6
 rep:=fun F w x cs=>∃dv ov gv qv tv,cs= [dv,ov,gv,qv, .string x.tr.1,tv]/\Rd Dp F w dv x.ns/\Rd Dp F w ov x.os/\bK F w gv x.ig/\bK F w qv x.rq/\Rd pU F w tv x.tr.2
 len:=fun ⟨_,_,_,_,_,h,_⟩=>by rw [h];rfl
 one:=fun ⟨dv,ov,gv,qv,tv,h,h1,h2,h3,h4,h5⟩ u hu=>by
  obtain ⟨A,c,rfl⟩:=h1.form;obtain ⟨A,c,rfl⟩:=h2.form;obtain ⟨A,c,rfl⟩:=h3.form;obtain ⟨A,c,rfl⟩:=h4.form;obtain ⟨A,c,rfl⟩:=h5.form;rw [h] at hu;simp at hu;rcases hu with rfl|rfl|rfl|rfl|rfl|rfl<;>rfl
 step:=fun ho hk ⟨dv,ov,gv,qv,tv,h,h1,h2,h3,h4,h5⟩=>⟨dv,ov,gv,qv,tv,h,h1.step' ho hk,h2.step' ho hk,h3.step' ho hk,h4.step' ho hk,h5.step' ho hk⟩
theorem o31:dV Tryz.prog 31 kIn (fun x=>((∀n∈x.ns,NG n)/\(∀n∈x.os,NG n))/\((∀s∈x.ig,s.size<=140737488351232)/\∀s∈x.rq,s.size<=140737488351232)/\x.tr.1.size<=140737488351232/\(∀p∈x.tr.2,ND p)/\x.tr.2.length<=1466015503700):=by
 intro H enc w base spare held fuel cs x h hz;obtain ⟨hl,hf⟩:=dG underlying31 h hz;rw [show Tryz.prog.cellsOf 31=6 by kernel_rfl] at hl;obtain ⟨a,⟨dv,h1,ha⟩,z1⟩:=hf 0 _ rfl 1 (by kernel_rfl) o26;obtain ⟨b,⟨ov,h2,hb⟩,z2⟩:=hf 1 _ rfl 1 (by kernel_rfl) o26;obtain ⟨c,⟨gv,h3,hc⟩,z3⟩:=hf 2 _ rfl 1 (by kernel_rfl) O3;obtain ⟨d,⟨qv,h4,hd⟩,z4⟩:=hf 3 _ rfl 1 (by kernel_rfl) O3;obtain ⟨e,⟨tv,h5,he⟩,z5⟩:=hf 4 _ rfl 2 (by kernel_rfl) o29
 match cs,hl with
 | [c0,c1,c2,c3,c4,c5],_=>
   simp at h1 h2 h3 h4 h5;obtain ⟨h5,h6⟩:=h5;subst h1 h2 h3 h4 h5 h6;exact ⟨⟨a,b,c,d,e⟩,⟨_,_,_,_,_,rfl,ha,hb,hc,hd,he⟩,⟨z1.2,z2.2⟩,⟨z3.2,z4.2⟩,z5⟩
theorem own:ownKnob Tryz.prog.godebug=none:=by kernel_rfl
theorem kids:Kids Tryz.prog (· <Tryz.prog.types.size):=kids_rows (by kernel_rfl) (by kernel_rfl)
theorem full:∀t e,t<Tryz.prog.types.size->Tryz.prog.underlying t=some (.slice e)->0<Tryz.prog.cellsOf e:=slices_full_of Tryz.prog (by kernel_rfl)
theorem tW {H:Type} {enc:TypeId × Value->H} {P:Program} {w w':World} {base:Nat} {spare:Nat->Bool} {held:Bool}:∀{ts:List TypeId} {vs:List Value} {ds:List (DataW H)} {ps:List MemPlace},DataW.TrodAll enc P w base spare held ts vs ds ps->(∀p∈ps,w.sameAt w' p)->DataW.TrodAll enc P w' base spare held ts vs ds ps
 | [], [], [],_,h,_=>h
 | _::_,_::_,_::_,_,⟨p,q,⟨n,h1⟩,h2,e⟩,hs=>⟨p,q,⟨n,DataW.trod_carry n _ _ _ h1 (fun x hx=>hs x (by rw [e];exact List.mem_append_left _ hx))⟩,tW h2 (fun x hx=>hs x (by rw [e];exact List.mem_append_right _ hx)),e⟩
 | [], [],_::_,_,h,_=>h.elim
 | [],_::_, [],_,h,_=>h.elim
 | [],_::_,_::_,_,h,_=>h.elim
 | _::_, [], [],_,h,_=>h.elim
 | _::_, [],_::_,_,h,_=>h.elim
 | _::_,_::_, [],_,h,_=>h.elim
theorem lifted (os:Os) (started:os.Started) (H:Type) (enc:TypeId × Value->H):
 ReturnsInHanded {} Tryz.checked os 3 .any (fun w args=>(Rows.fnLockSatisfiesSpec.pre enc Tryz.prog Tryz.f3 [] false w args/\laidMetH Tryz.prog Rows.fnLockSatisfiesRow.laid w)/\sizedMet enc Tryz.prog Tryz.f3 (OpenSpec.ofChange Rows.fnLockSatisfiesSpec) false w args)
  (Rows.fnLockSatisfiesSpec.post enc Tryz.prog Tryz.f3 false true false false):=by
 refine returnsInHanded_of_change_and (C:=Tryz.checked) (X:=fun w _=>laidMetH Tryz.prog Rows.fnLockSatisfiesRow.laid w) (fun _ _ _ hh h=>h.of_heap hh) own started (by kernel_rfl) func3
  (witness os H enc) ?_
 intro W base args ds gs before Ty hW _ Pn hL _;have hval:∀(j:Nat) t v,Tryz.f3.params[j]?=some t->args[j]?=some v->Value.okWide Tryz.prog W .any base t v:=Ty;have hsz:∀n∈DataW.weightsEach Tryz.prog (Tryz.f3.params.toList++Rows.fnLockSatisfiesSpec.plain.varTypes Tryz.prog) (ds++gs),n<=reachBytes:=fun n hn=>by simpa using List.all_eq_true.1 Pn n hn
 have hW':=hW;obtain ⟨p,q,Lc,hV,rfl,hfz,hnd⟩:=hW;have hA:DataW.TrodAll enc Tryz.prog W 0 (fun _=>true) true Tryz.f3.params.toList args.toList ds p:=Lc;rw [Tryz.params3] at hA hval;obtain ⟨v0,v1,v2,d0,d1,d2,p0,p1,p2,rfl,rfl,rfl,h0,h1,h2⟩:=trodAll_three hA;obtain ⟨rfl,rfl⟩:=trodVars_none hV;obtain ⟨nn,rfl,rfl,rfl⟩:=open_bool underlying4 (hval 1 4 v1 rfl rfl) h1;obtain ⟨c0,rfl,-⟩:=okWide_struct underlying25 (hval 0 25 v0 rfl rfl);obtain ⟨c2,rfl,-⟩:=okWide_struct underlying31 (hval 2 31 v2 rfl rfl);obtain ⟨f0,h0⟩:=h0;obtain ⟨f2,h2⟩:=h2;obtain ⟨⟨ins,ls⟩,⟨iv,pv,e0,r1,r2⟩,z0⟩:=o25 _ _ _ _ _ _ _ _ _ h0 (fun n hn=>hsz n (DataW.weights_mem_each (j:=0) (t:=25) (d:=d0) (by rw [Tryz.params3];rfl) rfl n hn));obtain ⟨⟨ns,os',ig,rq,root,pks⟩,⟨dv,ov,gv,qv,tv,e2,s1,s2,s3,s4,s5⟩,z2⟩:=o31 _ _ _ _ _ _ _ _ _ h2 (fun n hn=>hsz n (DataW.weights_mem_each (j:=2) (t:=31) (d:=d2) (by rw [Tryz.params3];rfl) rfl n hn))
 have e0':c0= #[iv,pv]:=by
  obtain ⟨l⟩:=c0;simpa [Value.cells] using e0
 have e2':c2= #[dv,ov,gv,qv, .string root,tv]:=by
  obtain ⟨l⟩:=c2;simpa [Value.cells] using e2
 subst e0' e2';have hc:=f3 nn root iv pv dv ov gv qv tv ls ns os' ig rq ins pks W ⟨r1,r2,s1,s2,s3,s4,s5,Tv hL⟩ ⟨z2.2.2.2.2,z0.1,z0.2,z2.2.2.2.1,z2.2.2.1,z2.2.1.1,z2.2.1.2,z2.1.1,z2.1.2⟩;refine hc.mono fun e W' ⟨he,hb⟩=> ?_
 subst he;simp only [List.append_nil] at hW';have hlt:∀x∈p0++([]++p2),x.block<W.heap.size:=fun x hx=>hW'.lt x (by simpa using hx)
 have hold:DataW.TrodAll enc Tryz.prog W' 0 (fun b=>decide (b<W.heap.size)) true Tryz.f3.params.toList [.agg #[iv,pv], .bool nn, .agg #[dv,ov,gv,qv, .string root,tv]] [d0, .lit (.bool nn),d2] _:=
  tW (DataW.TrodAll.respare kids full (by rw [Tryz.params3];decide) Lc (fun x hx=>by simpa using hW'.lt x (by simpa using hx))) (fun x hx=>hb.same (hW'.lt x (by simpa using hx)))
 exact ⟨_,rfl,_,_,_, [],_, [],hW',trodAll_mk1 (shut_bool underlying4 _),hold,rfl,hb.frame _,fun h=>by cases h⟩
theorem kj:Rows.FnLockSatisfiesSaid:=
 OpenClaim.holds_of_wide 3 Tryz.f3 rfl rfl rfl rfl rfl rfl rfl ⟨rfl,rfl,rfl,rfl,rfl⟩ rfl rfl rfl rfl rfl (by kernel_rfl) func3 JF.closed
  (of_decide_eq_true (by kernel_rfl)) (by unfold Func.isWrapper;first|(rw [if_pos (by decide+kernel)];kernel_rfl)|(rw [if_neg (by decide+kernel)];exact ⟨rfl,rfl⟩))
  (fun os started H enc _=>lifted os started H enc)
theorem card_holds:Rows.FnLockSatisfiesCardSaid:=
 Claim7.holds_tied_plain_at .later [] [.data, .data, .data, .data, .sentinel, .sentinel, .pinned, .pinned, .pinned, .pinned, .pinned, .pinned] true (true, "b1b81aee08aaf2ffdedbb09537d6e6b29f0bfbe80c9226d7a505efeda340c5c3") true
  kj (fun _ h=>by cases h) (by kernel_rfl) (fun _ h=>by cases h) fnLockSatisfies_row_tie rfl ⟨rfl,rfl⟩ (by kernel_rfl) rfl
  (fun f fn hf hfn=>by
   obtain rfl:f=3:=Option.some.inj ((show Tryz.prog.funcNamed "pub-caravanserai/laws.FnLockSatisfies"=some 3 by kernel_rfl).symm.trans hf)|>.symm;obtain rfl:fn=Tryz.f3:=(Option.some.inj (func3.symm.trans hfn)).symm
   exact ⟨by kernel_rfl,fun j t ht=>by
    rw [Tryz.params3] at ht;have hm:t∈ [25,4,31]:=by simpa using Array.mem_of_getElem? ht
    have hall:([25,4,31].all fun u=> !Tryz.prog.wantsStandIn u)=true:=by kernel_rfl
    exact (show Tryz.prog.wantsStandIn t=false by simpa using List.all_eq_true.1 hall t hm)⟩)
  (by kernel_rfl)
#print axioms card_holds
end
end Go.Proofs.YtjenhelmpcajfaaGreatDoor
