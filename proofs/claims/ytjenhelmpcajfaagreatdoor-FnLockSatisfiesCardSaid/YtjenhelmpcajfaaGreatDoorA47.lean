/- the row's closed facts -/
import Derived.Test.YtjenhelmpcajfaaGreatDoorRows
import Derived.ProofKit
import Derived.Stop.Joined
import Derived.Lay
import Derived.LaidOnce
set_option linter.all false
set_option maxRecDepth 1000000
namespace Go.Proofs.YtjenhelmpcajfaaGreatDoor
namespace JF
theorem j0:(Rows.fnLockSatisfiesRow.wf (OpenSpec.ofChange Rows.fnLockSatisfiesSpec))=true:=by kernel_rfl
theorem j1:(laidOutB Tryz.prog)=true:=by kernel_rfl
theorem j2:(mapsRowed Tryz.prog)=true:=by kernel_rfl
theorem j3:(Tryz.f3.params.all (Tryz.prog.readableRec ·))=true:=by kernel_rfl
theorem j4:(namedTie Tryz.prog Rows.fnLockSatisfiesRow.named Rows.fnLockSatisfiesSpec.vars)=true:=by kernel_rfl
theorem j5:((Rows.fnLockSatisfiesRow.stops== []))=true:=by kernel_rfl
theorem j6:((Tryz.prog.stops== []))=true:=by kernel_rfl
theorem j7:((Rows.fnLockSatisfiesRow.knobs== []))=true:=by kernel_rfl
theorem j8:((Tryz.prog.stopKnobs== []))=true:=by kernel_rfl
theorem j9:((Rows.fnLockSatisfiesRow.inPlace==Tryz.prog.inPlace 3))=true:=by kernel_rfl
theorem j10:((Rows.fnLockSatisfiesRow.unfollowed==Tryz.prog.unfollowed 3))=true:=by kernel_rfl
theorem j11:((Rows.fnLockSatisfiesRow.recurses==Tryz.prog.recurses 3))=true:=by kernel_rfl
theorem j12:((Rows.fnLockSatisfiesRow.named==Tryz.prog.varsNamed 3))=true:=by kernel_rfl
theorem j13:((Rows.fnLockSatisfiesRow.maps==(Tryz.f3.params.toList++Rows.fnLockSatisfiesSpec.plain.varTypes Tryz.prog).any (Tryz.prog.mapsRec ·)))=true:=by kernel_rfl
theorem j14:((Rows.fnLockSatisfiesRow.ifaces==(Tryz.f3.params.toList++Rows.fnLockSatisfiesSpec.plain.varTypes Tryz.prog).any (Tryz.prog.ifacesRec ·)))=true:=by kernel_rfl
theorem j15:((Rows.fnLockSatisfiesRow.mapsOut==Tryz.prog.mapsAmong Tryz.f3.resultTypes.toList))=true:=by kernel_rfl
theorem j16:((Rows.fnLockSatisfiesRow.loops==(Tryz.f3.params.toList++Rows.fnLockSatisfiesSpec.plain.varTypes Tryz.prog).any (Tryz.prog.loopsFrom ·)))=true:=by kernel_rfl
theorem j17:((Rows.fnLockSatisfiesRow.wideKeys==(Tryz.f3.params.toList++Rows.fnLockSatisfiesSpec.plain.varTypes Tryz.prog++Tryz.f3.resultTypes.toList).any (Tryz.prog.wideKeysFrom ·)))=true:=by kernel_rfl
theorem j18:(Rows.fnLockSatisfiesSpec.vars.all (Tryz.prog.varReadable ·))=true:=by kernel_rfl
theorem j19:(Tryz.f3.resultTypes.all (fun t=>Tryz.prog.readableRec t && decide (t<Tryz.prog.types.size)))=true:=by kernel_rfl
theorem j20:((Rows.fnLockSatisfiesRow.ifacesOut==Tryz.f3.resultTypes.toList.any (Tryz.prog.ifacesRec ·)))=true:=by kernel_rfl
theorem j21:((Rows.fnLockSatisfiesRow.loopsOut==Tryz.f3.resultTypes.toList.any (Tryz.prog.loopsFrom ·)))=true:=by kernel_rfl
theorem j22:((Rows.fnLockSatisfiesRow.plainKeys==Tryz.prog.plainKeys))=true:=by kernel_rfl
theorem j23:(Rows.fnLockSatisfiesRow.shortTexts.isNone)=true:=by kernel_rfl
theorem j24:(Tryz.prog.stopsHeard)=true:=by kernel_rfl
theorem j25:(Tryz.prog.mayEnter)=true:=by kernel_rfl
theorem j26:((Rows.fnLockSatisfiesRow.lifted==Tryz.prog.liftsFinal))=true:=by kernel_rfl
theorem j27:((Tryz.prog.make==some Rows.fnLockSatisfiesRow.make))=true:=by kernel_rfl
theorem j28:((Rows.fnLockSatisfiesRow.kinds==(if Rows.fnLockSatisfiesRow.domain.isEmpty then [] else Tryz.f3.params.toList.map fun t=>match Tryz.prog.underlying t with|some (.int k)=>some k|_=>none)))=true:=by kernel_rfl
theorem j29:((Rows.fnLockSatisfiesRow.pinned==Rows.fnLockSatisfiesRow.pinnedBy))=true:=by kernel_rfl
theorem j30:((Rows.fnLockSatisfiesRow.veiled==(Tryz.f3.params.toList++Rows.fnLockSatisfiesSpec.plain.varTypes Tryz.prog++Tryz.f3.resultTypes.toList).any (Tryz.prog.veiledRec ·)))=true:=by kernel_rfl
theorem j31:(Rows.fnLockSatisfiesRow.veiledFits Tryz.prog Tryz.f3.params.toList (Tryz.f3.params.toList++Rows.fnLockSatisfiesSpec.plain.varTypes Tryz.prog++Tryz.f3.resultTypes.toList))=true:=by kernel_rfl
end JF
open Go.RowKit
section
open Go.ChangeAt Go.ChangeShapes Go.WideShapes
theorem witness (os:Os) (H:Type) (enc:TypeId × Value->H):∃(w:World) (tape:Tape) (i:Input),w.os=os/\(w.forCall tape i).Shaped Tryz.checked.prog/\i.vars= []/\Input.okWide Tryz.checked.prog (w.forCall tape i) .any w.heap.size 3 i/\
 ((Rows.fnLockSatisfiesSpec.pre enc Tryz.checked.prog Tryz.f3 [] false (w.forCall tape i).memory i.args/\laidMetH Tryz.prog Rows.fnLockSatisfiesRow.laid (w.forCall tape i).memory)/\sizedMet enc Tryz.checked.prog Tryz.f3 (OpenSpec.ofChange Rows.fnLockSatisfiesSpec) false (w.forCall tape i).memory i.args)/\({}:Assume).holds Tryz.checked.prog (lone (Frame.enter Tryz.checked.prog 3 i.args .normal) [] (w.forCall tape i)):=
 ChangeSpec.witness_shaped (enc:=enc) (C:=Tryz.checked) (os:=os) (X:=fun w _=>laidMetH Tryz.prog Rows.fnLockSatisfiesRow.laid w) false (World.laidAll Tryz.prog os Rows.fnLockSatisfiesRow.laid) #[.agg #[.slice none 0 0, .slice none 0 0], .bool false, .agg #[.slice none 0 0, .slice none 0 0, .slice none 0 0, .slice none 0 0, .string ⟨#[]⟩, .slice none 0 0]] 8 (World.laidAll_os _ _ _)
  (World.shaped_of_ZipB (by kernel_rfl) (by kernel_rfl)) (by kernel_rfl) (by kernel_rfl) (by kernel_rfl)
  (by rw [MakeChecks.laidMetH_plain _ _ _ (by kernel_rfl)];exact laidMet_laidAll _ (by kernel_rfl) (by kernel_rfl))
end
namespace JF
theorem a2 {a b:Bool} (h:a=true) (k:b=true):(a && b)=true:=by rw [h,k];rfl
theorem closed:joinedFacts Tryz.prog 3 Tryz.f3 Rows.fnLockSatisfiesSpec Rows.fnLockSatisfiesRow=true:=by
 unfold joinedFacts;exact a2 (a2 (a2 (a2 (a2 (a2 (a2 (a2 (a2 (a2 (a2 (a2 (a2 (a2 (a2 (a2 (a2 (a2 (a2 (a2 (a2 (a2 (a2 (a2 (a2 (a2 (a2 (a2 (a2 (a2 (a2 j0 j1) j2) j3) j4) j5) j6) j7) j8) j9) j10) j11) j12) j13) j14) j15) j16) j17) j18) j19) j20) j21) j22) j23) j24) j25) j26) j27) j28) j29) j30) j31
end JF
end Go.Proofs.YtjenhelmpcajfaaGreatDoor
