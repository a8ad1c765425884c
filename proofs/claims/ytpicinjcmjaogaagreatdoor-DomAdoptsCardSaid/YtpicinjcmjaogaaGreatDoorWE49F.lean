import Derived.Test.YtpicinjcmjaogaaGreatDoorRows
import Derived.ProofKit
namespace Go.Proofs.YtpicinjcmjaogaaGreatDoor
open Go.ChangeShapes Go.WideShapes Go.ChangeAt Go.RowKit
noncomputable abbrev zP:=Tryz.pinned.checked.prog
noncomputable abbrev zS:=Rows.domAdoptsSpec
noncomputable abbrev zC:=Rows.domAdoptsRow
noncomputable abbrev zF:=Tryz.f3
theorem both{a b:Bool}(h:a=true)(k:b=true):(a&&b)=true:=by rw[h,k];rfl
theorem z0:(zC.wf (OpenSpec.ofChange zS))=true:=by kernel_rfl
theorem z1:(laidOutB zP)=true:=by kernel_rfl
theorem z2:(mapsRowed zP)=true:=by kernel_rfl
theorem z3:(zF.params.all (zP.readableRec ·))=true:=by kernel_rfl
theorem z4:(namedTie zP zC.named zS.vars)=true:=by kernel_rfl
theorem z5:((zC.stops==[]))=true:=by kernel_rfl
theorem z6:((zP.stops==[]))=true:=by kernel_rfl
theorem z7:((zC.knobs==[]))=true:=by kernel_rfl
theorem z8:((zP.stopKnobs==[]))=true:=by kernel_rfl
theorem z9:((zC.inPlace==zP.inPlace 3))=true:=by kernel_rfl
theorem z10:((zC.unfollowed==zP.unfollowed 3))=true:=by kernel_rfl
theorem z11:((zC.recurses==zP.recurses 3))=true:=by kernel_rfl
theorem z12:((zC.named==zP.varsNamed 3))=true:=by kernel_rfl
theorem z13:((zC.maps==(zF.params.toList++zS.plain.varTypes zP).any (zP.mapsRec ·)))=true:=by kernel_rfl
theorem z14:((zC.ifaces==(zF.params.toList++zS.plain.varTypes zP).any (zP.ifacesRec ·)))=true:=by kernel_rfl
theorem z15:((zC.mapsOut==zP.mapsAmong zF.resultTypes.toList))=true:=by kernel_rfl
theorem z16:((zC.loops==(zF.params.toList++zS.plain.varTypes zP).any (zP.loopsFrom ·)))=true:=by kernel_rfl
theorem z17:((zC.wideKeys==(zF.params.toList++zS.plain.varTypes zP++zF.resultTypes.toList).any (zP.wideKeysFrom ·)))=true:=by kernel_rfl
theorem z18:(zS.vars.all (zP.varReadable ·))=true:=by kernel_rfl
theorem z19:(zF.resultTypes.all (fun t => zP.readableRec t && decide (t < zP.types.size)))=true:=by kernel_rfl
theorem z20:((zC.ifacesOut==zF.resultTypes.toList.any (zP.ifacesRec ·)))=true:=by kernel_rfl
theorem z21:((zC.loopsOut==zF.resultTypes.toList.any (zP.loopsFrom ·)))=true:=by kernel_rfl
theorem z22:((zC.plainKeys==zP.plainKeys))=true:=by kernel_rfl
theorem z23:(zC.shortTexts.isNone)=true:=by kernel_rfl
theorem z24:(zP.stopsHeard)=true:=by kernel_rfl
theorem z25:(zP.mayEnter)=true:=by kernel_rfl
theorem z26:((zC.lifted==zP.liftsFinal))=true:=by kernel_rfl
theorem z27:((zP.make==some zC.make))=true:=by kernel_rfl
theorem z28:((zC.kinds==(if zC.domain.isEmpty then [] else zF.params.toList.map fun t => match zP.underlying t with | some (.int k) => some k | _ => none)))=true:=by kernel_rfl
theorem z29:((zC.pinned==zC.pinnedBy))=true:=by kernel_rfl
theorem z30:((zC.veiled==(zF.params.toList++zS.plain.varTypes zP++zF.resultTypes.toList).any (zP.veiledRec ·)))=true:=by kernel_rfl
theorem z31:(zC.veiledFits zP zF.params.toList (zF.params.toList++zS.plain.varTypes zP++zF.resultTypes.toList))=true:=by kernel_rfl
set_option maxRecDepth 100000 in
theorem domAdopts_facts:joinedFacts Tryz.pinned.checked.prog 3 Tryz.f3 Rows.domAdoptsSpec Rows.domAdoptsRow=true:=by
 unfold joinedFacts
 exact both (both (both (both (both (both (both (both (both (both (both (both (both (both (both (both (both (both (both (both (both (both (both (both (both (both (both (both (both (both (both z0 z1) z2) z3) z4) z5) z6) z7) z8) z9) z10) z11) z12) z13) z14) z15) z16) z17) z18) z19) z20) z21) z22) z23) z24) z25) z26) z27) z28) z29) z30) z31
end Go.Proofs.YtpicinjcmjaogaaGreatDoor
