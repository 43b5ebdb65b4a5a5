/-
  The closed facts of the row, one theorem a fact: in one declaration they outgrow the kernel's memory under the lid.
-/
import Derived.Test.Qxb6601608aRows
import Derived.JoinedOf
import Derived.KernelRfl
namespace Go.Proofs.Qxb6601608a
open Go

theorem and_both {a b : Bool} (ha : a = true) (hb : b = true) : (a && b) = true := by rw [ha, hb]; rfl

theorem fact1 : (Rows.fnScanOfTextAdvancesToItsEndRow.wf (OpenSpec.ofChange Rows.fnScanOfTextAdvancesToItsEndSpec) : Bool) = true := by kernel_rfl
theorem fact2 : (laidOutB Try.prog : Bool) = true := by kernel_rfl
theorem fact3 : (mapsRowed Try.prog : Bool) = true := by kernel_rfl
theorem fact4 : (Try.f10.params.all (Try.prog.readableRec ·) : Bool) = true := by kernel_rfl
theorem fact5 : (namedTie Try.prog Rows.fnScanOfTextAdvancesToItsEndRow.named Rows.fnScanOfTextAdvancesToItsEndSpec.vars : Bool) = true := by kernel_rfl
theorem fact6 : ((Rows.fnScanOfTextAdvancesToItsEndRow.stops == []) : Bool) = true := by kernel_rfl
theorem fact7 : ((Try.prog.stops == []) : Bool) = true := by kernel_rfl
theorem fact8 : ((Rows.fnScanOfTextAdvancesToItsEndRow.knobs == []) : Bool) = true := by kernel_rfl
theorem fact9 : ((Try.prog.stopKnobs == []) : Bool) = true := by kernel_rfl
theorem fact10 : ((Rows.fnScanOfTextAdvancesToItsEndRow.inPlace == Try.prog.inPlace 10) : Bool) = true := by kernel_rfl
theorem fact11 : ((Rows.fnScanOfTextAdvancesToItsEndRow.unfollowed == Try.prog.unfollowed 10) : Bool) = true := by kernel_rfl
theorem fact12 : ((Rows.fnScanOfTextAdvancesToItsEndRow.recurses == Try.prog.recurses 10) : Bool) = true := by kernel_rfl
theorem fact13 : ((Rows.fnScanOfTextAdvancesToItsEndRow.named == Try.prog.varsNamed 10) : Bool) = true := by kernel_rfl
theorem fact14 : ((Rows.fnScanOfTextAdvancesToItsEndRow.maps == (Try.f10.params.toList ++ Rows.fnScanOfTextAdvancesToItsEndSpec.plain.varTypes Try.prog).any (Try.prog.mapsRec ·)) : Bool) = true := by kernel_rfl
theorem fact15 : ((Rows.fnScanOfTextAdvancesToItsEndRow.ifaces == (Try.f10.params.toList ++ Rows.fnScanOfTextAdvancesToItsEndSpec.plain.varTypes Try.prog).any (Try.prog.ifacesRec ·)) : Bool) = true := by kernel_rfl
theorem fact16 : ((Rows.fnScanOfTextAdvancesToItsEndRow.mapsOut == Try.prog.mapsAmong Try.f10.resultTypes.toList) : Bool) = true := by kernel_rfl
theorem fact17 : ((Rows.fnScanOfTextAdvancesToItsEndRow.loops == (Try.f10.params.toList ++ Rows.fnScanOfTextAdvancesToItsEndSpec.plain.varTypes Try.prog).any (Try.prog.loopsFrom ·)) : Bool) = true := by kernel_rfl
theorem fact18 : ((Rows.fnScanOfTextAdvancesToItsEndRow.wideKeys == (Try.f10.params.toList ++ Rows.fnScanOfTextAdvancesToItsEndSpec.plain.varTypes Try.prog ++ Try.f10.resultTypes.toList).any (Try.prog.wideKeysFrom ·)) : Bool) = true := by kernel_rfl
theorem fact19 : (Rows.fnScanOfTextAdvancesToItsEndSpec.vars.all (Try.prog.varReadable ·) : Bool) = true := by kernel_rfl
theorem fact20 : (Try.f10.resultTypes.all (fun t => Try.prog.readableRec t && decide (t < Try.prog.types.size)) : Bool) = true := by kernel_rfl
theorem fact21 : ((Rows.fnScanOfTextAdvancesToItsEndRow.ifacesOut == Try.f10.resultTypes.toList.any (Try.prog.ifacesRec ·)) : Bool) = true := by kernel_rfl
theorem fact22 : ((Rows.fnScanOfTextAdvancesToItsEndRow.loopsOut == Try.f10.resultTypes.toList.any (Try.prog.loopsFrom ·)) : Bool) = true := by kernel_rfl
theorem fact23 : ((Rows.fnScanOfTextAdvancesToItsEndRow.plainKeys == Try.prog.plainKeys) : Bool) = true := by kernel_rfl
theorem fact24 : (Rows.fnScanOfTextAdvancesToItsEndRow.shortTexts.isNone : Bool) = true := by kernel_rfl
theorem fact25 : (Try.prog.stopsHeard : Bool) = true := by kernel_rfl
theorem fact26 : (Try.prog.mayEnter : Bool) = true := by kernel_rfl
theorem fact27 : ((Rows.fnScanOfTextAdvancesToItsEndRow.lifted == Try.prog.liftsFinal) : Bool) = true := by kernel_rfl
theorem fact28 : ((Try.prog.make == some Rows.fnScanOfTextAdvancesToItsEndRow.make) : Bool) = true := by kernel_rfl
theorem fact29 : ((Rows.fnScanOfTextAdvancesToItsEndRow.kinds == (if Rows.fnScanOfTextAdvancesToItsEndRow.domain.isEmpty then [] else Try.f10.params.toList.map fun t => match Try.prog.underlying t with | some (.int k) => some k | _ => none)) : Bool) = true := by kernel_rfl
theorem fact30 : ((Rows.fnScanOfTextAdvancesToItsEndRow.pinned == Rows.fnScanOfTextAdvancesToItsEndRow.pinnedBy) : Bool) = true := by kernel_rfl
theorem fact31 : ((Rows.fnScanOfTextAdvancesToItsEndRow.veiled == (Try.f10.params.toList ++ Rows.fnScanOfTextAdvancesToItsEndSpec.plain.varTypes Try.prog ++ Try.f10.resultTypes.toList).any (Try.prog.veiledRec ·)) : Bool) = true := by kernel_rfl
theorem fact32 : (Rows.fnScanOfTextAdvancesToItsEndRow.veiledFits Try.prog Try.f10.params.toList (Try.f10.params.toList ++ Rows.fnScanOfTextAdvancesToItsEndSpec.plain.varTypes Try.prog ++ Try.f10.resultTypes.toList) : Bool) = true := by kernel_rfl
theorem closed : joinedFacts Try.prog 10 Try.f10 Rows.fnScanOfTextAdvancesToItsEndSpec Rows.fnScanOfTextAdvancesToItsEndRow = true := by
  unfold joinedFacts
  exact (and_both (and_both (and_both (and_both (and_both (and_both (and_both (and_both (and_both (and_both (and_both (and_both (and_both (and_both (and_both (and_both (and_both (and_both (and_both (and_both (and_both (and_both (and_both (and_both (and_both (and_both (and_both (and_both (and_both (and_both (and_both fact1 fact2) fact3) fact4) fact5) fact6) fact7) fact8) fact9) fact10) fact11) fact12) fact13) fact14) fact15) fact16) fact17) fact18) fact19) fact20) fact21) fact22) fact23) fact24) fact25) fact26) fact27) fact28) fact29) fact30) fact31) fact32)

end Go.Proofs.Qxb6601608a
