/-
  THE ROW's CLOSED FACTS, one theorem a fact: together in one declaration they outgrow the memory lid.
-/
import Derived.Test.Qxb6601477aRows
import Derived.WalkKit
import Derived.ProofKit
namespace Go.Proofs.Qxb6601477a.fnReachesIffMeetIsWant
open Go.ChangeShapes Go.WideShapes Go.ChangeAt Go.RowKit
theorem and2 {a b : Bool} (ha : a = true) (hb : b = true) : (a && b) = true := by rw [ha, hb]; rfl
theorem fact0 : (Rows.fnReachesIffMeetIsWantRow.wf (OpenSpec.ofChange Rows.fnReachesIffMeetIsWantSpec)) = true := by kernel_rfl
theorem fact1 : (laidOutB Try.pinned.checked.prog) = true := by kernel_rfl
theorem fact2 : (mapsRowed Try.pinned.checked.prog) = true := by kernel_rfl
theorem fact3 : (Try.f5.params.all (Try.pinned.checked.prog.readableRec ·)) = true := by kernel_rfl
theorem fact4 : (namedTie Try.pinned.checked.prog Rows.fnReachesIffMeetIsWantRow.named Rows.fnReachesIffMeetIsWantSpec.vars) = true := by kernel_rfl
theorem fact5 : ((Rows.fnReachesIffMeetIsWantRow.stops == [])) = true := by kernel_rfl
theorem fact6 : ((Try.pinned.checked.prog.stops == [])) = true := by kernel_rfl
theorem fact7 : ((Rows.fnReachesIffMeetIsWantRow.knobs == [])) = true := by kernel_rfl
theorem fact8 : ((Try.pinned.checked.prog.stopKnobs == [])) = true := by kernel_rfl
theorem fact9 : ((Rows.fnReachesIffMeetIsWantRow.inPlace == Try.pinned.checked.prog.inPlace 5)) = true := by kernel_rfl
theorem fact10 : ((Rows.fnReachesIffMeetIsWantRow.unfollowed == Try.pinned.checked.prog.unfollowed 5)) = true := by kernel_rfl
theorem fact11 : ((Rows.fnReachesIffMeetIsWantRow.recurses == Try.pinned.checked.prog.recurses 5)) = true := by kernel_rfl
theorem fact12 : ((Rows.fnReachesIffMeetIsWantRow.named == Try.pinned.checked.prog.varsNamed 5)) = true := by kernel_rfl
theorem fact13 : ((Rows.fnReachesIffMeetIsWantRow.maps == (Try.f5.params.toList ++ Rows.fnReachesIffMeetIsWantSpec.plain.varTypes Try.pinned.checked.prog).any (Try.pinned.checked.prog.mapsRec ·))) = true := by kernel_rfl
theorem fact14 : ((Rows.fnReachesIffMeetIsWantRow.ifaces == (Try.f5.params.toList ++ Rows.fnReachesIffMeetIsWantSpec.plain.varTypes Try.pinned.checked.prog).any (Try.pinned.checked.prog.ifacesRec ·))) = true := by kernel_rfl
theorem fact15 : ((Rows.fnReachesIffMeetIsWantRow.mapsOut == Try.pinned.checked.prog.mapsAmong Try.f5.resultTypes.toList)) = true := by kernel_rfl
theorem fact16 : ((Rows.fnReachesIffMeetIsWantRow.loops == (Try.f5.params.toList ++ Rows.fnReachesIffMeetIsWantSpec.plain.varTypes Try.pinned.checked.prog).any (Try.pinned.checked.prog.loopsFrom ·))) = true := by kernel_rfl
theorem fact17 : ((Rows.fnReachesIffMeetIsWantRow.wideKeys == (Try.f5.params.toList ++ Rows.fnReachesIffMeetIsWantSpec.plain.varTypes Try.pinned.checked.prog ++ Try.f5.resultTypes.toList).any (Try.pinned.checked.prog.wideKeysFrom ·))) = true := by kernel_rfl
theorem fact18 : (Rows.fnReachesIffMeetIsWantSpec.vars.all (Try.pinned.checked.prog.varReadable ·)) = true := by kernel_rfl
theorem fact19 : (Try.f5.resultTypes.all (fun t => Try.pinned.checked.prog.readableRec t && decide (t < Try.pinned.checked.prog.types.size))) = true := by kernel_rfl
theorem fact20 : ((Rows.fnReachesIffMeetIsWantRow.ifacesOut == Try.f5.resultTypes.toList.any (Try.pinned.checked.prog.ifacesRec ·))) = true := by kernel_rfl
theorem fact21 : ((Rows.fnReachesIffMeetIsWantRow.loopsOut == Try.f5.resultTypes.toList.any (Try.pinned.checked.prog.loopsFrom ·))) = true := by kernel_rfl
theorem fact22 : ((Rows.fnReachesIffMeetIsWantRow.plainKeys == Try.pinned.checked.prog.plainKeys)) = true := by kernel_rfl
theorem fact23 : (Rows.fnReachesIffMeetIsWantRow.shortTexts.isNone) = true := by kernel_rfl
theorem fact24 : (Try.pinned.checked.prog.stopsHeard) = true := by kernel_rfl
theorem fact25 : (Try.pinned.checked.prog.mayEnter) = true := by kernel_rfl
theorem fact26 : ((Rows.fnReachesIffMeetIsWantRow.lifted == Try.pinned.checked.prog.liftsFinal)) = true := by kernel_rfl
theorem fact27 : ((Try.pinned.checked.prog.make == some Rows.fnReachesIffMeetIsWantRow.make)) = true := by kernel_rfl
theorem fact28 : ((Rows.fnReachesIffMeetIsWantRow.kinds == (if Rows.fnReachesIffMeetIsWantRow.domain.isEmpty then [] else Try.f5.params.toList.map fun t => match Try.pinned.checked.prog.underlying t with | some (.int k) => some k | _ => none))) = true := by kernel_rfl
theorem fact29 : ((Rows.fnReachesIffMeetIsWantRow.pinned == Rows.fnReachesIffMeetIsWantRow.pinnedBy)) = true := by kernel_rfl
theorem fact30 : ((Rows.fnReachesIffMeetIsWantRow.veiled == (Try.f5.params.toList ++ Rows.fnReachesIffMeetIsWantSpec.plain.varTypes Try.pinned.checked.prog ++ Try.f5.resultTypes.toList).any (Try.pinned.checked.prog.veiledRec ·))) = true := by kernel_rfl
theorem fact31 : (Rows.fnReachesIffMeetIsWantRow.veiledFits Try.pinned.checked.prog Try.f5.params.toList (Try.f5.params.toList ++ Rows.fnReachesIffMeetIsWantSpec.plain.varTypes Try.pinned.checked.prog ++ Try.f5.resultTypes.toList)) = true := by kernel_rfl
theorem closed : joinedFacts Try.pinned.checked.prog 5 Try.f5 Rows.fnReachesIffMeetIsWantSpec Rows.fnReachesIffMeetIsWantRow = true := by
  unfold joinedFacts
  exact (and2 (and2 (and2 (and2 (and2 (and2 (and2 (and2 (and2 (and2 (and2 (and2 (and2 (and2 (and2 (and2 (and2 (and2 (and2 (and2 (and2 (and2 (and2 (and2 (and2 (and2 (and2 (and2 (and2 (and2 (and2 fact0 fact1) fact2) fact3) fact4) fact5) fact6) fact7) fact8) fact9) fact10) fact11) fact12) fact13) fact14) fact15) fact16) fact17) fact18) fact19) fact20) fact21) fact22) fact23) fact24) fact25) fact26) fact27) fact28) fact29) fact30) fact31)
theorem named : Try.pinned.checked.prog.funcNamed Rows.fnReachesIffMeetIsWantRow.func = some 5 := by kernel_rfl
theorem inst : Try.f5.isInstance Try.pinned.checked.prog Rows.fnReachesIffMeetIsWantRow.origin Rows.fnReachesIffMeetIsWantRow.targs := of_decide_eq_true (by kernel_rfl)
theorem wrap : Try.f5.isWrapper Try.pinned.checked.prog Rows.fnReachesIffMeetIsWantRow.wrapper Rows.fnReachesIffMeetIsWantRow.mainSum := by
  unfold Func.isWrapper; first | (rw [if_pos (by decide +kernel)]; kernel_rfl) | (rw [if_neg (by decide +kernel)]; exact ⟨rfl, rfl⟩)
end Go.Proofs.Qxb6601477a.fnReachesIffMeetIsWant
