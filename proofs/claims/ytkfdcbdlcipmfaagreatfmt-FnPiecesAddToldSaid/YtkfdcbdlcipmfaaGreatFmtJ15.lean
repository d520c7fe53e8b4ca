/- The statement on FnPiecesAdd: for every input the call returns true and its arguments read behind it as before; the listed package-level variables hold what the program's text lays (tied), and fmt's text is told. No other condition. -/
import Derived.Test.YtkfdcbdlcipmfaaGreatFmtG48
set_option linter.unusedVariables false
set_option linter.unusedSimpArgs false
namespace Go.Proofs.YtkfdcbdlcipmfaaGreatFmt
theorem pieces_stops : Tryz.pinned.checked.prog.stops = ["fmt.Sprintf"] := by kernel_rfl
theorem pieces_knobs : Tryz.pinned.checked.prog.stopKnobs = [] := by kernel_rfl
theorem pieces_quiet (os : Os) : Stop.quiet Tryz.pinned.checked.prog os := by
  intro k hk
  rw [pieces_knobs] at hk
  cases hk
set_option maxRecDepth 1000000 in
theorem pieces_hw : Rows.fnPiecesAddRow.wfByText (OpenSpec.ofChange Rows.fnPiecesAddSpec) = true := by kernel_rfl
set_option maxRecDepth 1000000 in
theorem pieces_hmr : mapsRowed Tryz.pinned.checked.prog = true := by kernel_rfl
set_option maxRecDepth 1000000 in
theorem pieces_htie : namedTie Tryz.pinned.checked.prog Rows.fnPiecesAddRow.namedList (OpenSpec.ofChange Rows.fnPiecesAddSpec).vars = true := by kernel_rfl
set_option maxRecDepth 1000000 in
theorem pieces_hfn : Tryz.pinned.checked.prog.funcNamed Rows.fnPiecesAddRow.func = some 9 := by kernel_rfl
set_option maxRecDepth 1000000 in
theorem pieces_hr : (Tryz.f9.params.toList.all fun t => Tryz.pinned.checked.prog.readableRec t) = true := by kernel_rfl
set_option maxRecDepth 1000000 in
theorem pieces_hinst : Tryz.f9.isInstance Tryz.pinned.checked.prog Rows.fnPiecesAddRow.origin Rows.fnPiecesAddRow.targs := of_decide_eq_true (by kernel_rfl)
set_option maxRecDepth 1000000 in
theorem pieces_hwrap : Tryz.f9.isWrapper Tryz.pinned.checked.prog Rows.fnPiecesAddRow.wrapper Rows.fnPiecesAddRow.mainSum := of_decide_eq_true (by kernel_rfl)
set_option maxRecDepth 1000000 in
theorem pieces_hword : Tryz.pinned.checked.prog.envWorded = true := by kernel_rfl
set_option maxRecDepth 1000000 in
theorem pieces_hin : Rows.fnPiecesAddRow.inPlace = Tryz.pinned.checked.prog.inPlace 9 := by kernel_rfl
set_option maxRecDepth 1000000 in
theorem pieces_hop : Rows.fnPiecesAddRow.unfollowed = Tryz.pinned.checked.prog.unfollowed 9 := by kernel_rfl
set_option maxRecDepth 1000000 in
theorem pieces_hrc : Rows.fnPiecesAddRow.recurses = Tryz.pinned.checked.prog.recurses 9 := by kernel_rfl
set_option maxRecDepth 1000000 in
theorem pieces_hvs : Rows.fnPiecesAddRow.named = Tryz.pinned.checked.prog.varsNamed 9 := by kernel_rfl
set_option maxRecDepth 1000000 in
theorem pieces_hmp : Rows.fnPiecesAddRow.maps = (Tryz.f9.params.toList ++ (OpenSpec.ofChange Rows.fnPiecesAddSpec).bare.plain.varTypes Tryz.pinned.checked.prog).any (Tryz.pinned.checked.prog.mapsRec ·) := by kernel_rfl
set_option maxRecDepth 1000000 in
theorem pieces_hif : Rows.fnPiecesAddRow.ifaces = (Tryz.f9.params.toList ++ (OpenSpec.ofChange Rows.fnPiecesAddSpec).bare.plain.varTypes Tryz.pinned.checked.prog).any (Tryz.pinned.checked.prog.ifacesRec ·) := by kernel_rfl
set_option maxRecDepth 1000000 in
theorem pieces_hmo : Rows.fnPiecesAddRow.mapsOut = Tryz.pinned.checked.prog.mapsAmong Tryz.f9.resultTypes.toList := by kernel_rfl
set_option maxRecDepth 1000000 in
theorem pieces_hlo : Rows.fnPiecesAddRow.loops = (Tryz.f9.params.toList ++ (OpenSpec.ofChange Rows.fnPiecesAddSpec).bare.plain.varTypes Tryz.pinned.checked.prog).any (Tryz.pinned.checked.prog.loopsFrom ·) := by kernel_rfl
set_option maxRecDepth 1000000 in
theorem pieces_hwk : Rows.fnPiecesAddRow.wideKeys = (Tryz.f9.params.toList ++ (OpenSpec.ofChange Rows.fnPiecesAddSpec).bare.plain.varTypes Tryz.pinned.checked.prog ++ Tryz.f9.resultTypes.toList).any (Tryz.pinned.checked.prog.wideKeysFrom ·) := by kernel_rfl
set_option maxRecDepth 1000000 in
theorem pieces_hvars : ((OpenSpec.ofChange Rows.fnPiecesAddSpec).vars.all fun n => Tryz.pinned.checked.prog.varReadable n) = true := by kernel_rfl
set_option maxRecDepth 1000000 in
theorem pieces_hmain : Tryz.pinned.checked.prog.mainIs = some (Rows.fnPiecesAddCard.stood.harness.1, Rows.fnPiecesAddCard.stood.harness.2.toList) := by kernel_rfl
set_option maxRecDepth 1000000 in
theorem pieces_hlooks : true = Tryz.pinned.checked.prog.looks [] := by kernel_rfl
set_option maxRecDepth 1000000 in
theorem pieces_hfun : (Tryz.f9.params.toList.all fun t => !Tryz.pinned.checked.prog.wantsStandIn t) = true := by kernel_rfl
set_option maxRecDepth 1000000 in
theorem pieces_hgoes : false = Rows.fnPiecesAddRow.goesBy Tryz.pinned.checked.prog := by kernel_rfl
set_option maxRecDepth 1000000 in
theorem pieces_h5 : Rows.fnPiecesAddRow.moreEntering Tryz.pinned.checked.prog Tryz.f9 := OpenClaim.moreEntering_of (by kernel_rfl) (by kernel_rfl) (by kernel_rfl) (by kernel_rfl) (by kernel_rfl) (by kernel_rfl) (by kernel_rfl) (by kernel_rfl) (by kernel_rfl) (by kernel_rfl)
set_option maxRecDepth 1000000 in
theorem pieces_hvl : Rows.fnPiecesAddRow.veiled = (Tryz.f9.params.toList ++ (OpenSpec.ofChange Rows.fnPiecesAddSpec).bare.plain.varTypes Tryz.pinned.checked.prog ++ Tryz.f9.resultTypes.toList).any (Tryz.pinned.checked.prog.veiledRec ·) ∧ Rows.fnPiecesAddRow.veiledFits Tryz.pinned.checked.prog Tryz.f9.params.toList (Tryz.f9.params.toList ++ (OpenSpec.ofChange Rows.fnPiecesAddSpec).bare.plain.varTypes Tryz.pinned.checked.prog ++ Tryz.f9.resultTypes.toList) = true := ⟨by kernel_rfl, by kernel_rfl⟩
set_option maxHeartbeats 8000000 in
set_option maxRecDepth 1000000 in
theorem pieces_holds : Rows.FnPiecesAddToldSaid :=
  Claim7.holds_of_told_tied_any_at .later 9 Tryz.f9 "fmt.Sprintf" [] [] Rows.fnPiecesAddCard.stood.harness true false [.data, .data, .data, .data, .widerDeep, .pinned, .pinned] true pieces_hw rfl rfl rfl laidOut pieces_hmr rfl ⟨rfl, rfl, rfl, rfl, rfl, rfl, rfl⟩ rfl rfl pieces_htie pieces_hfn Tryz.func9 pieces_hr
    pieces_hinst pieces_hwrap pieces_stops.symm rfl pieces_knobs.symm pieces_hword
    pieces_hin pieces_hop pieces_hrc pieces_hvs pieces_hmp pieces_hif pieces_hmo pieces_hlo pieces_hwk rfl pieces_hvars rfl rfl
    rfl rfl
    rfl pieces_hmain pieces_hlooks pieces_hfun (by decide) pieces_hgoes fnPiecesAdd_row_tie
    pieces_h5
    ⟨_, WideRow.started_initial, pieces_quiet _⟩
    (fun os started _ H enc _ => pieces_lifted os started H enc) pieces_hvl
#print axioms pieces_holds
end Go.Proofs.YtkfdcbdlcipmfaaGreatFmt
