/- The statement on FnImportantIsRead: for every input the call returns true and its arguments read behind it as before; the listed package-level variables hold what the program's text lays (tied), and fmt's text is told. No other condition. -/
import Derived.Test.YtkfdcbdlcipmfaaGreatFmtG45
set_option linter.unusedVariables false
set_option linter.unusedSimpArgs false
namespace Go.Proofs.YtkfdcbdlcipmfaaGreatFmt
theorem importa_stops : Tryz.pinned.checked.prog.stops = ["fmt.Sprintf"] := by kernel_rfl
theorem importa_knobs : Tryz.pinned.checked.prog.stopKnobs = [] := by kernel_rfl
theorem importa_quiet (os : Os) : Stop.quiet Tryz.pinned.checked.prog os := by
  intro k hk
  rw [importa_knobs] at hk
  cases hk
set_option maxRecDepth 1000000 in
theorem importa_hw : Rows.fnImportantIsReadRow.wfByText (OpenSpec.ofChange Rows.fnImportantIsReadSpec) = true := by kernel_rfl
set_option maxRecDepth 1000000 in
theorem importa_hmr : mapsRowed Tryz.pinned.checked.prog = true := by kernel_rfl
set_option maxRecDepth 1000000 in
theorem importa_htie : namedTie Tryz.pinned.checked.prog Rows.fnImportantIsReadRow.namedList (OpenSpec.ofChange Rows.fnImportantIsReadSpec).vars = true := by kernel_rfl
set_option maxRecDepth 1000000 in
theorem importa_hfn : Tryz.pinned.checked.prog.funcNamed Rows.fnImportantIsReadRow.func = some 8 := by kernel_rfl
set_option maxRecDepth 1000000 in
theorem importa_hr : (Tryz.f8.params.toList.all fun t => Tryz.pinned.checked.prog.readableRec t) = true := by kernel_rfl
set_option maxRecDepth 1000000 in
theorem importa_hinst : Tryz.f8.isInstance Tryz.pinned.checked.prog Rows.fnImportantIsReadRow.origin Rows.fnImportantIsReadRow.targs := of_decide_eq_true (by kernel_rfl)
set_option maxRecDepth 1000000 in
theorem importa_hwrap : Tryz.f8.isWrapper Tryz.pinned.checked.prog Rows.fnImportantIsReadRow.wrapper Rows.fnImportantIsReadRow.mainSum := of_decide_eq_true (by kernel_rfl)
set_option maxRecDepth 1000000 in
theorem importa_hword : Tryz.pinned.checked.prog.envWorded = true := by kernel_rfl
set_option maxRecDepth 1000000 in
theorem importa_hin : Rows.fnImportantIsReadRow.inPlace = Tryz.pinned.checked.prog.inPlace 8 := by kernel_rfl
set_option maxRecDepth 1000000 in
theorem importa_hop : Rows.fnImportantIsReadRow.unfollowed = Tryz.pinned.checked.prog.unfollowed 8 := by kernel_rfl
set_option maxRecDepth 1000000 in
theorem importa_hrc : Rows.fnImportantIsReadRow.recurses = Tryz.pinned.checked.prog.recurses 8 := by kernel_rfl
set_option maxRecDepth 1000000 in
theorem importa_hvs : Rows.fnImportantIsReadRow.named = Tryz.pinned.checked.prog.varsNamed 8 := by kernel_rfl
set_option maxRecDepth 1000000 in
theorem importa_hmp : Rows.fnImportantIsReadRow.maps = (Tryz.f8.params.toList ++ (OpenSpec.ofChange Rows.fnImportantIsReadSpec).bare.plain.varTypes Tryz.pinned.checked.prog).any (Tryz.pinned.checked.prog.mapsRec ·) := by kernel_rfl
set_option maxRecDepth 1000000 in
theorem importa_hif : Rows.fnImportantIsReadRow.ifaces = (Tryz.f8.params.toList ++ (OpenSpec.ofChange Rows.fnImportantIsReadSpec).bare.plain.varTypes Tryz.pinned.checked.prog).any (Tryz.pinned.checked.prog.ifacesRec ·) := by kernel_rfl
set_option maxRecDepth 1000000 in
theorem importa_hmo : Rows.fnImportantIsReadRow.mapsOut = Tryz.pinned.checked.prog.mapsAmong Tryz.f8.resultTypes.toList := by kernel_rfl
set_option maxRecDepth 1000000 in
theorem importa_hlo : Rows.fnImportantIsReadRow.loops = (Tryz.f8.params.toList ++ (OpenSpec.ofChange Rows.fnImportantIsReadSpec).bare.plain.varTypes Tryz.pinned.checked.prog).any (Tryz.pinned.checked.prog.loopsFrom ·) := by kernel_rfl
set_option maxRecDepth 1000000 in
theorem importa_hwk : Rows.fnImportantIsReadRow.wideKeys = (Tryz.f8.params.toList ++ (OpenSpec.ofChange Rows.fnImportantIsReadSpec).bare.plain.varTypes Tryz.pinned.checked.prog ++ Tryz.f8.resultTypes.toList).any (Tryz.pinned.checked.prog.wideKeysFrom ·) := by kernel_rfl
set_option maxRecDepth 1000000 in
theorem importa_hvars : ((OpenSpec.ofChange Rows.fnImportantIsReadSpec).vars.all fun n => Tryz.pinned.checked.prog.varReadable n) = true := by kernel_rfl
set_option maxRecDepth 1000000 in
theorem importa_hmain : Tryz.pinned.checked.prog.mainIs = some (Rows.fnImportantIsReadCard.stood.harness.1, Rows.fnImportantIsReadCard.stood.harness.2.toList) := by kernel_rfl
set_option maxRecDepth 1000000 in
theorem importa_hlooks : true = Tryz.pinned.checked.prog.looks [] := by kernel_rfl
set_option maxRecDepth 1000000 in
theorem importa_hfun : (Tryz.f8.params.toList.all fun t => !Tryz.pinned.checked.prog.wantsStandIn t) = true := by kernel_rfl
set_option maxRecDepth 1000000 in
theorem importa_hgoes : false = Rows.fnImportantIsReadRow.goesBy Tryz.pinned.checked.prog := by kernel_rfl
set_option maxRecDepth 1000000 in
theorem importa_h5 : Rows.fnImportantIsReadRow.moreEntering Tryz.pinned.checked.prog Tryz.f8 := OpenClaim.moreEntering_of (by kernel_rfl) (by kernel_rfl) (by kernel_rfl) (by kernel_rfl) (by kernel_rfl) (by kernel_rfl) (by kernel_rfl) (by kernel_rfl) (by kernel_rfl) (by kernel_rfl)
set_option maxRecDepth 1000000 in
theorem importa_hvl : Rows.fnImportantIsReadRow.veiled = (Tryz.f8.params.toList ++ (OpenSpec.ofChange Rows.fnImportantIsReadSpec).bare.plain.varTypes Tryz.pinned.checked.prog ++ Tryz.f8.resultTypes.toList).any (Tryz.pinned.checked.prog.veiledRec ·) ∧ Rows.fnImportantIsReadRow.veiledFits Tryz.pinned.checked.prog Tryz.f8.params.toList (Tryz.f8.params.toList ++ (OpenSpec.ofChange Rows.fnImportantIsReadSpec).bare.plain.varTypes Tryz.pinned.checked.prog ++ Tryz.f8.resultTypes.toList) = true := ⟨by kernel_rfl, by kernel_rfl⟩
set_option maxHeartbeats 8000000 in
set_option maxRecDepth 1000000 in
theorem importa_holds : Rows.FnImportantIsReadToldSaid :=
  Claim7.holds_of_told_tied_any_at .later 8 Tryz.f8 "fmt.Sprintf" [] [] Rows.fnImportantIsReadCard.stood.harness true false [.data, .data, .data, .data, .widerDeep, .pinned, .pinned] true importa_hw rfl rfl rfl laidOut importa_hmr rfl ⟨rfl, rfl, rfl, rfl, rfl, rfl, rfl⟩ rfl rfl importa_htie importa_hfn Tryz.func8 importa_hr
    importa_hinst importa_hwrap importa_stops.symm rfl importa_knobs.symm importa_hword
    importa_hin importa_hop importa_hrc importa_hvs importa_hmp importa_hif importa_hmo importa_hlo importa_hwk rfl importa_hvars rfl rfl
    rfl rfl
    rfl importa_hmain importa_hlooks importa_hfun (by decide) importa_hgoes fnImportantIsRead_row_tie
    importa_h5
    ⟨_, WideRow.started_initial, importa_quiet _⟩
    (fun os started _ H enc _ => importa_lifted os started H enc) importa_hvl
#print axioms importa_holds
end Go.Proofs.YtkfdcbdlcipmfaaGreatFmt
