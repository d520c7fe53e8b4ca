/- The statement on FnDeclarationIsRead: for every input the call returns true and its arguments read behind it as before; the listed package-level variables hold what the program's text lays (tied), and fmt's text is told. No other condition. -/
import Derived.Test.YtkfdcbdlcipmfaaGreatFmtG47
set_option linter.unusedVariables false
set_option linter.unusedSimpArgs false
namespace Go.Proofs.YtkfdcbdlcipmfaaGreatFmt
theorem decla_stops : Tryz.pinned.checked.prog.stops = ["fmt.Sprintf"] := by kernel_rfl
theorem decla_knobs : Tryz.pinned.checked.prog.stopKnobs = [] := by kernel_rfl
theorem decla_quiet (os : Os) : Stop.quiet Tryz.pinned.checked.prog os := by
  intro k hk
  rw [decla_knobs] at hk
  cases hk
set_option maxRecDepth 1000000 in
theorem decla_hw : Rows.fnDeclarationIsReadRow.wfByText (OpenSpec.ofChange Rows.fnDeclarationIsReadSpec) = true := by kernel_rfl
set_option maxRecDepth 1000000 in
theorem decla_hmr : mapsRowed Tryz.pinned.checked.prog = true := by kernel_rfl
set_option maxRecDepth 1000000 in
theorem decla_htie : namedTie Tryz.pinned.checked.prog Rows.fnDeclarationIsReadRow.namedList (OpenSpec.ofChange Rows.fnDeclarationIsReadSpec).vars = true := by kernel_rfl
set_option maxRecDepth 1000000 in
theorem decla_hfn : Tryz.pinned.checked.prog.funcNamed Rows.fnDeclarationIsReadRow.func = some 7 := by kernel_rfl
set_option maxRecDepth 1000000 in
theorem decla_hr : (Tryz.f7.params.toList.all fun t => Tryz.pinned.checked.prog.readableRec t) = true := by kernel_rfl
set_option maxRecDepth 1000000 in
theorem decla_hinst : Tryz.f7.isInstance Tryz.pinned.checked.prog Rows.fnDeclarationIsReadRow.origin Rows.fnDeclarationIsReadRow.targs := of_decide_eq_true (by kernel_rfl)
set_option maxRecDepth 1000000 in
theorem decla_hwrap : Tryz.f7.isWrapper Tryz.pinned.checked.prog Rows.fnDeclarationIsReadRow.wrapper Rows.fnDeclarationIsReadRow.mainSum := of_decide_eq_true (by kernel_rfl)
set_option maxRecDepth 1000000 in
theorem decla_hword : Tryz.pinned.checked.prog.envWorded = true := by kernel_rfl
set_option maxRecDepth 1000000 in
theorem decla_hin : Rows.fnDeclarationIsReadRow.inPlace = Tryz.pinned.checked.prog.inPlace 7 := by kernel_rfl
set_option maxRecDepth 1000000 in
theorem decla_hop : Rows.fnDeclarationIsReadRow.unfollowed = Tryz.pinned.checked.prog.unfollowed 7 := by kernel_rfl
set_option maxRecDepth 1000000 in
theorem decla_hrc : Rows.fnDeclarationIsReadRow.recurses = Tryz.pinned.checked.prog.recurses 7 := by kernel_rfl
set_option maxRecDepth 1000000 in
theorem decla_hvs : Rows.fnDeclarationIsReadRow.named = Tryz.pinned.checked.prog.varsNamed 7 := by kernel_rfl
set_option maxRecDepth 1000000 in
theorem decla_hmp : Rows.fnDeclarationIsReadRow.maps = (Tryz.f7.params.toList ++ (OpenSpec.ofChange Rows.fnDeclarationIsReadSpec).bare.plain.varTypes Tryz.pinned.checked.prog).any (Tryz.pinned.checked.prog.mapsRec ·) := by kernel_rfl
set_option maxRecDepth 1000000 in
theorem decla_hif : Rows.fnDeclarationIsReadRow.ifaces = (Tryz.f7.params.toList ++ (OpenSpec.ofChange Rows.fnDeclarationIsReadSpec).bare.plain.varTypes Tryz.pinned.checked.prog).any (Tryz.pinned.checked.prog.ifacesRec ·) := by kernel_rfl
set_option maxRecDepth 1000000 in
theorem decla_hmo : Rows.fnDeclarationIsReadRow.mapsOut = Tryz.pinned.checked.prog.mapsAmong Tryz.f7.resultTypes.toList := by kernel_rfl
set_option maxRecDepth 1000000 in
theorem decla_hlo : Rows.fnDeclarationIsReadRow.loops = (Tryz.f7.params.toList ++ (OpenSpec.ofChange Rows.fnDeclarationIsReadSpec).bare.plain.varTypes Tryz.pinned.checked.prog).any (Tryz.pinned.checked.prog.loopsFrom ·) := by kernel_rfl
set_option maxRecDepth 1000000 in
theorem decla_hwk : Rows.fnDeclarationIsReadRow.wideKeys = (Tryz.f7.params.toList ++ (OpenSpec.ofChange Rows.fnDeclarationIsReadSpec).bare.plain.varTypes Tryz.pinned.checked.prog ++ Tryz.f7.resultTypes.toList).any (Tryz.pinned.checked.prog.wideKeysFrom ·) := by kernel_rfl
set_option maxRecDepth 1000000 in
theorem decla_hvars : ((OpenSpec.ofChange Rows.fnDeclarationIsReadSpec).vars.all fun n => Tryz.pinned.checked.prog.varReadable n) = true := by kernel_rfl
set_option maxRecDepth 1000000 in
theorem decla_hmain : Tryz.pinned.checked.prog.mainIs = some (Rows.fnDeclarationIsReadCard.stood.harness.1, Rows.fnDeclarationIsReadCard.stood.harness.2.toList) := by kernel_rfl
set_option maxRecDepth 1000000 in
theorem decla_hlooks : true = Tryz.pinned.checked.prog.looks [] := by kernel_rfl
set_option maxRecDepth 1000000 in
theorem decla_hfun : (Tryz.f7.params.toList.all fun t => !Tryz.pinned.checked.prog.wantsStandIn t) = true := by kernel_rfl
set_option maxRecDepth 1000000 in
theorem decla_hgoes : false = Rows.fnDeclarationIsReadRow.goesBy Tryz.pinned.checked.prog := by kernel_rfl
set_option maxRecDepth 1000000 in
theorem decla_h5 : Rows.fnDeclarationIsReadRow.moreEntering Tryz.pinned.checked.prog Tryz.f7 := OpenClaim.moreEntering_of (by kernel_rfl) (by kernel_rfl) (by kernel_rfl) (by kernel_rfl) (by kernel_rfl) (by kernel_rfl) (by kernel_rfl) (by kernel_rfl) (by kernel_rfl) (by kernel_rfl)
set_option maxRecDepth 1000000 in
theorem decla_hvl : Rows.fnDeclarationIsReadRow.veiled = (Tryz.f7.params.toList ++ (OpenSpec.ofChange Rows.fnDeclarationIsReadSpec).bare.plain.varTypes Tryz.pinned.checked.prog ++ Tryz.f7.resultTypes.toList).any (Tryz.pinned.checked.prog.veiledRec ·) ∧ Rows.fnDeclarationIsReadRow.veiledFits Tryz.pinned.checked.prog Tryz.f7.params.toList (Tryz.f7.params.toList ++ (OpenSpec.ofChange Rows.fnDeclarationIsReadSpec).bare.plain.varTypes Tryz.pinned.checked.prog ++ Tryz.f7.resultTypes.toList) = true := ⟨by kernel_rfl, by kernel_rfl⟩
set_option maxHeartbeats 8000000 in
set_option maxRecDepth 1000000 in
theorem decla_holds : Rows.FnDeclarationIsReadToldSaid :=
  Claim7.holds_of_told_tied_any_at .later 7 Tryz.f7 "fmt.Sprintf" [] [] Rows.fnDeclarationIsReadCard.stood.harness true false [.data, .data, .data, .data, .widerDeep, .pinned, .pinned] true decla_hw rfl rfl rfl laidOut decla_hmr rfl ⟨rfl, rfl, rfl, rfl, rfl, rfl, rfl⟩ rfl rfl decla_htie decla_hfn Tryz.func7 decla_hr
    decla_hinst decla_hwrap decla_stops.symm rfl decla_knobs.symm decla_hword
    decla_hin decla_hop decla_hrc decla_hvs decla_hmp decla_hif decla_hmo decla_hlo decla_hwk rfl decla_hvars rfl rfl
    rfl rfl
    rfl decla_hmain decla_hlooks decla_hfun (by decide) decla_hgoes fnDeclarationIsRead_row_tie
    decla_h5
    ⟨_, WideRow.started_initial, decla_quiet _⟩
    (fun os started _ H enc _ => decla_lifted os started H enc) decla_hvl
#print axioms decla_holds
end Go.Proofs.YtkfdcbdlcipmfaaGreatFmt
