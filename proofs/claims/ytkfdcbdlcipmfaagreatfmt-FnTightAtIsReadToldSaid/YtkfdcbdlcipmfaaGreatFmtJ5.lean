/- The statement on FnTightAtIsRead: for every input the call returns true and its arguments read behind it as before; the listed package-level variables hold what the program's text lays (tied), and fmt's text is told. No other condition. -/
import Derived.Test.YtkfdcbdlcipmfaaGreatFmtH50
set_option linter.unusedVariables false
set_option linter.unusedSimpArgs false
namespace Go.Proofs.YtkfdcbdlcipmfaaGreatFmt
theorem tight_stops : Tryz.pinned.checked.prog.stops = ["fmt.Sprintf"] := by kernel_rfl
theorem tight_knobs : Tryz.pinned.checked.prog.stopKnobs = [] := by kernel_rfl
theorem tight_quiet (os : Os) : Stop.quiet Tryz.pinned.checked.prog os := by
  intro k hk
  rw [tight_knobs] at hk
  cases hk
set_option maxRecDepth 1000000 in
theorem tight_hw : Rows.fnTightAtIsReadRow.wfByText (OpenSpec.ofChange Rows.fnTightAtIsReadSpec) = true := by kernel_rfl
set_option maxRecDepth 1000000 in
theorem tight_hmr : mapsRowed Tryz.pinned.checked.prog = true := by kernel_rfl
set_option maxRecDepth 1000000 in
theorem tight_htie : namedTie Tryz.pinned.checked.prog Rows.fnTightAtIsReadRow.namedList (OpenSpec.ofChange Rows.fnTightAtIsReadSpec).vars = true := by kernel_rfl
set_option maxRecDepth 1000000 in
theorem tight_hfn : Tryz.pinned.checked.prog.funcNamed Rows.fnTightAtIsReadRow.func = some 6 := by kernel_rfl
set_option maxRecDepth 1000000 in
theorem tight_hr : (Tryz.f6.params.toList.all fun t => Tryz.pinned.checked.prog.readableRec t) = true := by kernel_rfl
set_option maxRecDepth 1000000 in
theorem tight_hinst : Tryz.f6.isInstance Tryz.pinned.checked.prog Rows.fnTightAtIsReadRow.origin Rows.fnTightAtIsReadRow.targs := of_decide_eq_true (by kernel_rfl)
set_option maxRecDepth 1000000 in
theorem tight_hwrap : Tryz.f6.isWrapper Tryz.pinned.checked.prog Rows.fnTightAtIsReadRow.wrapper Rows.fnTightAtIsReadRow.mainSum := of_decide_eq_true (by kernel_rfl)
set_option maxRecDepth 1000000 in
theorem tight_hword : Tryz.pinned.checked.prog.envWorded = true := by kernel_rfl
set_option maxRecDepth 1000000 in
theorem tight_hin : Rows.fnTightAtIsReadRow.inPlace = Tryz.pinned.checked.prog.inPlace 6 := by kernel_rfl
set_option maxRecDepth 1000000 in
theorem tight_hop : Rows.fnTightAtIsReadRow.unfollowed = Tryz.pinned.checked.prog.unfollowed 6 := by kernel_rfl
set_option maxRecDepth 1000000 in
theorem tight_hrc : Rows.fnTightAtIsReadRow.recurses = Tryz.pinned.checked.prog.recurses 6 := by kernel_rfl
set_option maxRecDepth 1000000 in
theorem tight_hvs : Rows.fnTightAtIsReadRow.named = Tryz.pinned.checked.prog.varsNamed 6 := by kernel_rfl
set_option maxRecDepth 1000000 in
theorem tight_hmp : Rows.fnTightAtIsReadRow.maps = (Tryz.f6.params.toList ++ (OpenSpec.ofChange Rows.fnTightAtIsReadSpec).bare.plain.varTypes Tryz.pinned.checked.prog).any (Tryz.pinned.checked.prog.mapsRec ·) := by kernel_rfl
set_option maxRecDepth 1000000 in
theorem tight_hif : Rows.fnTightAtIsReadRow.ifaces = (Tryz.f6.params.toList ++ (OpenSpec.ofChange Rows.fnTightAtIsReadSpec).bare.plain.varTypes Tryz.pinned.checked.prog).any (Tryz.pinned.checked.prog.ifacesRec ·) := by kernel_rfl
set_option maxRecDepth 1000000 in
theorem tight_hmo : Rows.fnTightAtIsReadRow.mapsOut = Tryz.pinned.checked.prog.mapsAmong Tryz.f6.resultTypes.toList := by kernel_rfl
set_option maxRecDepth 1000000 in
theorem tight_hlo : Rows.fnTightAtIsReadRow.loops = (Tryz.f6.params.toList ++ (OpenSpec.ofChange Rows.fnTightAtIsReadSpec).bare.plain.varTypes Tryz.pinned.checked.prog).any (Tryz.pinned.checked.prog.loopsFrom ·) := by kernel_rfl
set_option maxRecDepth 1000000 in
theorem tight_hwk : Rows.fnTightAtIsReadRow.wideKeys = (Tryz.f6.params.toList ++ (OpenSpec.ofChange Rows.fnTightAtIsReadSpec).bare.plain.varTypes Tryz.pinned.checked.prog ++ Tryz.f6.resultTypes.toList).any (Tryz.pinned.checked.prog.wideKeysFrom ·) := by kernel_rfl
set_option maxRecDepth 1000000 in
theorem tight_hvars : ((OpenSpec.ofChange Rows.fnTightAtIsReadSpec).vars.all fun n => Tryz.pinned.checked.prog.varReadable n) = true := by kernel_rfl
set_option maxRecDepth 1000000 in
theorem tight_hmain : Tryz.pinned.checked.prog.mainIs = some (Rows.fnTightAtIsReadCard.stood.harness.1, Rows.fnTightAtIsReadCard.stood.harness.2.toList) := by kernel_rfl
set_option maxRecDepth 1000000 in
theorem tight_hlooks : true = Tryz.pinned.checked.prog.looks [] := by kernel_rfl
set_option maxRecDepth 1000000 in
theorem tight_hfun : (Tryz.f6.params.toList.all fun t => !Tryz.pinned.checked.prog.wantsStandIn t) = true := by kernel_rfl
set_option maxRecDepth 1000000 in
theorem tight_hgoes : false = Rows.fnTightAtIsReadRow.goesBy Tryz.pinned.checked.prog := by kernel_rfl
set_option maxRecDepth 1000000 in
theorem tight_h5 : Rows.fnTightAtIsReadRow.moreEntering Tryz.pinned.checked.prog Tryz.f6 := OpenClaim.moreEntering_of (by kernel_rfl) (by kernel_rfl) (by kernel_rfl) (by kernel_rfl) (by kernel_rfl) (by kernel_rfl) (by kernel_rfl) (by kernel_rfl) (by kernel_rfl) (by kernel_rfl)
set_option maxRecDepth 1000000 in
theorem tight_hvl : Rows.fnTightAtIsReadRow.veiled = (Tryz.f6.params.toList ++ (OpenSpec.ofChange Rows.fnTightAtIsReadSpec).bare.plain.varTypes Tryz.pinned.checked.prog ++ Tryz.f6.resultTypes.toList).any (Tryz.pinned.checked.prog.veiledRec ·) ∧ Rows.fnTightAtIsReadRow.veiledFits Tryz.pinned.checked.prog Tryz.f6.params.toList (Tryz.f6.params.toList ++ (OpenSpec.ofChange Rows.fnTightAtIsReadSpec).bare.plain.varTypes Tryz.pinned.checked.prog ++ Tryz.f6.resultTypes.toList) = true := ⟨by kernel_rfl, by kernel_rfl⟩
set_option maxHeartbeats 8000000 in
set_option maxRecDepth 1000000 in
theorem tight_holds : Rows.FnTightAtIsReadToldSaid :=
  Claim7.holds_of_told_tied_any_at .later 6 Tryz.f6 "fmt.Sprintf" [] [] Rows.fnTightAtIsReadCard.stood.harness true false [.data, .data, .data, .data, .widerDeep, .pinned, .pinned] true tight_hw rfl rfl rfl laidOut tight_hmr rfl ⟨rfl, rfl, rfl, rfl, rfl, rfl, rfl⟩ rfl rfl tight_htie tight_hfn Tryz.func6 tight_hr
    tight_hinst tight_hwrap tight_stops.symm rfl tight_knobs.symm tight_hword
    tight_hin tight_hop tight_hrc tight_hvs tight_hmp tight_hif tight_hmo tight_hlo tight_hwk rfl tight_hvars rfl rfl
    rfl rfl
    rfl tight_hmain tight_hlooks tight_hfun (by decide) tight_hgoes fnTightAtIsRead_row_tie
    tight_h5
    ⟨_, WideRow.started_initial, tight_quiet _⟩
    (fun os started _ H enc _ => tight_lifted os started H enc) tight_hvl
#print axioms tight_holds
end Go.Proofs.YtkfdcbdlcipmfaaGreatFmt
