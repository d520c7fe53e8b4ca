/- The statement on FnSpacedAtIsRead: for every input the call returns true and its arguments read behind it as before; the listed package-level variables hold what the program's text lays (tied), and fmt's text is told. No other condition. -/
import Derived.Test.YtkfdcbdlcipmfaaGreatFmtH48
set_option linter.unusedVariables false
set_option linter.unusedSimpArgs false
namespace Go.Proofs.YtkfdcbdlcipmfaaGreatFmt
theorem spaced_stops : Tryz.pinned.checked.prog.stops = ["fmt.Sprintf"] := by kernel_rfl
theorem spaced_knobs : Tryz.pinned.checked.prog.stopKnobs = [] := by kernel_rfl
theorem spaced_quiet (os : Os) : Stop.quiet Tryz.pinned.checked.prog os := by
  intro k hk
  rw [spaced_knobs] at hk
  cases hk
set_option maxRecDepth 1000000 in
theorem spaced_hw : Rows.fnSpacedAtIsReadRow.wfByText (OpenSpec.ofChange Rows.fnSpacedAtIsReadSpec) = true := by kernel_rfl
set_option maxRecDepth 1000000 in
theorem spaced_hmr : mapsRowed Tryz.pinned.checked.prog = true := by kernel_rfl
set_option maxRecDepth 1000000 in
theorem spaced_htie : namedTie Tryz.pinned.checked.prog Rows.fnSpacedAtIsReadRow.namedList (OpenSpec.ofChange Rows.fnSpacedAtIsReadSpec).vars = true := by kernel_rfl
set_option maxRecDepth 1000000 in
theorem spaced_hfn : Tryz.pinned.checked.prog.funcNamed Rows.fnSpacedAtIsReadRow.func = some 5 := by kernel_rfl
set_option maxRecDepth 1000000 in
theorem spaced_hr : (Tryz.f5.params.toList.all fun t => Tryz.pinned.checked.prog.readableRec t) = true := by kernel_rfl
set_option maxRecDepth 1000000 in
theorem spaced_hinst : Tryz.f5.isInstance Tryz.pinned.checked.prog Rows.fnSpacedAtIsReadRow.origin Rows.fnSpacedAtIsReadRow.targs := of_decide_eq_true (by kernel_rfl)
set_option maxRecDepth 1000000 in
theorem spaced_hwrap : Tryz.f5.isWrapper Tryz.pinned.checked.prog Rows.fnSpacedAtIsReadRow.wrapper Rows.fnSpacedAtIsReadRow.mainSum := of_decide_eq_true (by kernel_rfl)
set_option maxRecDepth 1000000 in
theorem spaced_hword : Tryz.pinned.checked.prog.envWorded = true := by kernel_rfl
set_option maxRecDepth 1000000 in
theorem spaced_hin : Rows.fnSpacedAtIsReadRow.inPlace = Tryz.pinned.checked.prog.inPlace 5 := by kernel_rfl
set_option maxRecDepth 1000000 in
theorem spaced_hop : Rows.fnSpacedAtIsReadRow.unfollowed = Tryz.pinned.checked.prog.unfollowed 5 := by kernel_rfl
set_option maxRecDepth 1000000 in
theorem spaced_hrc : Rows.fnSpacedAtIsReadRow.recurses = Tryz.pinned.checked.prog.recurses 5 := by kernel_rfl
set_option maxRecDepth 1000000 in
theorem spaced_hvs : Rows.fnSpacedAtIsReadRow.named = Tryz.pinned.checked.prog.varsNamed 5 := by kernel_rfl
set_option maxRecDepth 1000000 in
theorem spaced_hmp : Rows.fnSpacedAtIsReadRow.maps = (Tryz.f5.params.toList ++ (OpenSpec.ofChange Rows.fnSpacedAtIsReadSpec).bare.plain.varTypes Tryz.pinned.checked.prog).any (Tryz.pinned.checked.prog.mapsRec ·) := by kernel_rfl
set_option maxRecDepth 1000000 in
theorem spaced_hif : Rows.fnSpacedAtIsReadRow.ifaces = (Tryz.f5.params.toList ++ (OpenSpec.ofChange Rows.fnSpacedAtIsReadSpec).bare.plain.varTypes Tryz.pinned.checked.prog).any (Tryz.pinned.checked.prog.ifacesRec ·) := by kernel_rfl
set_option maxRecDepth 1000000 in
theorem spaced_hmo : Rows.fnSpacedAtIsReadRow.mapsOut = Tryz.pinned.checked.prog.mapsAmong Tryz.f5.resultTypes.toList := by kernel_rfl
set_option maxRecDepth 1000000 in
theorem spaced_hlo : Rows.fnSpacedAtIsReadRow.loops = (Tryz.f5.params.toList ++ (OpenSpec.ofChange Rows.fnSpacedAtIsReadSpec).bare.plain.varTypes Tryz.pinned.checked.prog).any (Tryz.pinned.checked.prog.loopsFrom ·) := by kernel_rfl
set_option maxRecDepth 1000000 in
theorem spaced_hwk : Rows.fnSpacedAtIsReadRow.wideKeys = (Tryz.f5.params.toList ++ (OpenSpec.ofChange Rows.fnSpacedAtIsReadSpec).bare.plain.varTypes Tryz.pinned.checked.prog ++ Tryz.f5.resultTypes.toList).any (Tryz.pinned.checked.prog.wideKeysFrom ·) := by kernel_rfl
set_option maxRecDepth 1000000 in
theorem spaced_hvars : ((OpenSpec.ofChange Rows.fnSpacedAtIsReadSpec).vars.all fun n => Tryz.pinned.checked.prog.varReadable n) = true := by kernel_rfl
set_option maxRecDepth 1000000 in
theorem spaced_hmain : Tryz.pinned.checked.prog.mainIs = some (Rows.fnSpacedAtIsReadCard.stood.harness.1, Rows.fnSpacedAtIsReadCard.stood.harness.2.toList) := by kernel_rfl
set_option maxRecDepth 1000000 in
theorem spaced_hlooks : true = Tryz.pinned.checked.prog.looks [] := by kernel_rfl
set_option maxRecDepth 1000000 in
theorem spaced_hfun : (Tryz.f5.params.toList.all fun t => !Tryz.pinned.checked.prog.wantsStandIn t) = true := by kernel_rfl
set_option maxRecDepth 1000000 in
theorem spaced_hgoes : false = Rows.fnSpacedAtIsReadRow.goesBy Tryz.pinned.checked.prog := by kernel_rfl
set_option maxRecDepth 1000000 in
theorem spaced_h5 : Rows.fnSpacedAtIsReadRow.moreEntering Tryz.pinned.checked.prog Tryz.f5 := OpenClaim.moreEntering_of (by kernel_rfl) (by kernel_rfl) (by kernel_rfl) (by kernel_rfl) (by kernel_rfl) (by kernel_rfl) (by kernel_rfl) (by kernel_rfl) (by kernel_rfl) (by kernel_rfl)
set_option maxRecDepth 1000000 in
theorem spaced_hvl : Rows.fnSpacedAtIsReadRow.veiled = (Tryz.f5.params.toList ++ (OpenSpec.ofChange Rows.fnSpacedAtIsReadSpec).bare.plain.varTypes Tryz.pinned.checked.prog ++ Tryz.f5.resultTypes.toList).any (Tryz.pinned.checked.prog.veiledRec ·) ∧ Rows.fnSpacedAtIsReadRow.veiledFits Tryz.pinned.checked.prog Tryz.f5.params.toList (Tryz.f5.params.toList ++ (OpenSpec.ofChange Rows.fnSpacedAtIsReadSpec).bare.plain.varTypes Tryz.pinned.checked.prog ++ Tryz.f5.resultTypes.toList) = true := ⟨by kernel_rfl, by kernel_rfl⟩
set_option maxHeartbeats 8000000 in
set_option maxRecDepth 1000000 in
theorem spaced_holds : Rows.FnSpacedAtIsReadToldSaid :=
  Claim7.holds_of_told_tied_any_at .later 5 Tryz.f5 "fmt.Sprintf" [] [] Rows.fnSpacedAtIsReadCard.stood.harness true false [.data, .data, .data, .data, .widerDeep, .pinned, .pinned] true spaced_hw rfl rfl rfl laidOut spaced_hmr rfl ⟨rfl, rfl, rfl, rfl, rfl, rfl, rfl⟩ rfl rfl spaced_htie spaced_hfn Tryz.func5 spaced_hr
    spaced_hinst spaced_hwrap spaced_stops.symm rfl spaced_knobs.symm spaced_hword
    spaced_hin spaced_hop spaced_hrc spaced_hvs spaced_hmp spaced_hif spaced_hmo spaced_hlo spaced_hwk rfl spaced_hvars rfl rfl
    rfl rfl
    rfl spaced_hmain spaced_hlooks spaced_hfun (by decide) spaced_hgoes fnSpacedAtIsRead_row_tie
    spaced_h5
    ⟨_, WideRow.started_initial, spaced_quiet _⟩
    (fun os started _ H enc _ => spaced_lifted os started H enc) spaced_hvl
#print axioms spaced_holds
end Go.Proofs.YtkfdcbdlcipmfaaGreatFmt
