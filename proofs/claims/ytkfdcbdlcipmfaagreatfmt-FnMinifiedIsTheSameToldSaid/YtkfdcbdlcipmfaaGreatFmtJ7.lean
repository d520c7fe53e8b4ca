/- The statement on FnMinifiedIsTheSame: for every input the call returns true and its arguments read behind it as before; the listed package-level variables hold what the program's text lays (tied), and fmt's text is told. No other condition. -/
import Derived.Test.YtkfdcbdlcipmfaaGreatFmtH52
set_option linter.unusedVariables false
set_option linter.unusedSimpArgs false
namespace Go.Proofs.YtkfdcbdlcipmfaaGreatFmt
theorem minif_stops : Tryz.pinned.checked.prog.stops = ["fmt.Sprintf"] := by kernel_rfl
theorem minif_knobs : Tryz.pinned.checked.prog.stopKnobs = [] := by kernel_rfl
theorem minif_quiet (os : Os) : Stop.quiet Tryz.pinned.checked.prog os := by
  intro k hk
  rw [minif_knobs] at hk
  cases hk
set_option maxRecDepth 1000000 in
theorem minif_hw : Rows.fnMinifiedIsTheSameRow.wfByText (OpenSpec.ofChange Rows.fnMinifiedIsTheSameSpec) = true := by kernel_rfl
set_option maxRecDepth 1000000 in
theorem minif_hmr : mapsRowed Tryz.pinned.checked.prog = true := by kernel_rfl
set_option maxRecDepth 1000000 in
theorem minif_htie : namedTie Tryz.pinned.checked.prog Rows.fnMinifiedIsTheSameRow.namedList (OpenSpec.ofChange Rows.fnMinifiedIsTheSameSpec).vars = true := by kernel_rfl
set_option maxRecDepth 1000000 in
theorem minif_hfn : Tryz.pinned.checked.prog.funcNamed Rows.fnMinifiedIsTheSameRow.func = some 4 := by kernel_rfl
set_option maxRecDepth 1000000 in
theorem minif_hr : (Tryz.f4.params.toList.all fun t => Tryz.pinned.checked.prog.readableRec t) = true := by kernel_rfl
set_option maxRecDepth 1000000 in
theorem minif_hinst : Tryz.f4.isInstance Tryz.pinned.checked.prog Rows.fnMinifiedIsTheSameRow.origin Rows.fnMinifiedIsTheSameRow.targs := of_decide_eq_true (by kernel_rfl)
set_option maxRecDepth 1000000 in
theorem minif_hwrap : Tryz.f4.isWrapper Tryz.pinned.checked.prog Rows.fnMinifiedIsTheSameRow.wrapper Rows.fnMinifiedIsTheSameRow.mainSum := of_decide_eq_true (by kernel_rfl)
set_option maxRecDepth 1000000 in
theorem minif_hword : Tryz.pinned.checked.prog.envWorded = true := by kernel_rfl
set_option maxRecDepth 1000000 in
theorem minif_hin : Rows.fnMinifiedIsTheSameRow.inPlace = Tryz.pinned.checked.prog.inPlace 4 := by kernel_rfl
set_option maxRecDepth 1000000 in
theorem minif_hop : Rows.fnMinifiedIsTheSameRow.unfollowed = Tryz.pinned.checked.prog.unfollowed 4 := by kernel_rfl
set_option maxRecDepth 1000000 in
theorem minif_hrc : Rows.fnMinifiedIsTheSameRow.recurses = Tryz.pinned.checked.prog.recurses 4 := by kernel_rfl
set_option maxRecDepth 1000000 in
theorem minif_hvs : Rows.fnMinifiedIsTheSameRow.named = Tryz.pinned.checked.prog.varsNamed 4 := by kernel_rfl
set_option maxRecDepth 1000000 in
theorem minif_hmp : Rows.fnMinifiedIsTheSameRow.maps = (Tryz.f4.params.toList ++ (OpenSpec.ofChange Rows.fnMinifiedIsTheSameSpec).bare.plain.varTypes Tryz.pinned.checked.prog).any (Tryz.pinned.checked.prog.mapsRec ·) := by kernel_rfl
set_option maxRecDepth 1000000 in
theorem minif_hif : Rows.fnMinifiedIsTheSameRow.ifaces = (Tryz.f4.params.toList ++ (OpenSpec.ofChange Rows.fnMinifiedIsTheSameSpec).bare.plain.varTypes Tryz.pinned.checked.prog).any (Tryz.pinned.checked.prog.ifacesRec ·) := by kernel_rfl
set_option maxRecDepth 1000000 in
theorem minif_hmo : Rows.fnMinifiedIsTheSameRow.mapsOut = Tryz.pinned.checked.prog.mapsAmong Tryz.f4.resultTypes.toList := by kernel_rfl
set_option maxRecDepth 1000000 in
theorem minif_hlo : Rows.fnMinifiedIsTheSameRow.loops = (Tryz.f4.params.toList ++ (OpenSpec.ofChange Rows.fnMinifiedIsTheSameSpec).bare.plain.varTypes Tryz.pinned.checked.prog).any (Tryz.pinned.checked.prog.loopsFrom ·) := by kernel_rfl
set_option maxRecDepth 1000000 in
theorem minif_hwk : Rows.fnMinifiedIsTheSameRow.wideKeys = (Tryz.f4.params.toList ++ (OpenSpec.ofChange Rows.fnMinifiedIsTheSameSpec).bare.plain.varTypes Tryz.pinned.checked.prog ++ Tryz.f4.resultTypes.toList).any (Tryz.pinned.checked.prog.wideKeysFrom ·) := by kernel_rfl
set_option maxRecDepth 1000000 in
theorem minif_hvars : ((OpenSpec.ofChange Rows.fnMinifiedIsTheSameSpec).vars.all fun n => Tryz.pinned.checked.prog.varReadable n) = true := by kernel_rfl
set_option maxRecDepth 1000000 in
theorem minif_hmain : Tryz.pinned.checked.prog.mainIs = some (Rows.fnMinifiedIsTheSameCard.stood.harness.1, Rows.fnMinifiedIsTheSameCard.stood.harness.2.toList) := by kernel_rfl
set_option maxRecDepth 1000000 in
theorem minif_hlooks : true = Tryz.pinned.checked.prog.looks [] := by kernel_rfl
set_option maxRecDepth 1000000 in
theorem minif_hfun : (Tryz.f4.params.toList.all fun t => !Tryz.pinned.checked.prog.wantsStandIn t) = true := by kernel_rfl
set_option maxRecDepth 1000000 in
theorem minif_hgoes : false = Rows.fnMinifiedIsTheSameRow.goesBy Tryz.pinned.checked.prog := by kernel_rfl
set_option maxRecDepth 1000000 in
theorem minif_h5 : Rows.fnMinifiedIsTheSameRow.moreEntering Tryz.pinned.checked.prog Tryz.f4 := OpenClaim.moreEntering_of (by kernel_rfl) (by kernel_rfl) (by kernel_rfl) (by kernel_rfl) (by kernel_rfl) (by kernel_rfl) (by kernel_rfl) (by kernel_rfl) (by kernel_rfl) (by kernel_rfl)
set_option maxRecDepth 1000000 in
theorem minif_hvl : Rows.fnMinifiedIsTheSameRow.veiled = (Tryz.f4.params.toList ++ (OpenSpec.ofChange Rows.fnMinifiedIsTheSameSpec).bare.plain.varTypes Tryz.pinned.checked.prog ++ Tryz.f4.resultTypes.toList).any (Tryz.pinned.checked.prog.veiledRec ·) ∧ Rows.fnMinifiedIsTheSameRow.veiledFits Tryz.pinned.checked.prog Tryz.f4.params.toList (Tryz.f4.params.toList ++ (OpenSpec.ofChange Rows.fnMinifiedIsTheSameSpec).bare.plain.varTypes Tryz.pinned.checked.prog ++ Tryz.f4.resultTypes.toList) = true := ⟨by kernel_rfl, by kernel_rfl⟩
set_option maxHeartbeats 8000000 in
set_option maxRecDepth 1000000 in
theorem minif_holds : Rows.FnMinifiedIsTheSameToldSaid :=
  Claim7.holds_of_told_tied_any_at .later 4 Tryz.f4 "fmt.Sprintf" [] [] Rows.fnMinifiedIsTheSameCard.stood.harness true false [.data, .data, .data, .data, .widerDeep, .pinned, .pinned] true minif_hw rfl rfl rfl laidOut minif_hmr rfl ⟨rfl, rfl, rfl, rfl, rfl, rfl, rfl⟩ rfl rfl minif_htie minif_hfn Tryz.func4 minif_hr
    minif_hinst minif_hwrap minif_stops.symm rfl minif_knobs.symm minif_hword
    minif_hin minif_hop minif_hrc minif_hvs minif_hmp minif_hif minif_hmo minif_hlo minif_hwk rfl minif_hvars rfl rfl
    rfl rfl
    rfl minif_hmain minif_hlooks minif_hfun (by decide) minif_hgoes fnMinifiedIsTheSame_row_tie
    minif_h5
    ⟨_, WideRow.started_initial, minif_quiet _⟩
    (fun os started _ H enc _ => minif_lifted os started H enc) minif_hvl
#print axioms minif_holds
end Go.Proofs.YtkfdcbdlcipmfaaGreatFmt
