/- The statement on FnRuleIsRead: for every input the call returns true and its arguments read behind it as before; the listed package-level variables hold what the program's text lays (tied), and fmt's text is told. No other condition. -/
import Derived.Test.YtkfdcbdlcipmfaaGreatFmtG51
set_option linter.unusedVariables false
set_option linter.unusedSimpArgs false
namespace Go.Proofs.YtkfdcbdlcipmfaaGreatFmt
theorem rule_stops : Tryz.pinned.checked.prog.stops = ["fmt.Sprintf"] := by kernel_rfl
theorem rule_knobs : Tryz.pinned.checked.prog.stopKnobs = [] := by kernel_rfl
theorem rule_quiet (os : Os) : Stop.quiet Tryz.pinned.checked.prog os := by
  intro k hk
  rw [rule_knobs] at hk
  cases hk
set_option maxRecDepth 1000000 in
theorem rule_hw : Rows.fnRuleIsReadRow.wfByText (OpenSpec.ofChange Rows.fnRuleIsReadSpec) = true := by kernel_rfl
set_option maxRecDepth 1000000 in
theorem rule_hmr : mapsRowed Tryz.pinned.checked.prog = true := by kernel_rfl
set_option maxRecDepth 1000000 in
theorem rule_htie : namedTie Tryz.pinned.checked.prog Rows.fnRuleIsReadRow.namedList (OpenSpec.ofChange Rows.fnRuleIsReadSpec).vars = true := by kernel_rfl
set_option maxRecDepth 1000000 in
theorem rule_hfn : Tryz.pinned.checked.prog.funcNamed Rows.fnRuleIsReadRow.func = some 3 := by kernel_rfl
set_option maxRecDepth 1000000 in
theorem rule_hr : (Tryz.f3.params.toList.all fun t => Tryz.pinned.checked.prog.readableRec t) = true := by kernel_rfl
set_option maxRecDepth 1000000 in
theorem rule_hinst : Tryz.f3.isInstance Tryz.pinned.checked.prog Rows.fnRuleIsReadRow.origin Rows.fnRuleIsReadRow.targs := of_decide_eq_true (by kernel_rfl)
set_option maxRecDepth 1000000 in
theorem rule_hwrap : Tryz.f3.isWrapper Tryz.pinned.checked.prog Rows.fnRuleIsReadRow.wrapper Rows.fnRuleIsReadRow.mainSum := of_decide_eq_true (by kernel_rfl)
set_option maxRecDepth 1000000 in
theorem rule_hword : Tryz.pinned.checked.prog.envWorded = true := by kernel_rfl
set_option maxRecDepth 1000000 in
theorem rule_hin : Rows.fnRuleIsReadRow.inPlace = Tryz.pinned.checked.prog.inPlace 3 := by kernel_rfl
set_option maxRecDepth 1000000 in
theorem rule_hop : Rows.fnRuleIsReadRow.unfollowed = Tryz.pinned.checked.prog.unfollowed 3 := by kernel_rfl
set_option maxRecDepth 1000000 in
theorem rule_hrc : Rows.fnRuleIsReadRow.recurses = Tryz.pinned.checked.prog.recurses 3 := by kernel_rfl
set_option maxRecDepth 1000000 in
theorem rule_hvs : Rows.fnRuleIsReadRow.named = Tryz.pinned.checked.prog.varsNamed 3 := by kernel_rfl
set_option maxRecDepth 1000000 in
theorem rule_hmp : Rows.fnRuleIsReadRow.maps = (Tryz.f3.params.toList ++ (OpenSpec.ofChange Rows.fnRuleIsReadSpec).bare.plain.varTypes Tryz.pinned.checked.prog).any (Tryz.pinned.checked.prog.mapsRec ·) := by kernel_rfl
set_option maxRecDepth 1000000 in
theorem rule_hif : Rows.fnRuleIsReadRow.ifaces = (Tryz.f3.params.toList ++ (OpenSpec.ofChange Rows.fnRuleIsReadSpec).bare.plain.varTypes Tryz.pinned.checked.prog).any (Tryz.pinned.checked.prog.ifacesRec ·) := by kernel_rfl
set_option maxRecDepth 1000000 in
theorem rule_hmo : Rows.fnRuleIsReadRow.mapsOut = Tryz.pinned.checked.prog.mapsAmong Tryz.f3.resultTypes.toList := by kernel_rfl
set_option maxRecDepth 1000000 in
theorem rule_hlo : Rows.fnRuleIsReadRow.loops = (Tryz.f3.params.toList ++ (OpenSpec.ofChange Rows.fnRuleIsReadSpec).bare.plain.varTypes Tryz.pinned.checked.prog).any (Tryz.pinned.checked.prog.loopsFrom ·) := by kernel_rfl
set_option maxRecDepth 1000000 in
theorem rule_hwk : Rows.fnRuleIsReadRow.wideKeys = (Tryz.f3.params.toList ++ (OpenSpec.ofChange Rows.fnRuleIsReadSpec).bare.plain.varTypes Tryz.pinned.checked.prog ++ Tryz.f3.resultTypes.toList).any (Tryz.pinned.checked.prog.wideKeysFrom ·) := by kernel_rfl
set_option maxRecDepth 1000000 in
theorem rule_hvars : ((OpenSpec.ofChange Rows.fnRuleIsReadSpec).vars.all fun n => Tryz.pinned.checked.prog.varReadable n) = true := by kernel_rfl
set_option maxRecDepth 1000000 in
theorem rule_hmain : Tryz.pinned.checked.prog.mainIs = some (Rows.fnRuleIsReadCard.stood.harness.1, Rows.fnRuleIsReadCard.stood.harness.2.toList) := by kernel_rfl
set_option maxRecDepth 1000000 in
theorem rule_hlooks : true = Tryz.pinned.checked.prog.looks [] := by kernel_rfl
set_option maxRecDepth 1000000 in
theorem rule_hfun : (Tryz.f3.params.toList.all fun t => !Tryz.pinned.checked.prog.wantsStandIn t) = true := by kernel_rfl
set_option maxRecDepth 1000000 in
theorem rule_hgoes : false = Rows.fnRuleIsReadRow.goesBy Tryz.pinned.checked.prog := by kernel_rfl
set_option maxRecDepth 1000000 in
theorem rule_h5 : Rows.fnRuleIsReadRow.moreEntering Tryz.pinned.checked.prog Tryz.f3 := OpenClaim.moreEntering_of (by kernel_rfl) (by kernel_rfl) (by kernel_rfl) (by kernel_rfl) (by kernel_rfl) (by kernel_rfl) (by kernel_rfl) (by kernel_rfl) (by kernel_rfl) (by kernel_rfl)
set_option maxRecDepth 1000000 in
theorem rule_hvl : Rows.fnRuleIsReadRow.veiled = (Tryz.f3.params.toList ++ (OpenSpec.ofChange Rows.fnRuleIsReadSpec).bare.plain.varTypes Tryz.pinned.checked.prog ++ Tryz.f3.resultTypes.toList).any (Tryz.pinned.checked.prog.veiledRec ·) ∧ Rows.fnRuleIsReadRow.veiledFits Tryz.pinned.checked.prog Tryz.f3.params.toList (Tryz.f3.params.toList ++ (OpenSpec.ofChange Rows.fnRuleIsReadSpec).bare.plain.varTypes Tryz.pinned.checked.prog ++ Tryz.f3.resultTypes.toList) = true := ⟨by kernel_rfl, by kernel_rfl⟩
set_option maxHeartbeats 8000000 in
set_option maxRecDepth 1000000 in
theorem rule_holds : Rows.FnRuleIsReadToldSaid :=
  Claim7.holds_of_told_tied_any_at .later 3 Tryz.f3 "fmt.Sprintf" [] [] Rows.fnRuleIsReadCard.stood.harness true false [.data, .data, .data, .data, .widerDeep, .pinned, .pinned] true rule_hw rfl rfl rfl laidOut rule_hmr rfl ⟨rfl, rfl, rfl, rfl, rfl, rfl, rfl⟩ rfl rfl rule_htie rule_hfn Tryz.func3 rule_hr
    rule_hinst rule_hwrap rule_stops.symm rfl rule_knobs.symm rule_hword
    rule_hin rule_hop rule_hrc rule_hvs rule_hmp rule_hif rule_hmo rule_hlo rule_hwk rfl rule_hvars rfl rfl
    rfl rfl
    rfl rule_hmain rule_hlooks rule_hfun (by decide) rule_hgoes fnRuleIsRead_row_tie
    rule_h5
    ⟨_, WideRow.started_initial, rule_quiet _⟩
    (fun os started _ H enc _ => rule_lifted os started H enc) rule_hvl
#print axioms rule_holds
end Go.Proofs.YtkfdcbdlcipmfaaGreatFmt
