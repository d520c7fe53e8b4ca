/- The law on an at-rule with whitespace where it must be: whatever the name, the tree and the two options, the call returns true and its arguments read as before. No condition beyond the row's own: the listed package-level variables hold what the program's text lays, and fmt's text is told. -/
import Derived.Test.YtkfdcbdlcipmfaaGreatFmtH47
import Derived.Test.YtkfdcbdlcipmfaaGreatFmtH43
import Derived.Test.YtkfdcbdlcipmfaaGreatFmtCards
import Derived.Test.YtkfdcbdlcipmfaaGreatFmtTie
import Derived.Stop.JoinedTold
import Derived.SizedLaws
import Derived.SevenTiedAt
import Derived.Carry
import Derived.Lay
set_option linter.unusedVariables false
set_option linter.unusedSimpArgs false
namespace Go.Proofs.YtkfdcbdlcipmfaaGreatFmt
open Go.RowKit Go.Lib Go.ChangeShapes Go.WideShapes Css
open Go.ChangeMaps (open_string shut_string)
set_option maxHeartbeats 8000000 in
set_option maxRecDepth 1000000 in
theorem tight_witness (os : Os) (H : Type) (enc : TypeId × Value → H) (F : Go.Stop.Interp) : ∃ (w : World) (tape : Tape) (i : Input), w.os = os ∧ (w.forCall tape i).Shaped Tryz.checked.prog ∧ i.vars = [] ∧ Input.okWide Tryz.checked.prog (w.forCall tape i) .any w.heap.size 6 i ∧
      (OpenSpec.ofChange Rows.fnTightAtIsReadSpec).preRow enc Tryz.checked.prog Tryz.f6 [] false LAID (w.forCall tape i).memory i.args ∧ ({} : Assume).holds Tryz.checked.prog (lone (Frame.enter Tryz.checked.prog 6 i.args .normal) [] (w.forCall tape i)) ∧ F.answers tape :=
  have hok : Input.okWideB Tryz.prog ((World.laidAll Tryz.prog os LAID).forCall (fun _ _ => 0) ⟨#[], #[.string ⟨#[]⟩, .slice none 0 0, .bool false, .bool false], []⟩) 6 ⟨#[], #[.string ⟨#[]⟩, .slice none 0 0, .bool false, .bool false], []⟩ = true := by kernel_rfl
  ⟨World.laidAll Tryz.prog os LAID, F.over fun _ _ => 0, ⟨#[], #[.string ⟨#[]⟩, .slice none 0 0, .bool false, .bool false], []⟩, World.laidAll_os _ _ _,
    World.shaped_of_ZipB (w := (World.laidAll Tryz.prog os LAID).forCall (fun _ _ => 0) ⟨#[], #[.string ⟨#[]⟩, .slice none 0 0, .bool false, .bool false], []⟩) (by kernel_rfl) (by kernel_rfl),
    (Input.okWide_of_okWideB (base := 0) hok).1, (Input.okWide_of_okWideB hok).2,
    OpenSpec.preRow_of_B rfl 8 (by kernel_rfl) (by kernel_rfl) (by rw [MakeChecks.laidMetH_plain _ _ _ (by kernel_rfl)]; exact laidMet_laidAll _ (by kernel_rfl) (by kernel_rfl)), by
    simp only [Assume.holds]
    exact ⟨by simp, by simp, fun _ => F.over_modest Modest.zero, by simp, by simp⟩, F.over_answers _⟩
set_option maxHeartbeats 8000000 in
set_option maxRecDepth 1000000 in
theorem tight_lifted (os : Os) (started : os.Started) (H : Type) (enc : TypeId × Value → H) :
    ReturnsInTold none {} Tryz.checked os 6 .any Input.okWide ((OpenSpec.ofChange Rows.fnTightAtIsReadSpec).preRow enc Tryz.prog Tryz.f6 [] false LAID) (fun F => ((OpenSpec.ofChange Rows.fnTightAtIsReadSpec).at F).post enc Tryz.prog Tryz.f6 false true false false) (aloneAtReturn Tryz.prog) nothingAlways := by
  refine returnsInTold_of_row (C := Tryz.checked) (s := OpenSpec.ofChange Rows.fnTightAtIsReadSpec) (by kernel_rfl) ownKnobs started (by kernel_rfl) Tryz.func6 (fun F => tight_witness os H enc F) ?_
  · intro F W base args ds gs before _ hF hval0 hW _ _ hsz hL _
    have hval : ∀ (j : Nat) t v, Tryz.f6.params[j]? = some t → args[j]? = some v → Value.okWide Tryz.prog W .any base t v := hval0
    have hW' := hW
    obtain ⟨p, q, hA0, hV, rfl, hfz, hnd⟩ := hW
    have hA : DataW.TrodAll enc Tryz.prog W 0 (fun _ => true) true Tryz.f6.params.toList args.toList ds p := hA0
    rw [Tryz.params6] at hA hval
    obtain ⟨v0, v1, v2, v3, d0, d1, d2, d3, p0, p1, p2, p3, rfl, rfl, rfl, h0, h1, h2, h3⟩ := trodAll_four hA
    obtain ⟨rfl, rfl⟩ := trodVars_none hV
    obtain ⟨nm, rfl, rfl, rfl, wnm⟩ := open_string Tryz.underlying9 (hval 0 9 v0 rfl rfl) h0
    obtain ⟨l, hns, hml, hm⟩ := open_nodes (hval 1 22 v1 rfl rfl) h1
    obtain ⟨b2, rfl, rfl, rfl⟩ := open_bool Tryz.underlying4 (hval 2 4 v2 rfl rfl) h2
    obtain ⟨b3, rfl, rfl, rfl⟩ := open_bool Tryz.underlying4 (hval 3 4 v3 rfl rfl) h3
    rw [MakeChecks.laidMetH_plain _ _ _ (by kernel_rfl)] at hL
    have hE : Env F W W := ⟨env0_of_laid hL hF, fun _ _ => rfl, Nat.le_refl _, rfl⟩
    refine (law6_any (F := F) (W0 := W) nm wnm v1 l hm hml b2 b3 W hE hns).mono fun e W' ⟨he, hb⟩ => ?_
    subst he
    have hlt : ∀ x ∈ p1, x.block < W.heap.size := fun x hx => hW'.lt x (by simp [hx])
    refine ⟨_, rfl, _, _, _, [], p1, [], hW', ?_, ?_, rfl, hb.frame _, fun h => by cases h⟩
    · exact trodAll_mk1 (shut_bool Tryz.underlying4 _)
    · have := trodAll_mk4 (shut_string (enc := enc) (P := Tryz.prog) (w := W') (base := 0) (sp := fun b => decide (b < W.heap.size)) (held := true) Tryz.underlying9 wnm) (Below.trod laidOut (by kernel_rfl) (of_decide_eq_true (by kernel_rfl)) h1 hb hlt) (shut_bool Tryz.underlying4 b2) (shut_bool Tryz.underlying4 b3)
      rw [List.nil_append, List.append_nil, List.append_nil] at this
      exact this
end Go.Proofs.YtkfdcbdlcipmfaaGreatFmt
