/- The law on a rule: whatever the prelude, the name, the value and the two options, the call returns true and its arguments read as before. No condition beyond the row's own: the listed package-level variables hold what the program's text lays, and fmt's text is told. -/
import Derived.Test.YtkfdcbdlcipmfaaGreatFmtG44
import Derived.Test.YtkfdcbdlcipmfaaGreatFmtG50
import Derived.Test.YtkfdcbdlcipmfaaGreatFmtCards
import Derived.Test.YtkfdcbdlcipmfaaGreatFmtTie
import Derived.Stop.JoinedTold
import Derived.SizedLaws
import Derived.SevenTiedAt
import Derived.Carry
import Derived.Lay
set_option linter.unusedVariables false
set_option linter.unusedSimpArgs false
namespace Go.Proofs.YtkfdcbdlcipmfaaGreatFmt
open Go.RowKit Go.Lib Go.ChangeShapes Go.WideShapes Css
open Go.ChangeMaps (open_string shut_string)
theorem trodAll_five {H : Type} {enc : TypeId × Value → H} {P : Program} {w : World} {base : Nat} {spare : Nat → Bool} {held : Bool} {t t1 t2 t3 t4 : TypeId} {args : Array Value} {ds : List (DataW H)} {ps : List MemPlace} (h : DataW.TrodAll enc P w base spare held [t, t1, t2, t3, t4] args.toList ds ps) :
    ∃ v v1 v2 v3 v4 d d1 d2 d3 d4 p p1 p2 p3 p4, args = #[v, v1, v2, v3, v4] ∧ ds = [d, d1, d2, d3, d4] ∧ ps = p ++ (p1 ++ p2 ++ p3 ++ p4) ∧ DataW.Trod enc P w base spare held t v d p ∧ DataW.Trod enc P w base spare held t1 v1 d1 p1 ∧ DataW.Trod enc P w base spare held t2 v2 d2 p2 ∧ DataW.Trod enc P w base spare held t3 v3 d3 p3 ∧ DataW.Trod enc P w base spare held t4 v4 d4 p4 := by
  obtain ⟨v, vs, d, ds', p, q, hargs, rfl, rfl, hd, hrest⟩ := trodAll_cons h
  obtain ⟨v1, v2, v3, v4, d1, d2, d3, d4, p1, p2, p3, p4, e, rfl, rfl, h1, h2, h3, h4⟩ := trodAll_four (args := vs.toArray) hrest
  refine ⟨v, v1, v2, v3, v4, d, d1, d2, d3, d4, p, p1, p2, p3, p4, ?_, rfl, rfl, hd, h1, h2, h3, h4⟩
  cases args
  simp_all
theorem trodAll_mk5 {H : Type} {enc : TypeId × Value → H} {P : Program} {w : World} {base : Nat} {spare : Nat → Bool} {held : Bool} {t t1 t2 t3 t4 : TypeId} {v v1 v2 v3 v4 : Value} {d d1 d2 d3 d4 : DataW H} {p p1 p2 p3 p4 : List MemPlace} (h : DataW.Trod enc P w base spare held t v d p) (h1 : DataW.Trod enc P w base spare held t1 v1 d1 p1) (h2 : DataW.Trod enc P w base spare held t2 v2 d2 p2) (h3 : DataW.Trod enc P w base spare held t3 v3 d3 p3) (h4 : DataW.Trod enc P w base spare held t4 v4 d4 p4) :
    DataW.TrodAll enc P w base spare held [t, t1, t2, t3, t4] [v, v1, v2, v3, v4] [d, d1, d2, d3, d4] (p ++ (p1 ++ (p2 ++ (p3 ++ p4)))) := ⟨p, p1 ++ (p2 ++ (p3 ++ p4)), h, trodAll_mk4 h1 h2 h3 h4, rfl⟩
set_option maxHeartbeats 8000000 in
set_option maxRecDepth 1000000 in
theorem rule_witness (os : Os) (H : Type) (enc : TypeId × Value → H) (F : Go.Stop.Interp) : ∃ (w : World) (tape : Tape) (i : Input), w.os = os ∧ (w.forCall tape i).Shaped Tryz.checked.prog ∧ i.vars = [] ∧ Input.okWide Tryz.checked.prog (w.forCall tape i) .any w.heap.size 3 i ∧
      (OpenSpec.ofChange Rows.fnRuleIsReadSpec).preRow enc Tryz.checked.prog Tryz.f3 [] false LAID (w.forCall tape i).memory i.args ∧ ({} : Assume).holds Tryz.checked.prog (lone (Frame.enter Tryz.checked.prog 3 i.args .normal) [] (w.forCall tape i)) ∧ F.answers tape :=
  have hok : Input.okWideB Tryz.prog ((World.laidAll Tryz.prog os LAID).forCall (fun _ _ => 0) ⟨#[], #[.slice none 0 0, .string ⟨#[]⟩, .slice none 0 0, .bool false, .bool false], []⟩) 3 ⟨#[], #[.slice none 0 0, .string ⟨#[]⟩, .slice none 0 0, .bool false, .bool false], []⟩ = true := by kernel_rfl
  ⟨World.laidAll Tryz.prog os LAID, F.over fun _ _ => 0, ⟨#[], #[.slice none 0 0, .string ⟨#[]⟩, .slice none 0 0, .bool false, .bool false], []⟩, World.laidAll_os _ _ _,
    World.shaped_of_ZipB (w := (World.laidAll Tryz.prog os LAID).forCall (fun _ _ => 0) ⟨#[], #[.slice none 0 0, .string ⟨#[]⟩, .slice none 0 0, .bool false, .bool false], []⟩) (by kernel_rfl) (by kernel_rfl),
    (Input.okWide_of_okWideB (base := 0) hok).1, (Input.okWide_of_okWideB hok).2,
    OpenSpec.preRow_of_B rfl 3 (by kernel_rfl) (by kernel_rfl) (by rw [MakeChecks.laidMetH_plain _ _ _ (by kernel_rfl)]; exact laidMet_laidAll _ (by kernel_rfl) (by kernel_rfl)), by
    simp only [Assume.holds]
    exact ⟨by simp, by simp, fun _ => F.over_modest Modest.zero, by simp, by simp⟩, F.over_answers _⟩
set_option maxHeartbeats 8000000 in
set_option maxRecDepth 1000000 in
theorem rule_lifted (os : Os) (started : os.Started) (H : Type) (enc : TypeId × Value → H) :
    ReturnsInTold none {} Tryz.checked os 3 .any Input.okWide ((OpenSpec.ofChange Rows.fnRuleIsReadSpec).preRow enc Tryz.prog Tryz.f3 [] false LAID) (fun F => ((OpenSpec.ofChange Rows.fnRuleIsReadSpec).at F).post enc Tryz.prog Tryz.f3 false true false false) (aloneAtReturn Tryz.prog) nothingAlways := by
  refine returnsInTold_of_row (C := Tryz.checked) (s := OpenSpec.ofChange Rows.fnRuleIsReadSpec) (by kernel_rfl) ownKnobs started (by kernel_rfl) Tryz.func3 (fun F => rule_witness os H enc F) ?_
  · intro F W base args ds gs before _ hF hval0 hW _ _ hsz hL _
    have hval : ∀ (j : Nat) t v, Tryz.f3.params[j]? = some t → args[j]? = some v → Value.okWide Tryz.prog W .any base t v := hval0
    have hW' := hW
    obtain ⟨p, q, hA0, hV, rfl, hfz, hnd⟩ := hW
    have hA : DataW.TrodAll enc Tryz.prog W 0 (fun _ => true) true Tryz.f3.params.toList args.toList ds p := hA0
    rw [Tryz.params3] at hA hval
    obtain ⟨v0, v1, v2, v3, v4, d0, d1, d2, d3, d4, p0, p1, p2, p3, p4, rfl, rfl, rfl, h0, h1, h2, h3, h4⟩ := trodAll_five hA
    obtain ⟨rfl, rfl⟩ := trodVars_none hV
    obtain ⟨l, hns, hml, hm⟩ := open_nodes (hval 0 22 v0 rfl rfl) h0
    obtain ⟨nm, rfl, rfl, rfl, wnm⟩ := open_string Tryz.underlying9 (hval 1 9 v1 rfl rfl) h1
    obtain ⟨u, hnu, hmlu, hmu⟩ := open_nodes (hval 2 22 v2 rfl rfl) h2
    obtain ⟨b3, rfl, rfl, rfl⟩ := open_bool Tryz.underlying4 (hval 3 4 v3 rfl rfl) h3
    obtain ⟨b4, rfl, rfl, rfl⟩ := open_bool Tryz.underlying4 (hval 4 4 v4 rfl rfl) h4
    rw [MakeChecks.laidMetH_plain _ _ _ (by kernel_rfl)] at hL
    have hE : Env F W W := ⟨env0_of_laid hL hF, fun _ _ => rfl, Nat.le_refl _, rfl⟩
    refine (law3_any (F := F) (W0 := W) nm wnm v0 v2 l u hm hml hmu hmlu b3 b4 W hE hns hnu).mono fun e W' ⟨he, hb⟩ => ?_
    subst he
    have hlt : ∀ x ∈ p0, x.block < W.heap.size := fun x hx => hW'.lt x (by simp [hx])
    have hlt2 : ∀ x ∈ p2, x.block < W.heap.size := fun x hx => hW'.lt x (by simp [hx])
    refine ⟨_, rfl, _, _, _, [], p0 ++ p2, [], hW', ?_, ?_, rfl, hb.frame _, fun h => by cases h⟩
    · exact trodAll_mk1 (shut_bool Tryz.underlying4 _)
    · have := trodAll_mk5 (Below.trod laidOut (by kernel_rfl) (of_decide_eq_true (by kernel_rfl)) h0 hb hlt) (shut_string (enc := enc) (P := Tryz.prog) (w := W') (base := 0) (sp := fun b => decide (b < W.heap.size)) (held := true) Tryz.underlying9 wnm) (Below.trod laidOut (by kernel_rfl) (of_decide_eq_true (by kernel_rfl)) h2 hb hlt2) (shut_bool Tryz.underlying4 b3) (shut_bool Tryz.underlying4 b4)
      simp only [List.nil_append, List.append_nil] at this
      exact this
end Go.Proofs.YtkfdcbdlcipmfaaGreatFmt
