/- Walks: the law on an at-rule with whitespace behind each token. -/
import Derived.Test.YtkfdcbdlcipmfaaGreatFmtH35
import Derived.Test.YtkfdcbdlcipmfaaGreatFmtH38
set_option linter.unusedVariables false
set_option linter.unusedSimpArgs false
namespace Go.Proofs.YtkfdcbdlcipmfaaGreatFmt
open Go.RowKit Css
variable {F : Go.Stop.Interp} {W0 w w' : World}
set_option maxHeartbeats 16000000 in
set_option maxRecDepth 100000 in
theorem law5_any (nm : ByteArray) (hnm : nm.size ≤ maxLen) (v : Value) (l : List RN) (hm : ∀ n ∈ l, n.text.length ≤ maxLen) (hml : l.length ≤ maxLen) (mini asc : Bool) (w : World) (hE : Env F W0 w) (hn : NodesS v l w) : Calls Tryz.prog 5 #[.string nm, v, .bool mini, .bool asc] w (RetBW true w) := by
  obtain ⟨A, c, rfl, _⟩ := hn.form
  have HE := Lib.hid hE
  have HN := Lib.hid hn
  have HM := Lib.hid hm
  have HML := Lib.hid hml
  have hb0 : (nm.size : Int) ≤ 9223372036854775807 := by unfold maxLen at hnm; omega
  have hb1 : (l.length : Int) ≤ 9223372036854775807 := by unfold maxLen at hml; omega
  have HWK : Hid (∀ w1, Below w.heap.size w w1 → Calls Tryz.prog 13 #[] w1 (RetBW true w1)) := fun w1 hb => wakes_any (F := F) (W0 := W0) w1 (HE.out.below hb)
  clear hE hn hm hml hnm
  rename World => w0
  by_cases hz : (2147483647 : Int) < (nm.size : Int)
  · go_enter Tryz.func5, Tryz.ntmps5
    go_wp2_with fail
    go_ret
    exact RetBW.mk' rfl (Below.refl _ _)
  · have hz2 : (nm.size : Int) ≤ 2147483647 := by omega
    clear hz
    cases hf : fitsB l
    · have HF := Lib.hid hf
      clear hf
      go_enter Tryz.func5, Tryz.ntmps5
      go_wp2_with (go_at_call 10; go_must (refine (fits1_off _ l HM.out HML.out _ HN.out).mono ?_; rw [HF.out]; rintro e w1 ⟨rfl, hb⟩; have HB1 := Lib.hid hb; clear hb))
      go_ret
      exact RetBW.mk' rfl HB1.out
    · have HF := Lib.hid hf
      have HLT : Hid (l.length ≤ 2147483647 ∧ ∀ n ∈ l, n.text.length ≤ 2147483647) := by
        unfold fitsB at hf
        simp only [Bool.and_eq_true, decide_eq_true_eq, List.all_eq_true] at hf
        refine ⟨hf.1, fun n hn => ?_⟩
        have := hf.2 n hn
        unfold fitB at this
        simpa using this
      clear hf
      cases hnb : namedB nm.data.toList asc
      · have HNB := Lib.hid hnb
        clear hnb
        go_enter Tryz.func5, Tryz.ntmps5
        go_wp2_with (first | (go_at_call 10; go_must (refine (fits1_off _ l HM.out HML.out _ HN.out).mono ?_; rw [HF.out]; rintro e w1 ⟨rfl, hb⟩; have HB1 := Lib.hid hb; clear hb)) | (go_at_call 11; go_must (refine (tree_off true asc _ l HLT.out.1 HLT.out.2 (fun hl _ v w h => set_all v l hl w h) _ (HN.out.below HB1.out)).mono ?_; rintro e w2 ⟨hb2, ⟨hok, v2, rfl, ho2⟩ | ⟨hok, rfl⟩⟩ <;> (have HB2 := Lib.hid (below_then HB1.out hb2); have HOK := Lib.hid hok; clear hb2 hok); (try (have HO2 := Lib.hid ho2; obtain ⟨A2, c2, hv2⟩ := own_slice ho2; subst hv2; clear ho2)))) | (go_at_call 12; go_must (refine (named2_any nm hz2 asc _).mono ?_; rw [HNB.out]; rintro e w3 ⟨rfl, rfl⟩)) | (go_at_call 13; go_must (refine (HWK.out _ HB2.out).mono ?_; rintro e w9 ⟨hr9, hb9⟩; have hr9' := hr9; subst hr9'; have HB9 := Lib.hid (below_then HB2.out hb9); clear hb9 hr9)))
        all_goals
          go_ret
          exact RetBW.mk' rfl HB9.out
      · have HNB := Lib.hid hnb
        have HNM : Hid (nm.data.toList.length ≤ 1048576 ∧ isNameB nm.data.toList = true ∧ lowB nm.data.toList asc = true) := by
          unfold namedB at hnb
          simp only [Bool.and_eq_true, decide_eq_true_eq] at hnb
          exact ⟨hnb.1.1, hnb.1.2, hnb.2⟩
        clear hnb
        go_enter Tryz.func5, Tryz.ntmps5
        go_upto_region 6 with (first | (go_at_call 10; go_must (refine (fits1_off _ l HM.out HML.out _ HN.out).mono ?_; rw [HF.out]; rintro e w1 ⟨rfl, hb⟩; have HB1 := Lib.hid hb; clear hb)) | (go_at_call 11; go_must (refine (tree_off true asc _ l HLT.out.1 HLT.out.2 (fun hl _ v w h => set_all v l hl w h) _ (HN.out.below HB1.out)).mono ?_; rintro e w2 ⟨hb2, ⟨hok, v2, rfl, ho2⟩ | ⟨hok, rfl⟩⟩ <;> (have HB2 := Lib.hid (below_then HB1.out hb2); have HOK := Lib.hid hok; clear hb2 hok); (try (have HO2 := Lib.hid ho2; obtain ⟨A2, c2, hv2⟩ := own_slice ho2; subst hv2; clear ho2)))) | (go_at_call 12; go_must (refine (named2_any nm hz2 asc _).mono ?_; rw [HNB.out]; rintro e w3 ⟨rfl, rfl⟩)) | (go_at_call 13; go_must (refine (HWK.out _ HB2.out).mono ?_; rintro e w9 ⟨hr9, hb9⟩; have hr9' := hr9; subst hr9'; have HB9 := Lib.hid (below_then HB2.out hb9); clear hb9 hr9)))
        · have HIT := Lib.hid (treeOk_in HOK.out)
          have HIS := Lib.hid ((treeOk_in HOK.out).set true)
          have hoL : w2.ownsRow w1.heap.size 45 6 (.slice A2 l.length c2) (setR true l).length (nRow (setR true l)) := by rw [setR_len]; exact HO2.out
          have HNA := Lib.hid (own_nodes hoL)
          have hcap : ∀ A k c, (Value.slice A2 l.length c2) = .slice A k c → k ≤ c := by
            intro A k c e
            injection e with e1 e2 e3
            subst e2
            subst e3
            rcases HO2.out.2 with ⟨h0, h1⟩ | ⟨q, cap, cur, hv, _, _, hlt, _⟩
            · omega
            · injection hv with _ _ e4
              omega
          have HNS := Lib.hid ((own_nodes hoL).toS hcap)
          have HNK := Lib.hid (nodeK_of HIS.out)
          have HL := Lib.hid (show (setR true l).length ≤ 1000 from HIS.out.many)
          have HD : Hid (∀ n ∈ setR true l, 0 ≤ n.depth ∧ n.depth ≤ 1000) := fun n hn => ⟨(HNK.out n hn).depth.1, by have := HIS.out.deep n hn; omega⟩
          have HDN := Lib.hid (dec_nil_iff HNM.out.2.1)
          have HGD := Lib.hid (low_good HDN.out.2 HNM.out.2.2)
          have HCS : Hid ((dec nm.data.toList).length ≤ 1048576) := by
            have := dec_len_le nm.data.toList HDN.out.2
            exact Nat.le_trans this HNM.out.1
          have HOKT : Hid (∀ ts, Parse 0 ((setR true l).map RN.cp) ts [] → OKl asc ts ∧ cost ts ≤ 134217728) := fun ts hp => ⟨set_okl HIT.out.good hp, in_cost HIS.out hp⟩
          have HITL : Hid (∀ x ∈ atR nm.data.toList (setR true l), x.text.length ≤ 2147483647) := by
            intro x hx
            simp only [atR, List.mem_cons, List.mem_append, List.not_mem_nil, or_false] at hx
            rcases hx with rfl | hx | rfl
            · have := HNM.out.1; show nm.data.toList.length ≤ _; omega
            · have h1 := items_text hx
              have h2 := HIS.out.size
              omega
            · decide
          clear hoL hcap
          go_wp2_with (first
            | (go_at_call 19; go_must (refine (At_any (F := F) (W0 := W0) mini asc nm (dec nm.data.toList) (okDec_val HDN.out.2).1.symm (good_v HGD.out) (good_l HGD.out) (by omega) (setR true l) _ HL.out HNK.out HOKT.out _ (HE.out.below HB2.out) HNS.out).mono ?_; rintro e w3 ⟨s, ts, cl, rfl, hp, hpr, hcl, hs, hb3⟩; have HS3 : Hid (Parse 0 ((setR true l).map RN.cp) ts [] ∧ Prints asc ts (headBefore ts) cl ∧ (enc (flat cl)).length ≤ cost ts + 1 ∧ s.data.toList = enc (flat (atCh asc mini (dec nm.data.toList) ts cl))) := ⟨hp, hpr, hcl, hs⟩; have HB3 := Lib.hid (below_then HB2.out hb3); have HNA3 := Lib.hid (HNA.out.below hb3); clear hp hpr hcl hs hb3))
            | (go_at_call 21; go_must (refine (at_any nm _ (setR true l) HL.out HD.out _ HNA3.out).mono ?_; rintro e w4 ⟨v4, rfl, ho4, hb4⟩; have HI4 := Lib.hid (own_items ho4); have HB4 := Lib.hid (below_then HB3.out hb4); clear ho4 hb4))
            | (go_at_call 17; go_must (refine (holds_ready HS3.out.2.2.2 (at_len (good_v HGD.out) HCS.out (HOKT.out ts HS3.out.1).2 HS3.out.2.2.1 HS3.out.2.2.2) (at_final HIT.out.good HNM.out.2.1 HNM.out.2.2 HS3.out.1 HS3.out.2.1).1 (at_final (mini := mini) HIT.out.good HNM.out.2.1 HNM.out.2.2 HS3.out.1 HS3.out.2.1).2.1 (at_final (mini := mini) HIT.out.good HNM.out.2.1 HNM.out.2.2 HS3.out.1 HS3.out.2.1).2.2 HITL.out false _ _ HI4.out).mono ?_; rintro e w5 ⟨hr5, hb5⟩; have hr5' := hr5; subst hr5'; have HB5 := Lib.hid (below_then HB4.out hb5); clear hb5 hr5))
            | (go_at_call 13; go_must (refine (HWK.out _ HB5.out).mono ?_; rintro e w9 ⟨hr9, hb9⟩; have hr9' := hr9; subst hr9'; have HB9 := Lib.hid (below_then HB5.out hb9); clear hb9 hr9)))
          go_ret
          exact RetBW.mk' rfl HB9.out
        · go_ret
          exact RetBW.mk' rfl HB9.out
end Go.Proofs.YtkfdcbdlcipmfaaGreatFmt
