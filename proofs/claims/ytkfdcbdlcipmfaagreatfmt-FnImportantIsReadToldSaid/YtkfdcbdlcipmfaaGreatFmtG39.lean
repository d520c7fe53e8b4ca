/- Walks: the law on an important declaration. -/
import Derived.Test.YtkfdcbdlcipmfaaGreatFmtG32
import Derived.Test.YtkfdcbdlcipmfaaGreatFmtG36
import Derived.Test.YtkfdcbdlcipmfaaGreatFmtG37
import Derived.Test.YtkfdcbdlcipmfaaGreatFmtG34
import Derived.Test.YtkfdcbdlcipmfaaGreatFmtG38
set_option linter.unusedVariables false
set_option linter.unusedSimpArgs false
namespace Go.Proofs.YtkfdcbdlcipmfaaGreatFmt
open Go.RowKit Css
variable {F : Go.Stop.Interp} {W0 w w' : World}
theorem own_cap {w : World} {B n c : Nat} {e : TypeId} {size : Nat} {A : Option Addr} {xs : List Value} (h : w.ownsRow B e size (.slice A n c) n xs) : n ≤ c := by
  rcases h.2 with ⟨h1, _⟩ | ⟨g, cap, cur, hv, hg, hh, h3, _⟩
  · injection h1 with _ e1 e2; omega
  · injection hv with _ _ e3; omega
/-- The items of a declaration ahead of its end. -/
def impFront (key : List UInt8) (l : List RN) : List RIt := nameR 29 key :: signR 9 58 :: itemsR l
theorem imp_front (key : List UInt8) (l : List RN) : declR key l false true [] = impFront key l ++ [signR 35 59] := by unfold declR impFront; simp
theorem imp_items (key : List UInt8) (l : List RN) : declR key l true true [] = impFront key l ++ [signR 19 33, nameR 29 [105, 109, 112, 111, 114, 116, 97, 110, 116], signR 35 59] := by unfold declR impFront; simp
set_option maxHeartbeats 16000000 in
set_option maxRecDepth 100000 in
theorem law8_any (nm : ByteArray) (hnm : nm.size ≤ maxLen) (v : Value) (l : List RN) (hm : ∀ n ∈ l, n.text.length ≤ maxLen) (hml : l.length ≤ maxLen) (mini asc : Bool) (w : World) (hE : Env F W0 w) (hn : NodesS v l w) : Calls Tryz.prog 8 #[.string nm, v, .bool mini, .bool asc] w (RetBW true w) := by
  obtain ⟨A, c, rfl, _⟩ := hn.form
  have HE := Lib.hid hE
  have HN := Lib.hid hn
  have HM := Lib.hid hm
  have HML := Lib.hid hml
  have hb0 : (nm.size : Int) ≤ 9223372036854775807 := by unfold maxLen at hnm; omega
  have hb1 : (l.length : Int) ≤ 9223372036854775807 := by unfold maxLen at hml; omega
  have HWK : Hid (∀ w1, Below w.heap.size w w1 → Calls Tryz.prog 13 #[] w1 (RetBW true w1)) := fun w1 hb => wakes_any (F := F) (W0 := W0) w1 (HE.out.below hb)
  clear hE hn hm hml hnm
  rename World => w0
  by_cases hz : (2147483647 : Int) < (nm.size : Int)
  · go_enter Tryz.func8, Tryz.ntmps8
    go_wp2_with fail
    go_ret
    exact RetBW.mk' rfl (Below.refl _ _)
  · have hz2 : (nm.size : Int) ≤ 2147483647 := by omega
    clear hz
    cases hf : fitsB l
    · have HF := Lib.hid hf
      clear hf
      go_enter Tryz.func8, Tryz.ntmps8
      go_wp2_with (go_at_call 10; go_must (refine (fits1_off _ l HM.out HML.out _ HN.out).mono ?_; rw [HF.out]; rintro e w1 ⟨rfl, hb⟩; have HB1 := Lib.hid hb; clear hb))
      go_ret
      exact RetBW.mk' rfl HB1.out
    · have HF := Lib.hid hf
      have HLT : Hid (l.length ≤ 2147483647 ∧ ∀ n ∈ l, n.text.length ≤ 2147483647) := by
        unfold fitsB at hf
        simp only [Bool.and_eq_true, decide_eq_true_eq, List.all_eq_true] at hf
        refine ⟨hf.1, fun n hn => ?_⟩
        have := hf.2 n hn
        unfold fitB at this
        simpa using this
      clear hf
      cases hnb : namedB nm.data.toList asc
      · have HNB := Lib.hid hnb
        clear hnb
        go_enter Tryz.func8, Tryz.ntmps8
        go_wp2_with (first | (go_at_call 10; go_must (refine (fits1_off _ l HM.out HML.out _ HN.out).mono ?_; rw [HF.out]; rintro e w1 ⟨rfl, hb⟩; have HB1 := Lib.hid hb; clear hb)) | (go_at_call 11; go_must (refine (tree_off true asc _ l HLT.out.1 HLT.out.2 (fun hl _ v w h => set_all v l hl w h) _ (HN.out.below HB1.out)).mono ?_; rintro e w2 ⟨hb2, ⟨hok, v2, rfl, ho2⟩ | ⟨hok, rfl⟩⟩ <;> (have HB2 := Lib.hid (below_then HB1.out hb2); have HOK := Lib.hid hok; clear hb2 hok); (try (have HO2 := Lib.hid ho2; obtain ⟨A2, c2, hv2⟩ := own_slice ho2; subst hv2; clear ho2)))) | (go_at_call 12; go_must (refine (named2_any nm hz2 asc _).mono ?_; rw [HNB.out]; rintro e w3 ⟨rfl, rfl⟩)) | (go_at_call 13; go_must (refine (HWK.out _ HB2.out).mono ?_; rintro e w9 ⟨hr9, hb9⟩; have hr9' := hr9; subst hr9'; have HB9 := Lib.hid (below_then HB2.out hb9); clear hb9 hr9)))
        all_goals
          go_ret
          exact RetBW.mk' rfl HB9.out
      · have HNB := Lib.hid hnb
        have HNM : Hid (nm.data.toList.length ≤ 1048576 ∧ isNameB nm.data.toList = true ∧ lowB nm.data.toList asc = true) := by
          unfold namedB at hnb
          simp only [Bool.and_eq_true, decide_eq_true_eq] at hnb
          exact ⟨hnb.1.1, hnb.1.2, hnb.2⟩
        clear hnb
        go_enter Tryz.func8, Tryz.ntmps8
        go_upto_region 6 with (first | (go_at_call 10; go_must (refine (fits1_off _ l HM.out HML.out _ HN.out).mono ?_; rw [HF.out]; rintro e w1 ⟨rfl, hb⟩; have HB1 := Lib.hid hb; clear hb)) | (go_at_call 11; go_must (refine (tree_off true asc _ l HLT.out.1 HLT.out.2 (fun hl _ v w h => set_all v l hl w h) _ (HN.out.below HB1.out)).mono ?_; rintro e w2 ⟨hb2, ⟨hok, v2, rfl, ho2⟩ | ⟨hok, rfl⟩⟩ <;> (have HB2 := Lib.hid (below_then HB1.out hb2); have HOK := Lib.hid hok; clear hb2 hok); (try (have HO2 := Lib.hid ho2; obtain ⟨A2, c2, hv2⟩ := own_slice ho2; subst hv2; clear ho2)))) | (go_at_call 12; go_must (refine (named2_any nm hz2 asc _).mono ?_; rw [HNB.out]; rintro e w3 ⟨rfl, rfl⟩)) | (go_at_call 13; go_must (refine (HWK.out _ HB2.out).mono ?_; rintro e w9 ⟨hr9, hb9⟩; have hr9' := hr9; subst hr9'; have HB9 := Lib.hid (below_then HB2.out hb9); clear hb9 hr9)))
        · have HIT := Lib.hid (treeOk_in HOK.out)
          have HIS := Lib.hid ((treeOk_in HOK.out).set true)
          have hoL : w2.ownsRow w1.heap.size 45 6 (.slice A2 l.length c2) (setR true l).length (nRow (setR true l)) := by rw [setR_len]; exact HO2.out
          have HNA := Lib.hid (own_nodes hoL)
          have hcap : ∀ A k c, (Value.slice A2 l.length c2) = .slice A k c → k ≤ c := by
            intro A k c e
            injection e with e1 e2 e3
            subst e2
            subst e3
            rcases HO2.out.2 with ⟨h0, h1⟩ | ⟨q, cap, cur, hv, _, _, hlt, _⟩
            · omega
            · injection hv with _ _ e4
              omega
          have HNS := Lib.hid ((own_nodes hoL).toS hcap)
          have HNK := Lib.hid (nodeK_of HIS.out)
          have HL := Lib.hid (show (setR true l).length ≤ 1000 from HIS.out.many)
          have HD : Hid (∀ n ∈ setR true l, 0 ≤ n.depth ∧ n.depth ≤ 1000) := fun n hn => ⟨(HNK.out n hn).depth.1, by have := HIS.out.deep n hn; omega⟩
          have HDN := Lib.hid (dec_nil_iff HNM.out.2.1)
          have HGD := Lib.hid (low_good HDN.out.2 HNM.out.2.2)
          have HCS : Hid ((dec nm.data.toList).length ≤ 1048576) := by
            have := dec_len_le nm.data.toList HDN.out.2
            exact Nat.le_trans this HNM.out.1
          have HOKT : Hid (∀ ts, Parse 0 ((setR true l).map RN.cp) ts [] → OKl asc ts ∧ cost ts ≤ 134217728) := fun ts hp => ⟨set_okl HIT.out.good hp, in_cost HIS.out hp⟩
          clear hoL hcap
          obtain ⟨nf, hnf⟩ : ∃ nf : Nat, (impFront nm.data.toList (setR true l)).length = nf := ⟨_, rfl⟩
          have HNF := Lib.hid hnf
          have hnf1 : nf ≤ 2002 := by
            rw [← hnf]
            have h1 := itemsR_len (setR true l)
            have h2 := HL.out
            simp [impFront]; omega
          go_upto_region 7 with (go_at_call 14; go_must (refine (declItems_any nm _ (setR true l) HL.out HD.out _ HNA.out).mono ?_; rintro e w4 ⟨v4, rfl, ho4, hb4⟩; rw [imp_front, List.length_append, HNF.out, iRow_append, show [signR 35 59].length = 1 from rfl] at ho4; obtain ⟨A4, c4, rfl⟩ := own_slice ho4; have HO4 := Lib.hid ho4; have HB4 := Lib.hid (below_then HB2.out hb4); have HB24 := Lib.hid hb4; clear ho4 hb4))
          obtain ⟨q4, cap4, hv4, hq4, hcap4⟩ := HO4.out.form (by omega)
          injection hv4 with hA4 _ hc4
          subst hA4
          subst hc4
          have hlast : ∀ j x, (iCells (signR 35 59))[j]? = some x → w4.cell? ⟨q4, nf * 4 + j, none⟩ = some x := fun j x hx => by
            have h1 := HO4.out.cells (g := q4) rfl (nf * 4 + j) x (by
              have e : (iRow (impFront nm.data.toList (setR true l))).length = nf * 4 := by rw [iRow_len, HNF.out]
              rw [List.getElem?_append_right (by omega), e]
              have e2 : nf * 4 + j - nf * 4 = j := by omega
              rw [e2]
              simpa [iRow] using hx)
            rw [addr_add0] at h1; exact h1
          have i0 : w4.cell? ⟨q4, nf * 4, none⟩ = some (.int .i64 35) := hlast 0 _ rfl
          have i1 : w4.cell? ⟨q4, nf * 4 + 1, none⟩ = some (.int .i64 0) := hlast 1 _ rfl
          have i2 : w4.cell? ⟨q4, nf * 4 + 2, none⟩ = some (.string ⟨⟨[59]⟩⟩) := hlast 2 _ rfl
          have i3 : w4.cell? ⟨q4, nf * 4 + 3, none⟩ = some (.int .i64 (-1)) := hlast 3 _ rfl
          have hn1 : (((nf + 1 : Nat) : Int)) - 1 = (nf : Int) := by omega
          obtain ⟨n1, hn1e⟩ : ∃ n1 : Nat, n1 = nf + 1 := ⟨_, rfl⟩
          rw [← hn1e] at hn1
          have hn2 : (nf : Int) < (n1 : Int) := by omega
          have hn3 : (0 : Int) ≤ (nf : Int) := by omega
          have hn4 : (n1 : Int) ≤ 2003 := by omega
          have HN1 := Lib.hid hn1e
          rw [← hn1e]
          clear hlast hnf hnf1 hn1e
          go_upto_region 8 with (fail)
          have hn1e := HN1.out
          have hcc4 := own_cap HO4.out
          have H4p := own_prefix (m := nf) HO4.out (by omega) (by rw [iRow_len, HNF.out])
          have hq4s : q4 < w4.heap.size := (own_lt HO4.out rfl).1
          clear i0 i1 i2 i3
          refine imp_region w2.heap.size q4 n1 nf c4 w4.heap.size (iRow (impFront nm.data.toList (setR true l))) hn1 (by omega) (by omega) (H4p.alloc _) (by have := HB24.out.size; show _ ≤ (w4.heap.push _).size; rw [Array.size_push]; omega) (by omega) (heap_alloc_new w4 _) _ _ rfl rfl rfl ?_
          intro v5 w5 ho5 hb5
          simp only [List.setIfInBounds_toArray, List.set_cons_zero, List.set_cons_succ]
          have ho5' : w5.ownsRow w2.heap.size 34 4 v5 (declR nm.data.toList (setR true l) true true []).length (iRow (declR nm.data.toList (setR true l) true true [])) := by
            rw [imp_items, List.length_append, HNF.out, iRow_append]
            exact ho5
          have HI5 := Lib.hid (own_items ho5')
          obtain ⟨A5, c5, hv5⟩ := own_slice ho5'
          subst hv5
          have HB25 : Hid (Below w2.heap.size w2 w5) := (HB24.out.alloc HB24.out.size _).trans hb5
          have HB5 := Lib.hid (below_then HB2.out HB25.out)
          have HNS5 := Lib.hid (NodesS.below HNS.out HB25.out)
          have HITL : Hid (∀ x ∈ declR nm.data.toList (setR true l) true true [], x.text.length ≤ 2147483647) := by
            intro x hx
            rw [imp_items] at hx
            simp only [impFront, List.mem_cons, List.mem_append, List.not_mem_nil, or_false] at hx
            rcases hx with (rfl | rfl | hx) | rfl | rfl | rfl
            · have := HNM.out.1; show nm.data.toList.length ≤ _; omega
            · decide
            · have h1 := items_text hx
              have h2 := HIS.out.size
              omega
            · decide
            · decide
            · decide
          clear hcc4 ho5 ho5' hb5 H4p hq4s hn1e hn1 hn2 hn3 hn4
          go_wp2_with (first
            | (go_at_call 22; go_must (refine (Declaration_any (F := F) (W0 := W0) true mini asc nm (dec nm.data.toList) (okDec_val HDN.out.2).1.symm (good_v HGD.out) (good_l HGD.out) (by omega) (setR true l) _ HL.out HNK.out HOKT.out _ (HE.out.below HB5.out) HNS5.out).mono ?_; rintro e w6 ⟨s, rfl, ⟨ts, cl, sp, hp, hpr, hcl, hsp, hs⟩, hb6⟩; have HS6 : Hid (Parse 0 ((setR true l).map RN.cp) ts [] ∧ Prints asc ts (headBefore ts) cl ∧ (enc (flat cl)).length ≤ cost ts + 1 ∧ s.data.toList = enc (flat (declCh asc (dec nm.data.toList) cl sp true true (wsIf (!mini) [10])))) := ⟨hp, hpr, hcl, hs⟩; have HB6 := Lib.hid (below_then HB5.out hb6); have HI6 := Lib.hid (HI5.out.below hb6); clear hp hpr hcl hs hb6 hsp))
            | (go_at_call 17; go_must (refine (holds_ready HS6.out.2.2.2 (decl_len (good_v HGD.out) HCS.out (HOKT.out ts HS6.out.1).2 HS6.out.2.2.1 HS6.out.2.2.2) (imp_final HIT.out.good HNM.out.2.1 HNM.out.2.2 HS6.out.1 HS6.out.2.1 mini sp).1 (imp_final HIT.out.good HNM.out.2.1 HNM.out.2.2 HS6.out.1 HS6.out.2.1 mini sp).2.1 (imp_final HIT.out.good HNM.out.2.1 HNM.out.2.2 HS6.out.1 HS6.out.2.1 mini sp).2.2 HITL.out false _ _ HI6.out).mono ?_; rintro e w7 ⟨hr7, hb7⟩; have hr7' := hr7; subst hr7'; have HB7 := Lib.hid (below_then HB6.out hb7); clear hb7 hr7))
            | (go_at_call 13; go_must (refine (HWK.out _ HB7.out).mono ?_; rintro e w9 ⟨hr9, hb9⟩; have hr9' := hr9; subst hr9'; have HB9 := Lib.hid (below_then HB7.out hb9); clear hb9 hr9)))
          go_ret
          exact RetBW.mk' rfl HB9.out
        · go_ret
          exact RetBW.mk' rfl HB9.out
end Go.Proofs.YtkfdcbdlcipmfaaGreatFmt
