/- Walks: the law on the forms of an at-rule: minified or not, in ASCII or not. -/
import Derived.Test.YtkfdcbdlcipmfaaGreatFmtH35
import Derived.Test.YtkfdcbdlcipmfaaGreatFmtH42
import Derived.Test.YtkfdcbdlcipmfaaGreatFmtH45
set_option linter.unusedVariables false
set_option linter.unusedSimpArgs false
namespace Go.Proofs.YtkfdcbdlcipmfaaGreatFmt
open Go.RowKit Css
variable {F : Go.Stop.Interp} {W0 w w' : World}
theorem own_nodesS {w : World} {B : Nat} {A : Option Addr} {k c : Nat} {l : List RN} (hk : l.length = k) (h : w.ownsRow B 45 6 (.slice A k c) l.length (nRow l)) : NodesS (.slice A k c) l w := by
  subst hk
  refine (own_nodes h).toS fun A' k' c' e => ?_
  injection e with e1 e2 e3
  subst e2
  subst e3
  rcases h.2 with ⟨h0, h1⟩ | ⟨q, cap, cur, hv, _, _, hlt, _⟩
  · injection h0 with _ e4 e5
    omega
  · injection hv with _ _ e4
    omega
set_option maxHeartbeats 16000000 in
set_option maxRecDepth 100000 in
theorem law4_any (nm : ByteArray) (hnm : nm.size ≤ maxLen) (v : Value) (l : List RN) (hm : ∀ n ∈ l, n.text.length ≤ maxLen) (hml : l.length ≤ maxLen) (w : World) (hE : Env F W0 w) (hn : NodesS v l w) : Calls Tryz.prog 4 #[.string nm, v] w (RetBW true w) := by
  obtain ⟨A, c, rfl, _⟩ := hn.form
  have HE := Lib.hid hE
  have HN := Lib.hid hn
  have HM := Lib.hid hm
  have HML := Lib.hid hml
  have hb0 : (nm.size : Int) ≤ 9223372036854775807 := by unfold maxLen at hnm; omega
  have hb1 : (l.length : Int) ≤ 9223372036854775807 := by unfold maxLen at hml; omega
  have HWK : Hid (∀ w1, Below w.heap.size w w1 → Calls Tryz.prog 13 #[] w1 (RetBW true w1)) := fun w1 hb => wakes_any (F := F) (W0 := W0) w1 (HE.out.below hb)
  clear hE hn hm hml hnm
  rename World => w0
  by_cases hz : (2147483647 : Int) < (nm.size : Int)
  · go_enter Tryz.func4, Tryz.ntmps4
    go_wp2_with fail
    go_ret
    exact RetBW.mk' rfl (Below.refl _ _)
  · have hz2 : (nm.size : Int) ≤ 2147483647 := by omega
    clear hz
    cases hf : fitsB l
    · have HF := Lib.hid hf
      clear hf
      go_enter Tryz.func4, Tryz.ntmps4
      go_wp2_with (go_at_call 10; go_must (refine (fits1_off _ l HM.out HML.out _ HN.out).mono ?_; rw [HF.out]; rintro e w1 ⟨rfl, hb⟩; have HB1 := Lib.hid hb; clear hb))
      go_ret
      exact RetBW.mk' rfl HB1.out
    · have HF := Lib.hid hf
      have HLT : Hid (l.length ≤ 2147483647 ∧ ∀ n ∈ l, n.text.length ≤ 2147483647) := by
        unfold fitsB at hf
        simp only [Bool.and_eq_true, decide_eq_true_eq, List.all_eq_true] at hf
        refine ⟨hf.1, fun n hn => ?_⟩
        have := hf.2 n hn
        unfold fitB at this
        simpa using this
      have HTREE : Hid (∀ w1, Below w0.heap.size w0 w1 → Calls Tryz.prog 11 #[.slice A l.length c, .bool false, .bool true] w1 (RetTree false true l w1)) := fun w1 hb =>
        tree_off false true _ l HLT.out.1 HLT.out.2 (fun hl hok v w h => set_must true v l hl (fun n hn => ⟨(treeOk_in hok).good.node n hn, (treeOk_in hok).good.low n hn⟩) w h) _ (HN.out.below hb)
      clear hf
      cases hnb : namedB nm.data.toList true
      · have HNB := Lib.hid hnb
        clear hnb
        go_enter Tryz.func4, Tryz.ntmps4
        go_wp2_with (first | (go_at_call 10; go_must (refine (fits1_off _ l HM.out HML.out _ HN.out).mono ?_; rw [HF.out]; rintro e w1 ⟨rfl, hb⟩; have HB1 := Lib.hid hb; clear hb)) | (go_at_call 11; go_must (refine (HTREE.out _ HB1.out).mono ?_; rintro e w2 ⟨hb2, ⟨hok, v2, rfl, ho2⟩ | ⟨hok, rfl⟩⟩ <;> (have HB2 := Lib.hid (below_then HB1.out hb2); have HOK := Lib.hid hok; clear hb2 hok); (try (have HO2 := Lib.hid ho2; obtain ⟨A2, c2, hv2⟩ := own_slice ho2; subst hv2; clear ho2)))) | (go_at_call 12; go_must (refine (named2_any nm hz2 true _).mono ?_; rw [HNB.out]; rintro e w3 ⟨rfl, rfl⟩)) | (go_at_call 13; go_must (refine (HWK.out _ HB2.out).mono ?_; rintro e w9 ⟨hr9, hb9⟩; have hr9' := hr9; subst hr9'; have HB9 := Lib.hid (below_then HB2.out hb9); clear hb9 hr9)))
        all_goals
          go_ret
          exact RetBW.mk' rfl HB9.out
      · have HNB := Lib.hid hnb
        have HNM : Hid (nm.data.toList.length ≤ 1048576 ∧ isNameB nm.data.toList = true ∧ lowB nm.data.toList true = true) := by
          unfold namedB at hnb
          simp only [Bool.and_eq_true, decide_eq_true_eq] at hnb
          exact ⟨hnb.1.1, hnb.1.2, hnb.2⟩
        clear hnb
        go_enter Tryz.func4, Tryz.ntmps4
        go_upto_region 6 with (first | (go_at_call 10; go_must (refine (fits1_off _ l HM.out HML.out _ HN.out).mono ?_; rw [HF.out]; rintro e w1 ⟨rfl, hb⟩; have HB1 := Lib.hid hb; clear hb)) | (go_at_call 11; go_must (refine (HTREE.out _ HB1.out).mono ?_; rintro e w2 ⟨hb2, ⟨hok, v2, rfl, ho2⟩ | ⟨hok, rfl⟩⟩ <;> (have HB2 := Lib.hid (below_then HB1.out hb2); have HOK := Lib.hid hok; clear hb2 hok); (try (have HO2 := Lib.hid ho2; obtain ⟨A2, c2, hv2⟩ := own_slice ho2; subst hv2; clear ho2)))) | (go_at_call 12; go_must (refine (named2_any nm hz2 true _).mono ?_; rw [HNB.out]; rintro e w3 ⟨rfl, rfl⟩)) | (go_at_call 13; go_must (refine (HWK.out _ HB2.out).mono ?_; rintro e w9 ⟨hr9, hb9⟩; have hr9' := hr9; subst hr9'; have HB9 := Lib.hid (below_then HB2.out hb9); clear hb9 hr9)))
        · have HIN : Hid (AtIn false nm.data.toList l) := ⟨treeOk_in HOK.out, HNM.out.2.1, HNM.out.2.2, HNM.out.1⟩
          have HAT : Hid (∀ (m a : Bool) (w3 : World), Below w0.heap.size w0 w3 → Below w2.heap.size w2 w3 → Calls Tryz.prog 19 #[.string nm, .slice A2 l.length c2, .bool m, .bool a] w3 fun e w4 => ∃ s, e = .returned (.string s) ∧ AtT a m (dec nm.data.toList) (setR false l) s ∧ Below w3.heap.size w3 w4) := fun m a w3 h1 h2 =>
            HIN.out.call (F := F) (W0 := W0) a m _ w3 (HE.out.below h1) (NodesS.below (own_nodesS (setR_len false l) (by rw [setR_len]; exact HO2.out)) h2)
          clear HO2
          go_upto_region 7 with (go_at_call 19; go_must (refine (HAT.out _ _ _ HB2.out (Below.refl _ _)).mono ?_; rintro e w3 ⟨s1, rfl, hat, hb⟩; have HS1 := Lib.hid hat; have HB3 := Lib.hid hb; clear hat hb))
          have HB03 := Lib.hid (below_then HB2.out HB3.out)
          go_upto_region 8 with fail
          have HBX := Lib.hid (box_below (.cells #[.bool false, .bool true] 4) w3)
          have HROW : Hid ((w3.alloc (.cells #[.bool false, .bool true] 4)).heap[w3.heap.size]? = some (.cells #[.bool false, .bool true] 4 (0, 0))) := heap_alloc_new w3 _
          have HB0W := Lib.hid (below_then HB03.out HBX.out)
          have HB2W := Lib.hid (below_then HB3.out HBX.out)
          generalize w3.alloc (.cells #[.bool false, .bool true] 4) = W at HBX HROW HB0W HB2W ⊢
          generalize w3.heap.size = bb at HROW ⊢
          clear HBX HB3 HB03
          go_loopg [8, 9, 10, 37] 2 (fun k p8 p9 p10 p37 wr => ∃ j : Nat, p37 = .int .i64 j ∧ j + k = 2 ∧ Hid (Below W.heap.size W wr))
          case atStart => exact ⟨0, rfl, by omega, Below.refl _ _⟩
          case round =>
            obtain ⟨j, rfl, hjk, HBR⟩ := hrel
            have hj0 : (0 : Int) ≤ (j : Int) := by omega
            have hj1 : (j : Int) ≤ 2 := by omega
            by_cases hlt : j < 2
            · have hltj : (j : Int) < 2 := by omega
              have hcell : ∃ mm : Bool, wr.cell? ⟨bb, j, none⟩ = some (.bool mm) := by
                have hr := blk_below HBR.out HROW.out
                have hj : j = 0 ∨ j = 1 := by omega
                rcases hj with rfl | rfl
                · exact ⟨false, cell_blk hr 0⟩
                · exact ⟨true, cell_blk hr 1⟩
              obtain ⟨mm, hcell⟩ := hcell
              have HA1 := Lib.hid (HAT.out mm true wr (below_then HB0W.out HBR.out) (below_then HB2W.out HBR.out))
              go_upto_region 12 with (go_at_call 19; go_must (refine HA1.out.mono ?_; rintro e w4 ⟨s2, rfl, hat, hb⟩; have HS2 := Lib.hid hat; have HB4 := Lib.hid (below_then HBR.out hb); clear hat hb))
              have hs2 := (HIN.out.ascii HS2.out).1
              have HLOW := Lib.hid (HIN.out.ascii HS2.out).2
              have HSM1 := Lib.hid (fun w => HIN.out.same HS1.out HS2.out w)
              clear HA1 hcell
              go_loopg [10, 47] s2.size (fun k p10 p47 wr => ∃ i : Nat, p47 = .int .i64 i ∧ i + k = s2.size ∧ wr = w4)
              case atStart => exact ⟨0, rfl, by omega, rfl⟩
              case round =>
                obtain ⟨i, rfl, hik, rfl⟩ := hrel
                have hi0 : (0 : Int) ≤ (i : Int) := by omega
                have hi1 : (i : Int) ≤ 2147483647 := by omega
                by_cases hli : i < s2.size
                · have hlii : (i : Int) < (s2.size : Int) := by omega
                  have hx := bt_get s2 i hli
                  have hb := HLOW.out i
                  generalize bt s2 i = x at hx hb
                  go_wp2_with fail
                  go_roundg (s2.size - (i + 1))
                  case measure => omega
                  case rel => exact ⟨i + 1, by go_num, by omega, rfl⟩
                · have hle : (s2.size : Int) ≤ (i : Int) := by omega
                  have HA2 := Lib.hid (fun w5 (h : Below wr.heap.size wr w5) => HAT.out mm false w5 (below_then HB0W.out (below_then HB4.out h)) (below_then HB2W.out (below_then HB4.out h)))
                  go_wp2_with fail
                  refine (HIN.out.same HS1.out HS2.out _).mono ?_
                  rintro e w5 ⟨hr5, hb5⟩
                  have hr5' := hr5
                  subst hr5'
                  have HB5 := Lib.hid hb5
                  clear hb5 hr5
                  go_wp2_with fail
                  refine (HA2.out _ HB5.out).mono ?_
                  rintro e w6 ⟨s3, rfl, hat3, hb6⟩
                  have HS3 := Lib.hid hat3
                  have HB6 := Lib.hid (below_then HB5.out hb6)
                  clear hat3 hb6
                  go_wp2_with fail
                  refine (HIN.out.same HS1.out HS3.out _).mono ?_
                  rintro e w7 ⟨hr7, hb7⟩
                  have hr7' := hr7
                  subst hr7'
                  have HB7 := Lib.hid (below_then HB6.out hb7)
                  clear hb7 hr7
                  go_wp2_with fail
                  go_roundg (2 - (j + 1))
                  case measure => omega
                  case rel => exact ⟨j + 1, by go_num, by omega, below_then HB4.out HB7.out⟩
            · have hle : (2 : Int) ≤ (j : Int) := by omega
              have HWKX := Lib.hid (HWK.out wr (below_then HB0W.out HBR.out))
              go_wp2_with (go_at_call 13; go_must (refine HWKX.out.mono ?_; rintro e w9 ⟨hr9, hb9⟩; have hr9' := hr9; subst hr9'; have HB9 := Lib.hid (below_then (below_then HB0W.out HBR.out) hb9); clear hb9 hr9))
              go_ret
              exact RetBW.mk' rfl HB9.out
        · go_ret
          exact RetBW.mk' rfl HB9.out
end Go.Proofs.YtkfdcbdlcipmfaaGreatFmt
