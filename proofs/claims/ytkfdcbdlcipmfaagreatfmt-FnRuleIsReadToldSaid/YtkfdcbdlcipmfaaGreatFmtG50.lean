/- Walks: Qualified. -/
import Derived.Test.YtkfdcbdlcipmfaaGreatFmtG32
import Derived.Test.YtkfdcbdlcipmfaaGreatFmtG49
import Derived.Test.YtkfdcbdlcipmfaaGreatFmtG36
import Derived.Test.YtkfdcbdlcipmfaaGreatFmtG38
set_option linter.unusedVariables false
set_option linter.unusedSimpArgs false
namespace Go.Proofs.YtkfdcbdlcipmfaaGreatFmt
open Go.RowKit Css
variable {F : Go.Stop.Interp} {W0 w w' : World}
/-- A text is a rule as it is printed. -/
def RuleT (asc mini : Bool) (cs : List Int) (l u : List RN) (s : ByteArray) : Prop :=
  ∃ (ts vs : List T) (cl vl : List Ch) (has : Bool), Parse 0 (l.map RN.cp) ts [] ∧ Prints asc ts (headBefore ts) cl ∧ (enc (flat cl)).length ≤ cost ts + 1 ∧ Parse 0 (u.map RN.cp) vs [] ∧ Prints asc vs (headBefore vs) vl ∧ (enc (flat vl)).length ≤ cost vs + 1 ∧ s.data.toList = enc (flat (ruleCh asc mini cl has cs vl))
theorem three_made (w : World) (O1 O2 O3 : Obj) : (((w.alloc O1).alloc O2).alloc O3).heap[w.heap.size]? = some O1 ∧ (((w.alloc O1).alloc O2).alloc O3).heap[w.heap.size + 1]? = some O2 ∧ (((w.alloc O1).alloc O2).alloc O3).heap[w.heap.size + 1 + 1]? = some O3 ∧ Below w.heap.size w (((w.alloc O1).alloc O2).alloc O3) := by
  have e1 : (w.alloc O1).heap.size = w.heap.size + 1 := by simp
  have e2 : ((w.alloc O1).alloc O2).heap.size = w.heap.size + 1 + 1 := by simp
  refine ⟨blk_below (box_below _ _) (blk_below (box_below _ _) (heap_alloc_new _ _)), ?_, ?_, below_then (below_then (box_below _ _) (box_below _ _)) (box_below _ _)⟩
  · rw [← e1]; exact blk_below (box_below _ _) (heap_alloc_new _ _)
  · rw [← e2]; exact heap_alloc_new _ _
set_option maxHeartbeats 8000000 in
set_option maxRecDepth 100000 in
theorem Qualified_any (mini asc : Bool) (nm : ByteArray) (cs : List Int) (h : nm.data.toList = enc cs) (hv : AllV cs) (hlow : asc = true → ∀ c ∈ cs, c < 1048576) (hss : nm.size ≤ 2147483647) (l u : List RN) (v v2 : Value) (hl : l.length ≤ 1000) (hk : ∀ n ∈ l, NodeK n) (hl2 : u.length ≤ 1000) (hk2 : ∀ n ∈ u, NodeK n)
    (hok : ∀ ts, Parse 0 (l.map RN.cp) ts [] → OKl asc ts ∧ cost ts ≤ 134217728) (hok2 : ∀ ts, Parse 0 (u.map RN.cp) ts [] → OKl asc ts ∧ cost ts ≤ 134217728) (w : World) (hE : Env F W0 w) (hn : NodesS v l w) (hn2 : NodesS v2 u w) : Calls Tryz.prog 18 #[v, .string nm, v2, .bool mini, .bool asc] w (fun e w' => ∃ s, e = .returned (.string s) ∧ RuleT asc mini cs l u s ∧ Below w.heap.size w w') := by
  have HC := Lib.hid (tokens_rec (l.length + 1) l 0 v w (by omega) hl (by omega) (by omega) hk hn)
  have HC2 : Hid (∀ w1, Below w.heap.size w w1 → Calls Tryz.prog 33 #[v2, .int .i64 0] w1 (RetT 0 u w1)) := fun w1 hb => tokens_rec (u.length + 1) u 0 v2 w1 (by omega) hl2 (by omega) (by omega) hk2 (hn2.below hb)
  have HP : Hid (∀ k ts, Parse 0 (l.map RN.cp) ts ((l.drop k).map RN.cp) → Parse 0 (l.map RN.cp) ts []) := fun k ts => parse_all fun n hn => (hk n hn).depth.1
  have HP2 : Hid (∀ k ts, Parse 0 (u.map RN.cp) ts ((u.drop k).map RN.cp) → Parse 0 (u.map RN.cp) ts []) := fun k ts => parse_all fun n hn => (hk2 n hn).depth.1
  have HE := Lib.hid hE
  have HH := Lib.hid h
  have HV := Lib.hid hv
  have HLOW := Lib.hid hlow
  have HSS := Lib.hid hss
  have HOK := Lib.hid hok
  have HOK2 := Lib.hid hok2
  have HCS : Hid (cs.length ≤ 2147483647) := by
    have h1 := len_le_enc cs
    rw [← h] at h1
    have e : nm.data.toList.length = nm.size := rfl
    show _ ≤ _; omega
  clear hk hE h hv hlow hss hok hok2 hl hn hk2 hl2 hn2
  go_enter Tryz.func18, Tryz.ntmps18
  go_upto_region 2 with (go_at_call 33; go_must (refine HC.out.mono ?_; rintro e w1 ⟨ts, k, v', hk', rfl, hp, htk, hb1⟩; have HPA := Lib.hid (HP.out k ts hp); obtain ⟨A', c', hv', htk2⟩ := htk; subst hv'; have htk : TksAt w1 (fun b => w.heap.size ≤ b ∧ b < w1.heap.size) (.slice A' ts.length c') ts := ⟨A', c', rfl, htk2⟩; have HTK := Lib.hid htk; have HB1 := Lib.hid hb1; clear hk' hp htk htk2 hb1))
  go_upto_region 3 with (go_at_call 33; go_must (refine (HC2.out _ HB1.out).mono ?_; rintro e w2 ⟨vs, k2, v'', hk', rfl, hp, htk, hb2⟩; have HPA2 := Lib.hid (HP2.out k2 vs hp); obtain ⟨A2, c2, hv', htk2⟩ := htk; subst hv'; have htk : TksAt w2 (fun b => w1.heap.size ≤ b ∧ b < w2.heap.size) (.slice A2 vs.length c2) vs := ⟨A2, c2, rfl, htk2⟩; have HTK2 := Lib.hid htk; have HB2 := Lib.hid (below_then HB1.out hb2); have HB12 := Lib.hid hb2; clear hk' hp htk htk2 hb2))
  go_wp2_with (go_at_call 34; go_must (refine (printed_any mini asc (w2.heap.size + 1 + 1) 84 _ ((HE.out.below HB2.out).below (three_made w2 _ _ _).2.2.2).rebase (fun out => ∃ cl has vl, Prints asc ts (headBefore ts) cl ∧ (enc (flat cl)).length ≤ cost ts + 1 ∧ Prints asc vs (headBefore vs) vl ∧ (enc (flat vl)).length ≤ cost vs + 1 ∧ out = enc (flat (ruleCh asc mini cl has cs vl))) ?hx ?hr).mono ?_; (case hx => rintro out ⟨cl, has, vl, _, _, _, _, rfl⟩; rw [rule_bytes]; simp); (case hr =>
        intro Wp hbp g W' hlow2 hE2 hst2
        obtain ⟨m1, m2, m3, hbm⟩ := three_made w2 _ _ _
        have hbw : Below w2.heap.size w2 Wp := below_then hbm hbp
        have hsame : ∀ b, b < w2.heap.size → W'.heap[b]? = w2.heap[b]? := fun b hb => (hlow2 b (Nat.lt_of_lt_of_le hb hbw.size)).trans (hbw.block b hb)
        have o1 := blk_below hbp m1
        have o2 := blk_below hbp m2
        have o3 := blk_below hbp m3
        have b1 := o1
        have b2 := o2
        have b3 := o3
        rw [← hlow2 _ (Array.getElem?_eq_some_iff.1 o1).1] at b1
        rw [← hlow2 _ (Array.getElem?_eq_some_iff.1 o2).1] at b2
        rw [← hlow2 _ (Array.getElem?_eq_some_iff.1 o3).1] at b3
        obtain ⟨ho1, ho2⟩ := HOK.out ts HPA.out
        obtain ⟨ho3, ho4⟩ := HOK2.out vs HPA2.out
        have htk1 : TksAt w2 (fun b => b < w2.heap.size) (.slice A' ts.length c') ts := HTK.out.keep fun b hb => ⟨Nat.lt_of_lt_of_le hb.2 HB12.out.size, HB12.out.block b hb.2⟩
        have htk2 : TksAt w2 (fun b => b < w2.heap.size) (.slice A2 vs.length c2) vs := HTK2.out.keep fun b hb => ⟨hb.2, rfl⟩
        refine (printRule_qual (F := F) (W0 := Wp) g _ _ _ mini asc cs HV.out HLOW.out nm HH.out HSS.out ts vs (.slice A' ts.length c') (.slice A2 vs.length c2) W' [] ho2 ho1 ho4 ho3 (htk1.keep fun b hb => ⟨Nat.lt_of_lt_of_le hb hbw.size, hsame b hb⟩) (htk2.keep fun b hb => ⟨Nat.lt_of_lt_of_le hb hbw.size, hsame b hb⟩) hE2 hst2 (by have := HCS.out; simp; omega) (Array.getElem?_eq_some_iff.1 o3).1 b3 (Array.getElem?_eq_some_iff.1 o2).1 b2 (Array.getElem?_eq_some_iff.1 o1).1 _ _ b1 rfl rfl rfl).mono ?_
        rintro e' w4 ⟨rfl, cl, has, vl, c1, c2, c3, c4, c5⟩
        exact ⟨rfl, _, ⟨cl, has, vl, c1, c2, c3, c4, rfl⟩, c5⟩); rintro e w3 ⟨s, rfl, ⟨cl, has, vl, c1, c2, c3, c4, c5⟩, hb3⟩; have HR : Hid (Prints asc ts (headBefore ts) cl ∧ (enc (flat cl)).length ≤ cost ts + 1 ∧ Prints asc vs (headBefore vs) vl ∧ (enc (flat vl)).length ≤ cost vs + 1 ∧ s.data.toList = enc (flat (ruleCh asc mini cl has cs vl))) := ⟨c1, c2, c3, c4, c5⟩; have HB3 := Lib.hid hb3; clear c1 c2 c3 c4 c5 hb3))
  go_ret
  exact ⟨s, rfl, ⟨ts, vs, cl, vl, has, HPA.out, HR.out.1, HR.out.2.1, HPA2.out, HR.out.2.2.1, HR.out.2.2.2.1, HR.out.2.2.2.2⟩, below_then (below_then HB2.out (three_made w2 _ _ _).2.2.2) HB3.out⟩
end Go.Proofs.YtkfdcbdlcipmfaaGreatFmt
/- Walks: the law on a rule. Printed by genP13.py. -/
namespace Go.Proofs.YtkfdcbdlcipmfaaGreatFmt
open Go.RowKit Css
variable {F : Go.Stop.Interp} {W0 w w' : World}
theorem fits_parts {l : List RN} (hf : fitsB l = true) : l.length ≤ 2147483647 ∧ ∀ n ∈ l, n.text.length ≤ 2147483647 := by
  unfold fitsB at hf
  simp only [Bool.and_eq_true, decide_eq_true_eq, List.all_eq_true] at hf
  refine ⟨hf.1, fun n hn => ?_⟩
  have := hf.2 n hn
  unfold fitB at this
  simpa using this
theorem own_slice_cap {w : World} {B n c : Nat} {e : TypeId} {size : Nat} {A : Option Addr} {k : Nat} {xs : List Value} (h : w.ownsRow B e size (.slice A k c) n xs) : ∀ A' k' c', (Value.slice A k c) = .slice A' k' c' → k' ≤ c' := by
  intro A' k' c' e
  injection e with _ e2 e3
  subst e2; subst e3
  rcases h.2 with ⟨h1, _⟩ | ⟨g, cap, cur, hv, hg, hh, h3, _⟩
  · injection h1 with _ e1 e2; omega
  · injection hv with _ e1 e3; omega
theorem declR_rest (key : List UInt8) (l : List RN) (imp semi : Bool) (rest : List RIt) : declR key l imp semi rest = declR key l imp semi [] ++ rest := by unfold declR; simp
theorem own_as {w : World} {B n : Nat} {e : TypeId} {size : Nat} {v : Value} {xs ys : List Value} (h : w.ownsRow B e size v n xs) (hx : xs = ys) : w.ownsRow B e size v n ys := hx ▸ h
theorem rule_row (L U : List RN) (key : List UInt8) (mini : Bool) : iRow (itemsR L) ++ iRow [signR 31 123] ++ iRow (declR key U false (!mini) []) ++ iRow [closeR 6] = iRow (ruleR L key U mini) := by
  unfold ruleR
  rw [declR_rest key U false (!mini) [closeR 6], ← iRow_append, ← iRow_append, ← iRow_append]
  simp only [List.append_assoc, List.cons_append, List.nil_append]
theorem rule_rlen (L U : List RN) (key : List UInt8) (mini : Bool) : (itemsR L).length + 1 + (declR key U false (!mini) []).length + 1 = (ruleR L key U mini).length := by
  unfold ruleR
  rw [declR_rest key U false (!mini) [closeR 6]]
  simp only [List.length_append, List.length_cons, List.length_nil]; omega
theorem own_head {w : World} {B n m c : Nat} {e : TypeId} {size : Nat} {q : Nat} {xs ys : List Value} (h : w.ownsRow B e size (.slice (some ⟨q, 0, none⟩) n c) n (xs ++ ys)) (hm : m ≤ n) (hx : xs.length = m * size) : w.ownsRow B e size (.slice (some ⟨q, 0, none⟩) m c) m xs := by
  refine ⟨hx, .inr ?_⟩
  rcases h.2 with ⟨h1, _⟩ | ⟨g, cap, cur, hv, hg, hh, h3, h4, h5, h6⟩
  · injection h1 with h1; cases h1
  · injection hv with e1 e2 e3
    injection e1 with e1
    injection e1 with e1
    subst e1
    subst e3
    refine ⟨q, c, cur, rfl, hg, hh, Nat.le_trans hm h3, h4, h5, ?_⟩
    have := congrArg (List.take (m * size)) h6
    rw [List.take_take, Nat.min_eq_left (Nat.mul_le_mul_right _ hm), ← hx, List.take_left] at this
    rw [← hx]; exact this
theorem rule_len {asc mini has : Bool} {cs : List Int} {ts vs : List T} {cl vl : List Ch} {s : ByteArray} (hv : AllV cs) (h1 : cs.length ≤ 1048576) (h2 : cost ts ≤ 134217728) (h3 : (enc (flat cl)).length ≤ cost ts + 1) (h4 : cost vs ≤ 134217728) (h5 : (enc (flat vl)).length ≤ cost vs + 1) (hs : s.data.toList = enc (flat (ruleCh asc mini cl has cs vl))) : s.size ≤ 2147483647 := by
  rw [size_enc hs, rule_bytes, decl_bytes]
  have h6 := ident_len (asc := asc) (may := false) (m := 0) hv
  have e : (enc (flat ([] : List Ch))).length = 0 := rfl
  simp only [List.length_append, e]
  cases mini <;> cases has <;> simp <;> omega
theorem declR_semi (key : List UInt8) (l : List RN) : declR key l false true [] = declR key l false false [] ++ [signR 35 59] := by unfold declR; simp
set_option maxHeartbeats 16000000 in
set_option maxRecDepth 100000 in
theorem law3_any (nm : ByteArray) (hnm : nm.size ≤ maxLen) (v v' : Value) (l u : List RN) (hm : ∀ n ∈ l, n.text.length ≤ maxLen) (hml : l.length ≤ maxLen) (hmu : ∀ n ∈ u, n.text.length ≤ maxLen) (hmlu : u.length ≤ maxLen) (mini asc : Bool) (w : World) (hE : Env F W0 w) (hn : NodesS v l w) (hu : NodesS v' u w) : Calls Tryz.prog 3 #[v, .string nm, v', .bool mini, .bool asc] w (RetBW true w) := by
  obtain ⟨A, c, rfl, _⟩ := hn.form
  obtain ⟨A', c', rfl, _⟩ := hu.form
  have HE := Lib.hid hE
  have HN := Lib.hid hn
  have HU := Lib.hid hu
  have HM := Lib.hid hm
  have HML := Lib.hid hml
  have HMU := Lib.hid hmu
  have HMLU := Lib.hid hmlu
  have hb0 : (nm.size : Int) ≤ 9223372036854775807 := by unfold maxLen at hnm; omega
  have hb1 : (l.length : Int) ≤ 9223372036854775807 := by unfold maxLen at hml; omega
  have hb2 : (u.length : Int) ≤ 9223372036854775807 := by unfold maxLen at hmlu; omega
  have HWK : Hid (∀ w1, Below w.heap.size w w1 → Calls Tryz.prog 13 #[] w1 (RetBW true w1)) := fun w1 hb => wakes_any (F := F) (W0 := W0) w1 (HE.out.below hb)
  clear hE hn hm hml hnm hu hmu hmlu
  rename World => w0
  cases hf : fitsB l
  · have HF := Lib.hid hf
    clear hf
    go_enter Tryz.func3, Tryz.ntmps3
    go_wp2_with (go_at_call 10; go_must (refine (fits1_off _ l HM.out HML.out _ HN.out).mono ?_; rw [HF.out]; rintro e w1 ⟨rfl, hb⟩; have HB1 := Lib.hid hb; have HU1 := Lib.hid (NodesS.below HU.out hb); have HN1 := Lib.hid (NodesS.below HN.out hb); clear hb))
    go_ret
    exact RetBW.mk' rfl HB1.out
  · have HF := Lib.hid hf
    have HLT := Lib.hid (fits_parts hf)
    clear hf
    by_cases hz : (2147483647 : Int) < (nm.size : Int)
    · go_enter Tryz.func3, Tryz.ntmps3
      go_wp2_with (go_at_call 10; go_must (refine (fits1_off _ l HM.out HML.out _ HN.out).mono ?_; rw [HF.out]; rintro e w1 ⟨rfl, hb⟩; have HB1 := Lib.hid hb; have HU1 := Lib.hid (NodesS.below HU.out hb); have HN1 := Lib.hid (NodesS.below HN.out hb); clear hb))
      go_ret
      exact RetBW.mk' rfl HB1.out
    · have hz2 : (nm.size : Int) ≤ 2147483647 := by omega
      clear hz
      cases hf : fitsB u
      · have HFU := Lib.hid hf
        clear hf
        go_enter Tryz.func3, Tryz.ntmps3
        go_wp2_with (first
    | (go_at_call 10; have hx := HU1.out; clear hx; go_must (refine (fits1_off _ u HMU.out HMLU.out _ HU1.out).mono ?_; rw [HFU.out]; rintro e w2 ⟨rfl, hb⟩; have HB2 := Lib.hid (below_then HB1.out hb); have HU2 := Lib.hid (NodesS.below HU1.out hb); have HN2 := Lib.hid (NodesS.below HN1.out hb); clear hb))
    | (go_at_call 10; go_must (refine (fits1_off _ l HM.out HML.out _ HN.out).mono ?_; rw [HF.out]; rintro e w1 ⟨rfl, hb⟩; have HB1 := Lib.hid hb; have HU1 := Lib.hid (NodesS.below HU.out hb); have HN1 := Lib.hid (NodesS.below HN.out hb); clear hb)))
        go_ret
        exact RetBW.mk' rfl HB2.out
      · have HFU := Lib.hid hf
        have HLU := Lib.hid (fits_parts hf)
        clear hf
        cases hnb : namedB nm.data.toList asc
        · have HNB := Lib.hid hnb
          clear hnb
          go_enter Tryz.func3, Tryz.ntmps3
          go_upto_region 3 with (first
    | (go_at_call 10; have hx := HU1.out; clear hx; go_must (refine (fits1_off _ u HMU.out HMLU.out _ HU1.out).mono ?_; rw [HFU.out]; rintro e w2 ⟨rfl, hb⟩; have HB2 := Lib.hid (below_then HB1.out hb); have HU2 := Lib.hid (NodesS.below HU1.out hb); have HN2 := Lib.hid (NodesS.below HN1.out hb); clear hb))
    | (go_at_call 10; go_must (refine (fits1_off _ l HM.out HML.out _ HN.out).mono ?_; rw [HF.out]; rintro e w1 ⟨rfl, hb⟩; have HB1 := Lib.hid hb; have HU1 := Lib.hid (NodesS.below HU.out hb); have HN1 := Lib.hid (NodesS.below HN.out hb); clear hb)))
          go_upto_region 4 with (go_at_call 11; go_must (refine (tree_off true asc _ l HLT.out.1 HLT.out.2 (fun hl _ v w h => set_all v l hl w h) _ HN2.out).mono ?_; rintro e w3 ⟨hb2, ⟨hok, v2, rfl, ho2⟩ | ⟨hok, rfl⟩⟩ <;> (have HB3 := Lib.hid (below_then HB2.out hb2); have HOK3 := Lib.hid hok; clear hok; (try (have HO3 := Lib.hid ho2; obtain ⟨A3, c3, hv2⟩ := own_slice ho2; subst hv2; clear ho2)); (try have HU3 := Lib.hid (NodesS.below HU2.out hb2)); (try have HBD := Lib.hid hb2); clear hb2)))
          all_goals go_upto_region 5 with (go_at_call 11; have hx := HU3.out; clear hx; go_must (refine (tree_off true asc _ u HLU.out.1 HLU.out.2 (fun hl _ v w h => set_all v u hl w h) _ HU3.out).mono ?_; rintro e w4 ⟨hb2, ⟨hok, v2, rfl, ho2⟩ | ⟨hok, rfl⟩⟩ <;> (have HB4 := Lib.hid (below_then HB3.out hb2); have HOK4 := Lib.hid hok; clear hok; (try (have HO4 := Lib.hid ho2; obtain ⟨A4, c4, hv2⟩ := own_slice ho2; subst hv2; clear ho2)); (try have HU3 := Lib.hid (NodesS.below HU2.out hb2)); (try have HBD := Lib.hid hb2); clear hb2)))
          all_goals go_wp2_with (first
    | (go_at_call 12; go_must (refine (named2_any nm hz2 asc _).mono ?_; rw [HNB.out]; rintro e w5 ⟨rfl, rfl⟩))
    | (go_at_call 13; go_must (refine (HWK.out _ HB4.out).mono ?_; rintro e w9 ⟨hr9, hb9⟩; have hr9' := hr9; subst hr9'; have HB9 := Lib.hid (below_then HB4.out hb9); clear hb9 hr9)))
          all_goals
            go_ret
            exact RetBW.mk' rfl HB9.out
        · have HNB := Lib.hid hnb
          have HNM : Hid (nm.data.toList.length ≤ 1048576 ∧ isNameB nm.data.toList = true ∧ lowB nm.data.toList asc = true) := by
            unfold namedB at hnb
            simp only [Bool.and_eq_true, decide_eq_true_eq] at hnb
            exact ⟨hnb.1.1, hnb.1.2, hnb.2⟩
          clear hnb
          go_enter Tryz.func3, Tryz.ntmps3
          go_upto_region 3 with (first
    | (go_at_call 10; have hx := HU1.out; clear hx; go_must (refine (fits1_off _ u HMU.out HMLU.out _ HU1.out).mono ?_; rw [HFU.out]; rintro e w2 ⟨rfl, hb⟩; have HB2 := Lib.hid (below_then HB1.out hb); have HU2 := Lib.hid (NodesS.below HU1.out hb); have HN2 := Lib.hid (NodesS.below HN1.out hb); clear hb))
    | (go_at_call 10; go_must (refine (fits1_off _ l HM.out HML.out _ HN.out).mono ?_; rw [HF.out]; rintro e w1 ⟨rfl, hb⟩; have HB1 := Lib.hid hb; have HU1 := Lib.hid (NodesS.below HU.out hb); have HN1 := Lib.hid (NodesS.below HN.out hb); clear hb)))
          go_upto_region 4 with (go_at_call 11; go_must (refine (tree_off true asc _ l HLT.out.1 HLT.out.2 (fun hl _ v w h => set_all v l hl w h) _ HN2.out).mono ?_; rintro e w3 ⟨hb2, ⟨hok, v2, rfl, ho2⟩ | ⟨hok, rfl⟩⟩ <;> (have HB3 := Lib.hid (below_then HB2.out hb2); have HOK3 := Lib.hid hok; clear hok; (try (have HO3 := Lib.hid ho2; obtain ⟨A3, c3, hv2⟩ := own_slice ho2; subst hv2; clear ho2)); (try have HU3 := Lib.hid (NodesS.below HU2.out hb2)); (try have HBD := Lib.hid hb2); clear hb2)))
          all_goals go_upto_region 5 with (go_at_call 11; have hx := HU3.out; clear hx; go_must (refine (tree_off true asc _ u HLU.out.1 HLU.out.2 (fun hl _ v w h => set_all v u hl w h) _ HU3.out).mono ?_; rintro e w4 ⟨hb2, ⟨hok, v2, rfl, ho2⟩ | ⟨hok, rfl⟩⟩ <;> (have HB4 := Lib.hid (below_then HB3.out hb2); have HOK4 := Lib.hid hok; clear hok; (try (have HO4 := Lib.hid ho2; obtain ⟨A4, c4, hv2⟩ := own_slice ho2; subst hv2; clear ho2)); (try have HU3 := Lib.hid (NodesS.below HU2.out hb2)); (try have HBD := Lib.hid hb2); clear hb2)))
          rotate_left
          · go_wp2_with (first
    | (go_at_call 12; go_must (refine (named2_any nm hz2 asc _).mono ?_; rw [HNB.out]; rintro e w5 ⟨rfl, rfl⟩))
    | (go_at_call 13; go_must (refine (HWK.out _ HB4.out).mono ?_; rintro e w9 ⟨hr9, hb9⟩; have hr9' := hr9; subst hr9'; have HB9 := Lib.hid (below_then HB4.out hb9); clear hb9 hr9)))
            go_ret
            exact RetBW.mk' rfl HB9.out
          · go_wp2_with (first
    | (go_at_call 12; go_must (refine (named2_any nm hz2 asc _).mono ?_; rw [HNB.out]; rintro e w5 ⟨rfl, rfl⟩))
    | (go_at_call 13; go_must (refine (HWK.out _ HB4.out).mono ?_; rintro e w9 ⟨hr9, hb9⟩; have hr9' := hr9; subst hr9'; have HB9 := Lib.hid (below_then HB4.out hb9); clear hb9 hr9)))
            go_ret
            exact RetBW.mk' rfl HB9.out
          · go_wp2_with (first
    | (go_at_call 12; go_must (refine (named2_any nm hz2 asc _).mono ?_; rw [HNB.out]; rintro e w5 ⟨rfl, rfl⟩))
    | (go_at_call 13; go_must (refine (HWK.out _ HB4.out).mono ?_; rintro e w9 ⟨hr9, hb9⟩; have hr9' := hr9; subst hr9'; have HB9 := Lib.hid (below_then HB4.out hb9); clear hb9 hr9)))
            go_ret
            exact RetBW.mk' rfl HB9.out
          go_upto_region 7 with (go_at_call 12; go_must (refine (named2_any nm hz2 asc _).mono ?_; rw [HNB.out]; rintro e w5 ⟨rfl, rfl⟩))
          have HIT3 := Lib.hid (treeOk_in HOK3.out)
          have HIS3 := Lib.hid ((treeOk_in HOK3.out).set true)
          have hoL3 : w4.ownsRow w2.heap.size 45 6 (.slice A3 l.length c3) (setR true l).length (nRow (setR true l)) := by rw [setR_len]; exact own_keep HO3.out (fun q hq => HBD.out.block q (own_lt HO3.out hq).1)
          have HNA3 := Lib.hid (own_nodes hoL3)
          have HNS3 := Lib.hid ((own_nodes hoL3).toS (own_slice_cap HO3.out))
          have HNK3 := Lib.hid (nodeK_of HIS3.out)
          have HL3 := Lib.hid (show (setR true l).length ≤ 1000 from HIS3.out.many)
          have HD3 : Hid (∀ n ∈ setR true l, 0 ≤ n.depth ∧ n.depth ≤ 1000) := fun n hn => ⟨(HNK3.out n hn).depth.1, by have := HIS3.out.deep n hn; omega⟩
          have HOKT3 : Hid (∀ ts, Parse 0 ((setR true l).map RN.cp) ts [] → OKl asc ts ∧ cost ts ≤ 134217728) := fun ts hp => ⟨set_okl HIT3.out.good hp, in_cost HIS3.out hp⟩
          clear hoL3
          have HIT4 := Lib.hid (treeOk_in HOK4.out)
          have HIS4 := Lib.hid ((treeOk_in HOK4.out).set true)
          have hoL4 : w4.ownsRow w3.heap.size 45 6 (.slice A4 u.length c4) (setR true u).length (nRow (setR true u)) := by rw [setR_len]; exact HO4.out
          have HNA4 := Lib.hid (own_nodes hoL4)
          have HNS4 := Lib.hid ((own_nodes hoL4).toS (own_slice_cap HO4.out))
          have HNK4 := Lib.hid (nodeK_of HIS4.out)
          have HL4 := Lib.hid (show (setR true u).length ≤ 1000 from HIS4.out.many)
          have HD4 : Hid (∀ n ∈ setR true u, 0 ≤ n.depth ∧ n.depth ≤ 1000) := fun n hn => ⟨(HNK4.out n hn).depth.1, by have := HIS4.out.deep n hn; omega⟩
          have HOKT4 : Hid (∀ ts, Parse 0 ((setR true u).map RN.cp) ts [] → OKl asc ts ∧ cost ts ≤ 134217728) := fun ts hp => ⟨set_okl HIT4.out.good hp, in_cost HIS4.out hp⟩
          clear hoL4
          have HDN := Lib.hid (dec_nil_iff HNM.out.2.1)
          have HGD := Lib.hid (low_good HDN.out.2 HNM.out.2.2)
          have HCS : Hid ((dec nm.data.toList).length ≤ 1048576) := by
            have := dec_len_le nm.data.toList HDN.out.2
            exact Nat.le_trans this HNM.out.1
          have HIL : Hid ((itemsR (setR true l)).length ≤ 2000) := by
            have h1 := itemsR_len (setR true l)
            have h2 := HL3.out
            show _ ≤ _; omega
          have HITL : Hid (∀ x ∈ ruleR (setR true l) nm.data.toList (setR true u) mini, x.text.length ≤ 2147483647) := by
            intro x hx
            unfold ruleR at hx
            rw [declR_rest] at hx
            simp only [declR, List.mem_cons, List.mem_append, List.not_mem_nil, or_false, if_false, Bool.false_eq_true, List.nil_append, List.append_nil] at hx
            have h2 := HIS3.out.size
            have h3 := HIS4.out.size
            rcases hx with hx | rfl | (rfl | rfl | hx | hx) | rfl
            · have h1 := items_text hx
              omega
            · decide
            · have := HNM.out.1; show nm.data.toList.length ≤ _; omega
            · decide
            · have h1 := items_text hx
              omega
            · split at hx
              · simp only [List.mem_cons, List.not_mem_nil, or_false] at hx; subst hx; decide
              · cases hx
            · decide
          cases mini
          ·
            obtain ⟨n5, hn5⟩ : ∃ n5 : Nat, (declR nm.data.toList (setR true u) false (!false) []).length = n5 := ⟨_, rfl⟩
            have HN5 := Lib.hid hn5
            have hn5b : n5 ≤ 2003 := by
              rw [← hn5]
              have h1 := itemsR_len (setR true u)
              have h2 := HL4.out
              simp [declR]; omega
            have HN5B := Lib.hid hn5b
            clear hn5 hn5b
            go_upto_region 10 with (go_at_call 14; go_must (refine (declItems_any nm _ (setR true u) HL4.out HD4.out _ HNA4.out).mono ?_; rintro e w5 ⟨v5, rfl, ho5, hb5⟩; change w5.ownsRow w4.heap.size 34 4 v5 (declR nm.data.toList (setR true u) false (!false) []).length (iRow (declR nm.data.toList (setR true u) false (!false) [])) at ho5; rw [HN5.out] at ho5; obtain ⟨A5, c5, rfl⟩ := own_slice ho5; have HO5 := Lib.hid ho5; have HB45 := Lib.hid hb5; clear ho5 hb5))
            have HOD := HO5
            go_wp2_with (first
              | (go_at_call 16; go_must (refine (nodes_any _ (setR true l) (by have := HL3.out; omega) _ (HNA3.out.below HB45.out)).mono ?_; rintro e w6 ⟨v6, rfl, ho6, hb6⟩; have HN6 := Lib.hid (own_nodes ho6); have HB56 := Lib.hid hb6; clear ho6 hb6))
              | (go_at_call 15; go_must (refine (items_any _ (setR true l) HL3.out HD3.out _ HN6.out).mono ?_; rintro e w7 ⟨v7, rfl, ho7, hb7⟩; have HO7 := Lib.hid ho7; have HB67 := Lib.hid hb7; clear ho7 hb7))
              | (at_builtin; go_must (first
                  | (have hx := HO9.out; clear hx; refine wpList_app1 rfl _ _ 28 34 rfl Tryz.underlying28 info34 rfl (by decide) HO9.out (Nat.le_trans HB67.out.size HB79.out.size) #[.int .i64 6, .int .i64 0, .string ⟨#[]⟩, .int .i64 (-1)] rfl (closeR_one 6) (by have := HIL.out; have := HN5B.out; omega) (by have := HIL.out; have := HN5B.out; unfold maxLen; omega) rfl w9.heap.size rfl rfl ?_; intro v10 w10 ho10 _ hb10 _; have HO10 := Lib.hid ho10; have HB610 := Lib.hid (HB67.out.trans (HB79.out.trans hb10)); clear ho10 hb10)
                  | (have hx := HO8.out; clear hx; refine wpList_appN rfl _ _ 28 34 rfl Tryz.underlying28 info34 rfl (by decide) HO8.out (Nat.le_trans HB67.out.size HB78.out.size) A5 n5 c5 (iRow (declR nm.data.toList (setR true u) false (!false) [])) (by rw [iRow_len, HN5.out]) (own_none HOD8.out) (own_cells HOD8.out) (iRow_one _) (by have := HIL.out; have := HN5B.out; omega) (by have := HIL.out; have := HN5B.out; unfold maxLen; omega) rfl rfl ?_; intro v9 w9 ho9 _ hb9; have HO9 := Lib.hid ho9; have HB79 := Lib.hid (HB78.out.trans hb9); clear ho9 hb9)
                  | (refine wpList_app1 rfl _ _ 28 34 rfl Tryz.underlying28 info34 rfl (by decide) HO7.out HB67.out.size #[.int .i64 31, .int .i64 0, .string ⟨#[123]⟩, .int .i64 (-1)] rfl (item_one _ _ _ _) (by have := HIL.out; omega) (by have := HIL.out; unfold maxLen; omega) rfl w7.heap.size rfl rfl ?_; intro v8 w8 ho8 _ hb8 _; have HO8 := Lib.hid ho8; have HB78 := Lib.hid hb8; have HB58 := Lib.hid (below_then HB56.out (HB67.out.trans hb8)); have HOD8 := Lib.hid (own_keep HOD.out fun q hq => HB58.out.block q (own_lt HOD.out hq).1); clear ho8 hb8)))
              | (go_at_call 18; have ho10 := HO10.out; have e2 := rule_rlen (setR true l) (setR true u) nm.data.toList false; rw [HN5.out] at e2; rw [e2] at ho10; have ho10b := own_as ho10 (rule_row (setR true l) (setR true u) nm.data.toList false); have HI10 := Lib.hid (own_items ho10b); clear ho10b; obtain ⟨A10, c10, hv10⟩ := own_slice ho10; subst hv10; clear ho10 e2; have HB410 := Lib.hid (below_then HB45.out (below_then HB56.out HB610.out)); have HB10 := Lib.hid (below_then HB4.out HB410.out); go_must (refine (Qualified_any (F := F) (W0 := W0) false asc nm (dec nm.data.toList) (okDec_val HDN.out.2).1.symm (good_v HGD.out) (good_l HGD.out) (by omega) (setR true l) (setR true u) _ _ HL3.out HNK3.out HL4.out HNK4.out HOKT3.out HOKT4.out _ (HE.out.below HB10.out) (NodesS.below HNS3.out HB410.out) (NodesS.below HNS4.out HB410.out)).mono ?_; rintro e w11 ⟨s, rfl, ⟨ts, vs, cl, vl, has, p1, p2, p3, p4, p5, p6, p7⟩, hb11⟩; have HS : Hid (Parse 0 ((setR true l).map RN.cp) ts [] ∧ Prints asc ts (headBefore ts) cl ∧ (enc (flat cl)).length ≤ cost ts + 1 ∧ Parse 0 ((setR true u).map RN.cp) vs [] ∧ Prints asc vs (headBefore vs) vl ∧ (enc (flat vl)).length ≤ cost vs + 1 ∧ s.data.toList = enc (flat (ruleCh asc false cl has (dec nm.data.toList) vl))) := ⟨p1, p2, p3, p4, p5, p6, p7⟩; have HB11 := Lib.hid (below_then HB10.out hb11); have HI11 := Lib.hid (HI10.out.below hb11); have HSF := Lib.hid (rule_final HIT3.out.good HIT4.out.good HNM.out.2.1 HNM.out.2.2 p1 p2 p4 p5 false has); clear p1 p2 p3 p4 p5 p6 p7 hb11))
              | (go_at_call 17; go_must (refine (holds_ready HS.out.2.2.2.2.2.2 (rule_len (good_v HGD.out) HCS.out (HOKT3.out ts HS.out.1).2 HS.out.2.2.1 (HOKT4.out vs HS.out.2.2.2.1).2 HS.out.2.2.2.2.2.1 HS.out.2.2.2.2.2.2) HSF.out.1 HSF.out.2.1 HSF.out.2.2 HITL.out false _ _ HI11.out).mono ?_; rintro e w12 ⟨hr12, hb12⟩; have hr12' := hr12; subst hr12'; have HB12 := Lib.hid (below_then HB11.out hb12); clear hb12 hr12))
              | (go_at_call 13; go_must (refine (HWK.out _ HB12.out).mono ?_; rintro e w13 ⟨hr13, hb13⟩; have hr13' := hr13; subst hr13'; have HB13 := Lib.hid (below_then HB12.out hb13); clear hb13 hr13)))
            go_ret
            exact RetBW.mk' rfl HB13.out
          ·
            obtain ⟨n5, hn5⟩ : ∃ n5 : Nat, (declR nm.data.toList (setR true u) false (!true) []).length = n5 := ⟨_, rfl⟩
            have HN5 := Lib.hid hn5
            have hn5b : n5 ≤ 2003 := by
              rw [← hn5]
              have h1 := itemsR_len (setR true u)
              have h2 := HL4.out
              simp [declR]; omega
            have HN5B := Lib.hid hn5b
            obtain ⟨n1, hn1e⟩ : ∃ n1 : Nat, n1 = n5 + 1 := ⟨_, rfl⟩
            have HN1e := Lib.hid hn1e
            have hn1 : (n1 : Int) - 1 = (n5 : Int) := by omega
            have hn2 : (n5 : Int) ≤ (n1 : Int) := by omega
            have hn3 : (0 : Int) ≤ (n5 : Int) := by omega
            have hn4 : (n1 : Int) ≤ 2004 := by omega
            clear hn5 hn5b hn1e
            go_upto_region 9 with (go_at_call 14; go_must (refine (declItems_any nm _ (setR true u) HL4.out HD4.out _ HNA4.out).mono ?_; rintro e w5 ⟨v5, rfl, ho5, hb5⟩; rw [declR_semi, List.length_append, iRow_append] at ho5; change w5.ownsRow w4.heap.size 34 4 v5 ((declR nm.data.toList (setR true u) false (!true) []).length + 1) (iRow (declR nm.data.toList (setR true u) false (!true) []) ++ iRow [signR 35 59]) at ho5; rw [HN5.out, ← HN1e.out] at ho5; obtain ⟨A5, c5, rfl⟩ := own_slice ho5; have HO5 := Lib.hid ho5; have HB45 := Lib.hid hb5; clear ho5 hb5))
            obtain ⟨q5, cap5, hv5, hq5, hcap5⟩ := HO5.out.form (by have := HN1e.out; omega)
            injection hv5 with hA5 _ hc5
            subst hA5
            subst hc5
            have HOD := Lib.hid (own_head (m := n5) HO5.out (by omega) (by rw [iRow_len, HN5.out]))
            have hn5c : (n5 : Int) ≤ (c5 : Int) := by have h1 := own_slice_cap HO5.out _ _ _ rfl; have h2 := HN1e.out; omega
            go_upto_region 10 with (fail)
            clear hn5c hn1 hn2 hn3 hn4 hcap5 hq5
            go_wp2_with (first
              | (go_at_call 16; go_must (refine (nodes_any _ (setR true l) (by have := HL3.out; omega) _ (HNA3.out.below HB45.out)).mono ?_; rintro e w6 ⟨v6, rfl, ho6, hb6⟩; have HN6 := Lib.hid (own_nodes ho6); have HB56 := Lib.hid hb6; clear ho6 hb6))
              | (go_at_call 15; go_must (refine (items_any _ (setR true l) HL3.out HD3.out _ HN6.out).mono ?_; rintro e w7 ⟨v7, rfl, ho7, hb7⟩; have HO7 := Lib.hid ho7; have HB67 := Lib.hid hb7; clear ho7 hb7))
              | (at_builtin; go_must (first
                  | (have hx := HO9.out; clear hx; refine wpList_app1 rfl _ _ 28 34 rfl Tryz.underlying28 info34 rfl (by decide) HO9.out (Nat.le_trans HB67.out.size HB79.out.size) #[.int .i64 6, .int .i64 0, .string ⟨#[]⟩, .int .i64 (-1)] rfl (closeR_one 6) (by have := HIL.out; have := HN5B.out; omega) (by have := HIL.out; have := HN5B.out; unfold maxLen; omega) rfl w9.heap.size rfl rfl ?_; intro v10 w10 ho10 _ hb10 _; have HO10 := Lib.hid ho10; have HB610 := Lib.hid (HB67.out.trans (HB79.out.trans hb10)); clear ho10 hb10)
                  | (have hx := HO8.out; clear hx; refine wpList_appN rfl _ _ 28 34 rfl Tryz.underlying28 info34 rfl (by decide) HO8.out (Nat.le_trans HB67.out.size HB78.out.size) (some ⟨q5, 0, none⟩) n5 c5 (iRow (declR nm.data.toList (setR true u) false (!true) [])) (by rw [iRow_len, HN5.out]) (own_none HOD8.out) (own_cells HOD8.out) (iRow_one _) (by have := HIL.out; have := HN5B.out; omega) (by have := HIL.out; have := HN5B.out; unfold maxLen; omega) rfl rfl ?_; intro v9 w9 ho9 _ hb9; have HO9 := Lib.hid ho9; have HB79 := Lib.hid (HB78.out.trans hb9); clear ho9 hb9)
                  | (refine wpList_app1 rfl _ _ 28 34 rfl Tryz.underlying28 info34 rfl (by decide) HO7.out HB67.out.size #[.int .i64 31, .int .i64 0, .string ⟨#[123]⟩, .int .i64 (-1)] rfl (item_one _ _ _ _) (by have := HIL.out; omega) (by have := HIL.out; unfold maxLen; omega) rfl w7.heap.size rfl rfl ?_; intro v8 w8 ho8 _ hb8 _; have HO8 := Lib.hid ho8; have HB78 := Lib.hid hb8; have HB58 := Lib.hid (below_then HB56.out (HB67.out.trans hb8)); have HOD8 := Lib.hid (own_keep HOD.out fun q hq => HB58.out.block q (own_lt HOD.out hq).1); clear ho8 hb8)))
              | (go_at_call 18; have ho10 := HO10.out; have e2 := rule_rlen (setR true l) (setR true u) nm.data.toList true; rw [HN5.out] at e2; rw [e2] at ho10; have ho10b := own_as ho10 (rule_row (setR true l) (setR true u) nm.data.toList true); have HI10 := Lib.hid (own_items ho10b); clear ho10b; obtain ⟨A10, c10, hv10⟩ := own_slice ho10; subst hv10; clear ho10 e2; have HB410 := Lib.hid (below_then HB45.out (below_then HB56.out HB610.out)); have HB10 := Lib.hid (below_then HB4.out HB410.out); go_must (refine (Qualified_any (F := F) (W0 := W0) true asc nm (dec nm.data.toList) (okDec_val HDN.out.2).1.symm (good_v HGD.out) (good_l HGD.out) (by omega) (setR true l) (setR true u) _ _ HL3.out HNK3.out HL4.out HNK4.out HOKT3.out HOKT4.out _ (HE.out.below HB10.out) (NodesS.below HNS3.out HB410.out) (NodesS.below HNS4.out HB410.out)).mono ?_; rintro e w11 ⟨s, rfl, ⟨ts, vs, cl, vl, has, p1, p2, p3, p4, p5, p6, p7⟩, hb11⟩; have HS : Hid (Parse 0 ((setR true l).map RN.cp) ts [] ∧ Prints asc ts (headBefore ts) cl ∧ (enc (flat cl)).length ≤ cost ts + 1 ∧ Parse 0 ((setR true u).map RN.cp) vs [] ∧ Prints asc vs (headBefore vs) vl ∧ (enc (flat vl)).length ≤ cost vs + 1 ∧ s.data.toList = enc (flat (ruleCh asc true cl has (dec nm.data.toList) vl))) := ⟨p1, p2, p3, p4, p5, p6, p7⟩; have HB11 := Lib.hid (below_then HB10.out hb11); have HI11 := Lib.hid (HI10.out.below hb11); have HSF := Lib.hid (rule_final HIT3.out.good HIT4.out.good HNM.out.2.1 HNM.out.2.2 p1 p2 p4 p5 true has); clear p1 p2 p3 p4 p5 p6 p7 hb11))
              | (go_at_call 17; go_must (refine (holds_ready HS.out.2.2.2.2.2.2 (rule_len (good_v HGD.out) HCS.out (HOKT3.out ts HS.out.1).2 HS.out.2.2.1 (HOKT4.out vs HS.out.2.2.2.1).2 HS.out.2.2.2.2.2.1 HS.out.2.2.2.2.2.2) HSF.out.1 HSF.out.2.1 HSF.out.2.2 HITL.out false _ _ HI11.out).mono ?_; rintro e w12 ⟨hr12, hb12⟩; have hr12' := hr12; subst hr12'; have HB12 := Lib.hid (below_then HB11.out hb12); clear hb12 hr12))
              | (go_at_call 13; go_must (refine (HWK.out _ HB12.out).mono ?_; rintro e w13 ⟨hr13, hb13⟩; have hr13' := hr13; subst hr13'; have HB13 := Lib.hid (below_then HB12.out hb13); clear hb13 hr13)))
            go_ret
            exact RetBW.mk' rfl HB13.out
end Go.Proofs.YtkfdcbdlcipmfaaGreatFmt
