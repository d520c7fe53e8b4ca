/- Walks: what takes nodes as they come in. -/
import Derived.Test.YtkfdcbdlcipmfaaGreatFmtG19
import Derived.Test.YtkfdcbdlcipmfaaGreatFmtG06
import Derived.Test.YtkfdcbdlcipmfaaGreatFmtG14
import Derived.Test.YtkfdcbdlcipmfaaGreatFmtG03
import Derived.BigQuiet
import Derived.Test.YtkfdcbdlcipmfaaGreatFmtG04
import Derived.Deep.RegionHeld3
import Derived.StillTailTactics
set_option linter.unusedVariables false
set_option linter.unusedSimpArgs false
namespace Go.Proofs.YtkfdcbdlcipmfaaGreatFmt
open Go.RowKit Css
theorem NodesS.at_ {A : Option Addr} {k c : Nat} {l : List RN} {w : World} (h : NodesS (.slice A k c) l w) {i : Nat} {n : RN} (hn : l[i]? = some n) : ∃ q off, A = some ⟨q, off, none⟩ ∧ q < w.heap.size ∧ NodeC w q (off + i * 6) n := by
  obtain ⟨A', c', e, _, hf⟩ := h.form
  obtain ⟨q, off, hA, hq, hx⟩ := hf (by intro e; subst e; simp at hn)
  injection e with e _ _
  exact ⟨q, off, e.trans hA, hq, NodesO.node hx hn⟩
theorem NodesAt.toS {v : Value} {l : List RN} {w : World} (h : NodesAt v l w) (hc : ∀ A k c, v = .slice A k c → k ≤ c) : NodesS v l w := by
  obtain ⟨A, c, rfl⟩ := h.slice
  refine ⟨A, c, rfl, hc _ _ _ rfl, fun hl => ?_⟩
  obtain ⟨q, c', e, hq, hx⟩ := h.form hl
  injection e with e _ _
  exact ⟨q, 0, e, hq, fun i x h => by rw [Nat.zero_add]; exact hx i x h⟩
set_option maxHeartbeats 1600000 in
set_option maxRecDepth 100000 in
theorem fits1_off (v : Value) (l : List RN) (hm : ∀ n ∈ l, n.text.length ≤ maxLen) (hml : l.length ≤ maxLen) (w : World) (h : NodesS v l w) : Calls Tryz.prog 10 #[v] w (RetBW (fitsB l) w) := by
  obtain ⟨A, c, rfl, _⟩ := h.form
  have HM := Lib.hid hm
  have HN := Lib.hid h
  have hb0 : (l.length : Int) ≤ 9223372036854775807 := by unfold maxLen at hml; omega
  rename World => w0
  clear hm h hml
  by_cases hl : l.length ≤ 2147483647
  · have HF : Hid (fitsB l = l.all fitB) := by show _ = _; simp [fitsB, hl]
    have h1 : (l.length : Int) ≤ 2147483647 := by omega
    go_enter Tryz.func10, Tryz.ntmps10
    go_wp2_with fail
    go_loopg [10] l.length (fun k p10 wr => ∃ i : Nat, p10 = .int .i64 i ∧ i + k = l.length ∧ Hid (Below w0.heap.size w0 wr) ∧ Hid (l.all fitB = (l.drop i).all fitB))
    case atStart => exact ⟨0, rfl, by omega, Below.refl _ _, rfl⟩
    case round =>
      obtain ⟨i, rfl, hik, HB, HQ⟩ := hrel
      have hi0 : (0 : Int) ≤ (i : Int) := by omega
      have hi1 : (i : Int) ≤ 2147483647 := by omega
      by_cases hlt : i < l.length
      · have hlti : (i : Int) < (l.length : Int) := by omega
        obtain ⟨n, hn⟩ : ∃ n, l[i]? = some n := ⟨l[i], List.getElem?_eq_getElem hlt⟩
        have HQ2 : Hid (l.all fitB = (fitB n && (l.drop (i + 1)).all fitB)) := by
          show _ = _; rw [HQ.out, drop_cons hn]; rfl
        have HMN : Hid (n.text.length ≤ maxLen) := HM.out n (List.mem_of_getElem? hn)
        obtain ⟨q, off, rfl, hq, hc⟩ := NodesS.at_ (HN.out.below HB.out) hn
        have hc0 := hc.c0
        have hc1 := hc.c1
        have hc2 := hc.c2
        have hc3 := hc.c3
        have hc4 := hc.c4
        have hc5 := hc.c5
        clear hc hn HQ
        cases hf : fitB n
        · have HF2 : Hid (fitB n = false) := hf
          go_wp2_with (go_at_call 24; go_must (refine (fits2_any n HMN.out _).mono ?_; rintro e w1 ⟨rfl, hb1⟩; have HB1 := Lib.hid hb1; clear hb1; rw [HF2.out]))
          go_ret
          exact RetBW.mk' (by rw [HF.out, HQ2.out, HF2.out]; rfl) (below_box HB.out HB1.out)
        · have HF2 : Hid (fitB n = true) := hf
          go_wp2_with (go_at_call 24; go_must (refine (fits2_any n HMN.out _).mono ?_; rintro e w1 ⟨rfl, hb1⟩; have HB1 := Lib.hid hb1; clear hb1; rw [HF2.out]))
          go_roundg (l.length - (i + 1))
          case measure => omega
          case rel => exact ⟨i + 1, by go_num, by omega, below_box HB.out HB1.out, by show _ = _; rw [HQ2.out, HF2.out]; rfl⟩
      · have hle : (l.length : Int) ≤ (i : Int) := by omega
        have HF2 : Hid (l.all fitB = true) := by
          show _ = _; rw [HQ.out, List.drop_eq_nil_of_le (by omega)]; rfl
        go_wp2_with fail
        go_ret
        exact RetBW.mk' (by rw [HF.out, HF2.out]) HB.out
  · have HF : Hid (fitsB l = false) := by show _ = _; simp [fitsB, hl]
    have h1 : (2147483647 : Int) < (l.length : Int) := by omega
    go_enter Tryz.func10, Tryz.ntmps10
    go_wp2_with fail
    go_ret
    exact RetBW.mk' HF.out.symm (Below.refl _ _)
set_option maxHeartbeats 1600000 in
set_option maxRecDepth 100000 in
theorem nodes_off (v : Value) (l : List RN) (hl : l.length ≤ 2147483647) (w : World) (h : NodesS v l w) : Calls Tryz.prog 16 #[v] w (RetN 50 l w) := by
  obtain ⟨A, c, rfl, _⟩ := h.form
  have HN := Lib.hid h
  rename World => w0
  clear h
  go_enter Tryz.func16, Tryz.ntmps16
  go_wp2_with fail
  go_loopg [3, 8] l.length (fun k p3 p8 wr => ∃ i : Nat, p8 = .int .i64 i ∧ i + k = l.length ∧ Hid (Below w0.heap.size w0 wr) ∧ Hid (wr.ownsRow w0.heap.size 50 6 p3 i (nRow (l.take i))))
  case atStart => exact ⟨0, rfl, by omega, Below.refl _ _, own_row_nil _ _ _ _⟩
  case round =>
    obtain ⟨i, rfl, hik, HB, HO⟩ := hrel
    have hi0 : (0 : Int) ≤ (i : Int) := by omega
    have hi1 : (i : Int) ≤ 2147483647 := by omega
    by_cases hlt : i < l.length
    · have hlti : (i : Int) < (l.length : Int) := by omega
      obtain ⟨n, hn⟩ : ∃ n, l[i]? = some n := ⟨l[i], List.getElem?_eq_getElem hlt⟩
      have HT : Hid (nRow (l.take (i + 1)) = nRow (l.take i) ++ nCells n) := by
        show _ = _; rw [← nRow_snoc, List.take_add_one, hn]; rfl
      obtain ⟨q, off, rfl, hq, hc⟩ := NodesS.at_ (HN.out.below HB.out) hn
      have hc0 := hc.c0
      have hc1 := hc.c1
      have hc2 := hc.c2
      have hc3 := hc.c3
      have hc4 := hc.c4
      have hc5 := hc.c5
      have HB1 := Lib.hid (HB.out.alloc HB.out.size (.cells #[.int .i64 n.kind, .int .i64 n.unit, .int .i64 n.depth, .string ⟨⟨n.text⟩⟩, .bool n.before, .bool n.after] 45))
      have HO1 := Lib.hid (HO.out.alloc (.cells #[.int .i64 n.kind, .int .i64 n.unit, .int .i64 n.depth, .string ⟨⟨n.text⟩⟩, .bool n.before, .bool n.after] 45))
      clear hc hn HB HO
      go_wp2_with (at_builtin; go_must (refine wpList_app1 rfl _ _ 31 50 rfl Tryz.underlying31 info50 rfl (by decide) HO1.out HB1.out.size #[.int .i64 n.kind, .int .i64 n.unit, .int .i64 n.depth, .string ⟨⟨n.text⟩⟩, .bool n.before, .bool n.after] rfl (node_one n) (by omega) (by unfold maxLen; omega) rfl (wr.heap.size + 1) (by simp) rfl ?_; intro v' w9 hw9 hg9 hb9 _; have HW9 := Lib.hid hw9; have HB9 := Lib.hid hb9; clear hw9 hg9 hb9))
      go_roundg (l.length - (i + 1))
      case measure => omega
      case rel => exact ⟨i + 1, by go_num, by omega, HB1.out.trans HB9.out, by show World.ownsRow _ _ _ _ _ _ _; rw [HT.out]; exact HW9.out⟩
    · have hle : (l.length : Int) ≤ (i : Int) := by omega
      have hil : i = l.length := by omega
      go_wp2_with fail
      go_ret
      subst hil
      have := HO.out
      rw [List.take_length] at this
      exact ⟨_, rfl, this, HB.out⟩

set_option maxHeartbeats 3200000 in
set_option maxRecDepth 100000 in
theorem tree_off (all ascii : Bool) (v : Value) (l : List RN) (hl : l.length ≤ 2147483647) (ht : ∀ n ∈ l, n.text.length ≤ 2147483647) (hset : l.length ≤ 1000 → ∀ v w, NodesAt v l w → Calls Tryz.prog 28 #[v, .bool all] w (RetN 50 (setR all l) w)) (w : World) (h : NodesS v l w) :
    Calls Tryz.prog 11 #[v, .bool all, .bool ascii] w (RetTree all ascii l w) := by
  obtain ⟨A, c, rfl, _⟩ := h.form
  have HN := Lib.hid h
  have HM := Lib.hid ht
  have HL := Lib.hid hl
  have HSET := Lib.hid hset
  have h2 : (l.length : Int) ≤ 2147483647 := by omega
  rename World => w0
  clear h ht hset
  by_cases hl1 : l.length ≤ 1000
  · have HL1 := Lib.hid hl1
    have h1 : (l.length : Int) ≤ 1000 := by omega
    have HT : Hid (treeOk ascii l = (treeGo 0 l && sizeGo ascii 0 l)) := by show _ = _; unfold treeOk; simp [hl1]
    clear hl1
    cases htg : treeGo 0 l
    · have HTG := Lib.hid htg
      clear htg
      go_enter Tryz.func11, Tryz.ntmps11
      go_wp2_with (first
        | (go_at_call 16; go_must (refine (nodes_off _ l HL.out _ HN.out).mono ?_; rintro e w1 ⟨v1, rfl, ho1, hb1⟩; obtain ⟨A1, c1, rfl⟩ := own_slice ho1; have HN1 := Lib.hid (own_nodes ho1); have HB1 := Lib.hid hb1; clear ho1 hb1))
        | (go_at_call 25; go_must (refine (isTree_any _ l HL1.out HM.out _ HN1.out).mono ?_; rintro e w2 ⟨rfl, hb2⟩; have HB2 := Lib.hid hb2; clear hb2; rw [HTG.out])))
      go_ret2
      exact ⟨below_then HB1.out HB2.out, .inr ⟨by rw [HT.out, HTG.out]; rfl, rfl⟩⟩
    · have HTG := Lib.hid htg
      clear htg
      have HT2 : Hid (treeOk ascii l = sizeGo ascii 0 l) := by show _ = _; rw [HT.out, HTG.out]; rfl
      go_enter Tryz.func11, Tryz.ntmps11
      go_wp2_with (first
        | (go_at_call 16; go_must (refine (nodes_off _ l HL.out _ HN.out).mono ?_; rintro e w1 ⟨v1, rfl, ho1, hb1⟩; obtain ⟨A1, c1, rfl⟩ := own_slice ho1; have HN1 := Lib.hid (own_nodes ho1); have HB1 := Lib.hid hb1; clear ho1 hb1))
        | (go_at_call 25; go_must (refine (isTree_any _ l HL1.out HM.out _ HN1.out).mono ?_; rintro e w2 ⟨rfl, hb2⟩; have HB2 := Lib.hid hb2; have HN2 := Lib.hid (HN1.out.below hb2); clear hb2; rw [HTG.out])))
      have HB02 := Lib.hid (below_then HB1.out HB2.out)
      clear HB1 HB2 HN1
      go_loopg [9, 24] l.length (fun k p9 p24 wr => ∃ (i s : Nat), p24 = .int .i64 i ∧ i + k = l.length ∧ p9 = .int .i64 s ∧ s ≤ 1048576 ∧ Hid (Below w2.heap.size w2 wr) ∧ Hid (sizeGo ascii 0 l = sizeGo ascii s (l.drop i)))
      case atStart => exact ⟨0, 0, rfl, by omega, rfl, by omega, Below.refl _ _, rfl⟩
      case round =>
        obtain ⟨i, s, rfl, hik, rfl, hs, HB, HQ⟩ := hrel
        have hi0 : (0 : Int) ≤ (i : Int) := by omega
        have hi1 : (i : Int) ≤ 1000 := by omega
        have hs0 : (0 : Int) ≤ (s : Int) := by omega
        have hs1 : (s : Int) ≤ 1048576 := by omega
        by_cases hlt : i < l.length
        · have hlti : (i : Int) < (l.length : Int) := by omega
          obtain ⟨n, hn⟩ : ∃ n, l[i]? = some n := ⟨l[i], List.getElem?_eq_getElem hlt⟩
          have HQ2 : Hid (sizeGo ascii 0 l = (!decide (64 < n.depth) && !decide (1048576 < s + n.text.length) && lowB n.text ascii && sizeGo ascii (s + n.text.length) (l.drop (i + 1)))) := by
            show _ = _; rw [HQ.out]
            have : l.drop i = n :: l.drop (i + 1) := by
              obtain ⟨h1, e⟩ := List.getElem?_eq_some_iff.1 hn
              rw [← e]; exact List.drop_eq_getElem_cons h1
            rw [this]; rfl
          have hmn : n.text.length ≤ 2147483647 := HM.out n (List.mem_of_getElem? hn)
          obtain ⟨q, rfl, hq, hc⟩ := (HN2.out.below HB.out).node hn
          have hc0 := hc.c0
          have hc1 := hc.c1
          have hc2 := hc.c2
          have hc3 := hc.c3
          have hc4 := hc.c4
          have hc5 := hc.c5
          have HB1 := Lib.hid (HB.out.alloc HB.out.size (.cells #[.int .i64 n.kind, .int .i64 n.unit, .int .i64 n.depth, .string ⟨⟨n.text⟩⟩, .bool n.before, .bool n.after] 50))
          have hsz := ba_size n.text
          have ht0 : (0 : Int) ≤ (n.text.length : Int) := by omega
          have ht1 : (n.text.length : Int) ≤ 2147483647 := by omega
          have HLOW : Hid (((⟨⟨n.text⟩⟩ : ByteArray).size : Int) ≤ 140737488355328) := by show ((n.text.length : Nat) : Int) ≤ _; omega
          clear hc hn HQ
          by_cases hd : 64 < n.depth
          · have HF : Hid (treeOk ascii l = false) := by show _ = _; rw [HT2.out, HQ2.out]; simp [hd]
            go_wp2_with fail
            go_ret2
            exact ⟨below_then HB02.out HB1.out, .inr ⟨HF.out, rfl⟩⟩
          · have hd' : n.depth ≤ 64 := by omega
            by_cases hz : 1048576 < s + n.text.length
            · have hz' : (1048576 : Int) < (s : Int) + (n.text.length : Int) := by omega
              have HF : Hid (treeOk ascii l = false) := by show _ = _; rw [HT2.out, HQ2.out]; simp [hz]
              go_wp2_with fail
              go_ret2
              exact ⟨below_then HB02.out HB1.out, .inr ⟨HF.out, rfl⟩⟩
            · have hz' : (s : Int) + (n.text.length : Int) ≤ 1048576 := by omega
              cases hlo : lowB n.text ascii
              · have HLO := Lib.hid hlo
                have HF : Hid (treeOk ascii l = false) := by show _ = _; rw [HT2.out, HQ2.out, HLO.out]; simp
                clear hlo
                go_wp2_with (go_at_call 26; go_must (refine (low2_any _ HLOW.out _ _).mono ?_; rintro e w' ⟨rfl, rfl⟩; rw [show lowB (⟨⟨n.text⟩⟩ : ByteArray).data.toList ascii = false from HLO.out]))
                go_ret2
                exact ⟨below_then HB02.out HB1.out, .inr ⟨HF.out, rfl⟩⟩
              · have HLO := Lib.hid hlo
                have HF : Hid (sizeGo ascii 0 l = sizeGo ascii (s + n.text.length) (l.drop (i + 1))) := by show _ = _; rw [HQ2.out, HLO.out]; simp [hd', hz]
                clear hlo
                go_wp2_with (go_at_call 26; go_must (refine (low2_any _ HLOW.out _ _).mono ?_; rintro e w' ⟨rfl, rfl⟩; rw [show lowB (⟨⟨n.text⟩⟩ : ByteArray).data.toList ascii = true from HLO.out]))
                go_roundg (l.length - (i + 1))
                case measure => omega
                case rel => exact ⟨i + 1, s + n.text.length, by go_num, by omega, by go_num, by omega, HB1.out, HF.out⟩
        · have hle : (l.length : Int) ≤ (i : Int) := by omega
          have HF : Hid (treeOk ascii l = true) := by
            show _ = _; rw [HT2.out, HQ.out, List.drop_eq_nil_of_le (by omega)]; rfl
          go_wp2_with (first
            | (go_at_call 28; go_must (refine (HSET.out HL1.out _ _ (HN2.out.below HB.out)).mono ?_; rintro e w3 ⟨v3, rfl, ho3, hb3⟩; have HN3 := Lib.hid (own_nodes ho3); have HB3 := Lib.hid hb3; clear ho3 hb3))
            | (go_at_call 27; go_must (refine (back_any _ (setR all l) (by rw [setR_len]; exact HL.out) _ HN3.out).mono ?_; rintro e w4 ⟨v4, rfl, ho4, hb4⟩; have HO4 := Lib.hid ho4; have HB4 := Lib.hid hb4; clear ho4 hb4)))
          go_ret2
          have ho := HO4.out
          rw [setR_len] at ho
          have hb3 := below_then HB02.out (below_then HB.out HB3.out)
          exact ⟨below_then hb3 HB4.out, .inl ⟨HF.out, _, rfl, own_base hb3.size ho⟩⟩
  · have h1 : (1000 : Int) < (l.length : Int) := by omega
    have HF : Hid (treeOk ascii l = false) := by show _ = _; unfold treeOk; simp [hl1]
    go_enter Tryz.func11, Tryz.ntmps11
    go_wp2_with (go_at_call 16; go_must (refine (nodes_off _ l HL.out _ HN.out).mono ?_; rintro e w1 ⟨v1, rfl, ho1, hb1⟩; have HB1 := Lib.hid hb1; clear ho1 hb1))
    go_ret2
    exact ⟨HB1.out, .inr ⟨HF.out, rfl⟩⟩
end Go.Proofs.YtkfdcbdlcipmfaaGreatFmt
/- Walks: At. -/
set_option linter.unusedVariables false
set_option linter.unusedSimpArgs false
namespace Go.Proofs.YtkfdcbdlcipmfaaGreatFmt
open Go.RowKit Css
variable {F : Go.Stop.Interp} {W0 w w' : World}
def RetAt (mini asc : Bool) (cs : List Int) (l : List RN) (w : World) (e : Ending) (w' : World) : Prop :=
  ∃ (s : ByteArray) (ts : List T) (cl : List Ch), e = .returned (.string s) ∧ Parse 0 (l.map RN.cp) ts [] ∧ Prints asc ts (headBefore ts) cl ∧ (enc (flat cl)).length ≤ cost ts + 1 ∧ s.data.toList = enc (flat (atCh asc mini cs ts cl)) ∧ Below w.heap.size w w'
theorem parse_all {l : List RN} {k : Nat} {ts : List T} (hd : ∀ n ∈ l, 0 ≤ n.depth) (h : Parse 0 (l.map RN.cp) ts ((l.drop k).map RN.cp)) : Parse 0 (l.map RN.cp) ts [] := by
  have h1 := (parse_rest h).1
  cases hdr : l.drop k with
  | nil => rw [hdr] at h; exact h
  | cons n r =>
    rw [hdr] at h1
    have h2 := h1 n.cp (r.map RN.cp) rfl
    have h3 := hd n (List.mem_of_mem_drop (by rw [hdr]; simp))
    have h4 : n.cp.depth = n.depth := rfl
    omega
set_option maxHeartbeats 8000000 in
set_option maxRecDepth 100000 in
theorem At_any (mini asc : Bool) (nm : ByteArray) (cs : List Int) (h : nm.data.toList = enc cs) (hv : AllV cs) (hlow : asc = true → ∀ c ∈ cs, c < 1048576) (hss : nm.size ≤ 2147483647) (l : List RN) (v : Value) (hl : l.length ≤ 1000) (hk : ∀ n ∈ l, NodeK n)
    (hok : ∀ ts, Parse 0 (l.map RN.cp) ts [] → OKl asc ts ∧ cost ts ≤ 134217728) (w : World) (hE : Env F W0 w) (hn : NodesS v l w) : Calls Tryz.prog 19 #[.string nm, v, .bool mini, .bool asc] w (RetAt mini asc cs l w) := by
  have HC := Lib.hid (tokens_rec (l.length + 1) l 0 v w (by omega) hl (by omega) (by omega) hk hn)
  have HP : Hid (∀ k ts, Parse 0 (l.map RN.cp) ts ((l.drop k).map RN.cp) → Parse 0 (l.map RN.cp) ts []) := fun k ts => parse_all fun n hn => (hk n hn).depth.1
  have HE := Lib.hid hE
  have HH := Lib.hid h
  have HV := Lib.hid hv
  have HLOW := Lib.hid hlow
  have HSS := Lib.hid hss
  have HOK := Lib.hid hok
  have HCS : Hid (cs.length ≤ 2147483647) := by
    have h1 := len_le_enc cs
    rw [← h] at h1
    have e : nm.data.toList.length = nm.size := rfl
    show _ ≤ _; omega
  clear hk hE h hv hlow hss hok hl hn
  go_enter Tryz.func19, Tryz.ntmps19
  go_wp2_with (first
    | (go_at_call 33; go_must (refine HC.out.mono ?_; rintro e w1 ⟨ts, k, v', hk', rfl, hp, htk, hb1⟩; have HPA := Lib.hid (HP.out k ts hp); obtain ⟨A', c', hv', htk2⟩ := htk; subst hv'; have htk : TksAt w1 (fun b => w.heap.size ≤ b ∧ b < w1.heap.size) (.slice A' ts.length c') ts := ⟨A', c', rfl, htk2⟩; have HTK := Lib.hid htk; have HB1 := Lib.hid hb1; clear hk' hp htk htk2 hb1))
    | (go_at_call 34; go_must (refine (printed_any mini asc w1.heap.size 87 _ ((HE.out.below HB1.out).below (box_below _ _)).rebase (fun out => ∃ cl, Prints asc ts (headBefore ts) cl ∧ (enc (flat cl)).length ≤ cost ts + 1 ∧ out = enc (flat (atCh asc mini cs ts cl))) ?hx ?hr).mono ?_; (case hx => rintro out ⟨cl, _, _, rfl⟩; rw [at_bytes]; simp); (case hr =>
        intro Wp hbp g W' hlow2 hE2 hst2
        have hbw : Below w1.heap.size w1 Wp := below_then (box_below _ w1) hbp
        have hsame : ∀ b, b < w1.heap.size → W'.heap[b]? = w1.heap[b]? := fun b hb => (hlow2 b (Nat.lt_of_lt_of_le hb hbw.size)).trans (hbw.block b hb)
        have hrb : W'.heap[w1.heap.size]? = some (.cells #[.string nm, .slice A' ts.length c', .slice none 0 0] 89 (0, 0)) := by
          have h1 := blk_below hbp (heap_alloc_new w1 (.cells #[.string nm, .slice A' ts.length c', .slice none 0 0] 89))
          rw [hlow2 _ (Array.getElem?_eq_some_iff.1 h1).1]; exact h1
        have hrl : w1.heap.size < Wp.heap.size := by
          have := hbp.size
          simp at this; omega
        obtain ⟨ho1, ho2⟩ := HOK.out ts HPA.out
        refine (printRule_at (F := F) (W0 := Wp) g w1.heap.size mini asc cs HV.out HLOW.out nm HH.out HSS.out ts (.slice A' ts.length c') W' [] ho2 ho1 (HTK.out.keep fun b hb => ⟨Nat.lt_of_lt_of_le hb.2 hbw.size, hsame b hb.2⟩) hE2 hst2 (by have := HCS.out; simp; omega) hrl _ 89 hrb rfl rfl rfl).mono ?_
        rintro e' w4 ⟨rfl, cl, c1, c2, c3⟩
        exact ⟨rfl, _, ⟨cl, c1, c2, rfl⟩, by simpa using c3⟩); rintro e w3 ⟨s, rfl, ⟨cl, c1, c2, c3⟩, hb3⟩; have HR : Hid (Prints asc ts (headBefore ts) cl ∧ (enc (flat cl)).length ≤ cost ts + 1 ∧ s.data.toList = enc (flat (atCh asc mini cs ts cl))) := ⟨c1, c2, c3⟩; have HB3 := Lib.hid hb3; clear c1 c2 c3 hb3)))
  go_ret
  exact ⟨s, ts, cl, rfl, HPA.out, HR.out.1, HR.out.2.1, HR.out.2.2, below_then (below_then HB1.out (box_below _ _)) HB3.out⟩
end Go.Proofs.YtkfdcbdlcipmfaaGreatFmt
/- Walks: wakes. -/
set_option linter.unusedVariables false
set_option linter.unusedSimpArgs false
namespace Go.Proofs.YtkfdcbdlcipmfaaGreatFmt
open Go.RowKit Css
variable {F : Go.Stop.Interp} {W0 w w' : World}
def wn : RN := ⟨29, 0, 0, [97], false, false⟩
theorem dec97 : dec [97] = [97] := dec_low (c := 97) (by omega)
def wT : T := .mk 29 0 [97] false false []
theorem wn_cp : wn.cp = ⟨29, 0, 0, [97], false, false⟩ := by
  show (⟨29, if (29 : Int) = 26 then 0 else 0, 0, dec [97], false, false⟩ : N) = _
  rw [dec97]; rfl
theorem wake_parse {ts : List T} (h : Parse 0 ([wn].map RN.cp) ts []) : ts = [wT] := by
  rw [List.map_cons, List.map_nil, wn_cp] at h
  cases h with
  | leaf _ _ _ ts _ hd ho hp =>
    cases hp
    rfl
  | node _ _ _ _ _ _ _ hd ho => exact absurd ho (by decide)
theorem wake_ok : OKl false [wT] := by
  have hg : Css.Good false [97] := fun c hc => by
    simp at hc; subst hc
    exact ⟨by unfold Valid; omega, fun h => by cases h⟩
  exact .cons _ _ (.name (.inl rfl) (by simp [wT, T.text]) hg) .nil .nil (fun u us h => by cases h)
theorem wake_cost : cost [wT] ≤ 134217728 := by rw [cost_cons]; simp [wT, T.text, T.kids, cost]
theorem wake_bytes {cl : List Ch} (h : Prints false [wT] (headBefore [wT]) cl) : enc (flat (atCh false true [120] [wT] cl)) = [64, 120, 32, 97, 59] := by
  have hc : flat cl = [97] := by
    generalize hts : [wT] = ts at h
    generalize hhas : headBefore ts = has at h
    cases h with
    | nil => cases hts
    | last => cases hts
    | plain t ts has ws out rest h1 h2 h3 h4 h5 =>
      injection hts with e1 e2
      subst e1
      subst e2
      have hw : ws = [] := h2 hhas.symm
      subst hw
      have hr : rest = [] := prints_nil h5 rfl
      subst hr
      have hk : wT.kind = 29 := rfl
      cases h4 with
      | ident => decide
      | func _ h => exact absurd h (by decide)
      | dim h => exact absurd h (by decide)
      | atk h => exact absurd h (by decide)
      | hash h => exact absurd h (by decide)
      | str _ _ h => exact absurd h (by decide)
      | plain h => exact absurd hk h
    | opened t ts has ws nl out kc rest h1 h2 h3 =>
      injection hts with e1 e2
      subst e1
      exact absurd h3 (by decide)
  rw [at_bytes, hc]
  decide
theorem wn_node : NodeK wn := ⟨by decide, fun h => by exact absurd h (by decide), by show enc (dec [97]) = [97]; rw [dec97]; decide, by decide⟩
set_option maxHeartbeats 8000000 in
set_option maxRecDepth 100000 in
theorem wakes_any (w : World) (hE : Env F W0 w) : Calls Tryz.prog 13 #[] w (RetBW true w) := by
  have HE := Lib.hid hE
  clear hE
  go_enter Tryz.func13, Tryz.ntmps13
  go_wp2_with (go_at_call 19; go_must (refine (At_any (F := F) (W0 := W0) true false ⟨#[120]⟩ [120] rfl (fun c hc => by simp at hc; subst hc; unfold Valid; omega) (fun h => by cases h) (by decide) [wn] (.slice (some ⟨w.heap.size, 0, none⟩) 1 1) (by decide) (fun n hn => by simp at hn; subst hn; exact wn_node) (fun ts hp => by rw [wake_parse hp]; exact ⟨wake_ok, wake_cost⟩) _ (HE.out.below (box_below _ _)) ?hn).mono ?_; (case hn => refine ⟨_, _, rfl, by decide, fun _ => ⟨_, 0, rfl, by simp, fun i x hx => ?_⟩⟩; rw [Nat.zero_add]; exact (cell_blk (heap_alloc_new w _) i).trans (by rw [← hx, ← Array.getElem?_toList]; rfl)); rintro e w1 ⟨s, ts, cl, rfl, hp, hpr, _, hs, hb⟩; have hts := wake_parse hp; subst hts; have hsb := hs.trans (wake_bytes hpr); have hse : s = ⟨#[64, 120, 32, 97, 59]⟩ := ByteArray.ext (Array.toList_inj.1 hsb); subst hse; have HB := Lib.hid (below_then (box_below _ _) hb); clear hp hpr hs hb hsb))
  go_ret
  exact RetBW.mk' rfl HB.out
end Go.Proofs.YtkfdcbdlcipmfaaGreatFmt
/- Walks: the statements: whether a token that was read is an item. Printed by genL5.py. -/
set_option linter.unusedVariables false
set_option linter.unusedSimpArgs false
namespace Go.Proofs.YtkfdcbdlcipmfaaGreatFmt
open Go.RowKit Css
abbrev rdV (k : Int) (st en u : Nat) (id : Bool) (t : ByteArray) (sp : Bool) : Value := .agg #[.int .i64 k, .int .i64 st, .int .i64 en, .int .i64 u, .bool id, .string t, .bool sp]
abbrev iV (k u : Int) (t : ByteArray) (sp : Int) : Value := .agg #[.int .i64 k, .int .i64 u, .string t, .int .i64 sp]
theorem is_below (a b : Obj) (w : World) : Hid (Below w.heap.size w ((w.alloc a).alloc b)) :=
  ((Below.refl _ _).alloc (Nat.le_refl _) _).alloc (by show _ ≤ (w.heap.push _).size; rw [Array.size_push]; omega) _

set_option maxHeartbeats 1600000 in
set_option maxRecDepth 100000 in
theorem is_k29 (s t : ByteArray) (st en u : Nat) (hse : st ≤ en) (hes : en ≤ s.size) (hs : s.size ≤ 2147483647) (id sp : Bool) (xu xs : Int) (w : World) :
    Calls Tryz.prog 32 #[.string s, rdV 29 st en u id t sp, iV 29 xu t xs] w (RetBW true w) := by
  have HB := is_below (.cells #[.int .i64 29, .int .i64 st, .int .i64 en, .int .i64 u, .bool id, .string t, .bool sp] 64) (.cells #[.int .i64 29, .int .i64 xu, .string t, .int .i64 xs] 34) w
  have h1 : (st : Int) ≤ (en : Int) := by omega
  have h2 : (en : Int) ≤ (s.size : Int) := by omega
  have h0 : (0 : Int) ≤ (st : Int) := by omega
  have h3 : (s.size : Int) ≤ 2147483647 := by omega
  clear hse hes hs
  go_enter Tryz.func32, Tryz.ntmps32
  go_wp2_with fail
  go_ret
  exact RetBW.mk' rfl HB.out

set_option maxHeartbeats 1600000 in
set_option maxRecDepth 100000 in
theorem is_k27 (s t : ByteArray) (st en u : Nat) (hse : st ≤ en) (hes : en ≤ s.size) (hs : s.size ≤ 2147483647) (id sp : Bool) (xu xs : Int) (w : World) :
    Calls Tryz.prog 32 #[.string s, rdV 27 st en u id t sp, iV 27 xu t xs] w (RetBW true w) := by
  have HB := is_below (.cells #[.int .i64 27, .int .i64 st, .int .i64 en, .int .i64 u, .bool id, .string t, .bool sp] 64) (.cells #[.int .i64 27, .int .i64 xu, .string t, .int .i64 xs] 34) w
  have h1 : (st : Int) ≤ (en : Int) := by omega
  have h2 : (en : Int) ≤ (s.size : Int) := by omega
  have h0 : (0 : Int) ≤ (st : Int) := by omega
  have h3 : (s.size : Int) ≤ 2147483647 := by omega
  clear hse hes hs
  go_enter Tryz.func32, Tryz.ntmps32
  go_wp2_with fail
  go_ret
  exact RetBW.mk' rfl HB.out

set_option maxHeartbeats 1600000 in
set_option maxRecDepth 100000 in
theorem is_k1 (s t : ByteArray) (st en u : Nat) (hse : st ≤ en) (hes : en ≤ s.size) (hs : s.size ≤ 2147483647) (id sp : Bool) (xu xs : Int) (w : World) :
    Calls Tryz.prog 32 #[.string s, rdV 1 st en u id t sp, iV 1 xu t xs] w (RetBW true w) := by
  have HB := is_below (.cells #[.int .i64 1, .int .i64 st, .int .i64 en, .int .i64 u, .bool id, .string t, .bool sp] 64) (.cells #[.int .i64 1, .int .i64 xu, .string t, .int .i64 xs] 34) w
  have h1 : (st : Int) ≤ (en : Int) := by omega
  have h2 : (en : Int) ≤ (s.size : Int) := by omega
  have h0 : (0 : Int) ≤ (st : Int) := by omega
  have h3 : (s.size : Int) ≤ 2147483647 := by omega
  clear hse hes hs
  go_enter Tryz.func32, Tryz.ntmps32
  go_wp2_with fail
  go_ret
  exact RetBW.mk' rfl HB.out

set_option maxHeartbeats 1600000 in
set_option maxRecDepth 100000 in
theorem is_k28 (s t : ByteArray) (st en u : Nat) (hse : st ≤ en) (hes : en ≤ s.size) (hs : s.size ≤ 2147483647) (id sp : Bool) (xu xs : Int) (w : World) :
    Calls Tryz.prog 32 #[.string s, rdV 28 st en u id t sp, iV 28 xu t xs] w (RetBW true w) := by
  have HB := is_below (.cells #[.int .i64 28, .int .i64 st, .int .i64 en, .int .i64 u, .bool id, .string t, .bool sp] 64) (.cells #[.int .i64 28, .int .i64 xu, .string t, .int .i64 xs] 34) w
  have h1 : (st : Int) ≤ (en : Int) := by omega
  have h2 : (en : Int) ≤ (s.size : Int) := by omega
  have h0 : (0 : Int) ≤ (st : Int) := by omega
  have h3 : (s.size : Int) ≤ 2147483647 := by omega
  clear hse hes hs
  go_enter Tryz.func32, Tryz.ntmps32
  go_wp2_with fail
  go_ret
  exact RetBW.mk' rfl HB.out

set_option maxHeartbeats 1600000 in
set_option maxRecDepth 100000 in
theorem is_k36 (s t : ByteArray) (st en u : Nat) (hse : st ≤ en) (hes : en ≤ s.size) (hs : s.size ≤ 2147483647) (id sp : Bool) (xu xs : Int) (w : World) :
    Calls Tryz.prog 32 #[.string s, rdV 36 st en u id t sp, iV 36 xu t xs] w (RetBW true w) := by
  have HB := is_below (.cells #[.int .i64 36, .int .i64 st, .int .i64 en, .int .i64 u, .bool id, .string t, .bool sp] 64) (.cells #[.int .i64 36, .int .i64 xu, .string t, .int .i64 xs] 34) w
  have h1 : (st : Int) ≤ (en : Int) := by omega
  have h2 : (en : Int) ≤ (s.size : Int) := by omega
  have h0 : (0 : Int) ≤ (st : Int) := by omega
  have h3 : (s.size : Int) ≤ 2147483647 := by omega
  clear hse hes hs
  go_enter Tryz.func32, Tryz.ntmps32
  go_wp2_with fail
  go_ret
  exact RetBW.mk' rfl HB.out

set_option maxHeartbeats 1600000 in
set_option maxRecDepth 100000 in
theorem is_k8 (s t t2 : ByteArray) (st en u : Nat) (hse : st ≤ en) (hes : en ≤ s.size) (hs : s.size ≤ 2147483647) (id sp : Bool) (xu xs : Int) (w : World) :
    Calls Tryz.prog 32 #[.string s, rdV 8 st en u id t sp, iV 8 xu t2 xs] w (RetBW true w) := by
  have HB := is_below (.cells #[.int .i64 8, .int .i64 st, .int .i64 en, .int .i64 u, .bool id, .string t, .bool sp] 64) (.cells #[.int .i64 8, .int .i64 xu, .string t2, .int .i64 xs] 34) w
  have h1 : (st : Int) ≤ (en : Int) := by omega
  have h2 : (en : Int) ≤ (s.size : Int) := by omega
  have h0 : (0 : Int) ≤ (st : Int) := by omega
  have h3 : (s.size : Int) ≤ 2147483647 := by omega
  clear hse hes hs
  go_enter Tryz.func32, Tryz.ntmps32
  go_wp2_with fail
  go_ret
  exact RetBW.mk' rfl HB.out

set_option maxHeartbeats 1600000 in
set_option maxRecDepth 100000 in
theorem is_k7 (s t t2 : ByteArray) (st en u : Nat) (hse : st ≤ en) (hes : en ≤ s.size) (hs : s.size ≤ 2147483647) (id sp : Bool) (xu xs : Int) (w : World) :
    Calls Tryz.prog 32 #[.string s, rdV 7 st en u id t sp, iV 7 xu t2 xs] w (RetBW true w) := by
  have HB := is_below (.cells #[.int .i64 7, .int .i64 st, .int .i64 en, .int .i64 u, .bool id, .string t, .bool sp] 64) (.cells #[.int .i64 7, .int .i64 xu, .string t2, .int .i64 xs] 34) w
  have h1 : (st : Int) ≤ (en : Int) := by omega
  have h2 : (en : Int) ≤ (s.size : Int) := by omega
  have h0 : (0 : Int) ≤ (st : Int) := by omega
  have h3 : (s.size : Int) ≤ 2147483647 := by omega
  clear hse hes hs
  go_enter Tryz.func32, Tryz.ntmps32
  go_wp2_with fail
  go_ret
  exact RetBW.mk' rfl HB.out

set_option maxHeartbeats 1600000 in
set_option maxRecDepth 100000 in
theorem is_k6 (s t t2 : ByteArray) (st en u : Nat) (hse : st ≤ en) (hes : en ≤ s.size) (hs : s.size ≤ 2147483647) (id sp : Bool) (xu xs : Int) (w : World) :
    Calls Tryz.prog 32 #[.string s, rdV 6 st en u id t sp, iV 6 xu t2 xs] w (RetBW true w) := by
  have HB := is_below (.cells #[.int .i64 6, .int .i64 st, .int .i64 en, .int .i64 u, .bool id, .string t, .bool sp] 64) (.cells #[.int .i64 6, .int .i64 xu, .string t2, .int .i64 xs] 34) w
  have h1 : (st : Int) ≤ (en : Int) := by omega
  have h2 : (en : Int) ≤ (s.size : Int) := by omega
  have h0 : (0 : Int) ≤ (st : Int) := by omega
  have h3 : (s.size : Int) ≤ 2147483647 := by omega
  clear hse hes hs
  go_enter Tryz.func32, Tryz.ntmps32
  go_wp2_with fail
  go_ret
  exact RetBW.mk' rfl HB.out

set_option maxHeartbeats 1600000 in
set_option maxRecDepth 100000 in
theorem is_rest (k : Int) (hk : ¬ nameLikeK k) (hk2 : k ≠ 26) (hk3 : ¬ isClose k) (s t t2 : ByteArray) (st en u : Nat) (hse : st ≤ en) (hes : en ≤ s.size) (hs : s.size ≤ 2147483647) (hraw : s.extract st en = t2) (id sp : Bool) (xu xs : Int) (w : World) :
    Calls Tryz.prog 32 #[.string s, rdV k st en u id t sp, iV k xu t2 xs] w (RetBW true w) := by
  have HB := is_below (.cells #[.int .i64 k, .int .i64 st, .int .i64 en, .int .i64 u, .bool id, .string t, .bool sp] 64) (.cells #[.int .i64 k, .int .i64 xu, .string t2, .int .i64 xs] 34) w
  have h1 : (st : Int) ≤ (en : Int) := by omega
  have h2 : (en : Int) ≤ (s.size : Int) := by omega
  have h0 : (0 : Int) ≤ (st : Int) := by omega
  have h3 : (s.size : Int) ≤ 2147483647 := by omega
  unfold nameLikeK at hk
  unfold isClose at hk3
  have q0 : (k == 29) = false := by simp; omega
  have q1 : (k == 27) = false := by simp; omega
  have q2 : (k == 1) = false := by simp; omega
  have q3 : (k == 28) = false := by simp; omega
  have q4 : (k == 36) = false := by simp; omega
  have q5 : (k == 26) = false := by simp; omega
  have q6 : (k == 8) = false := by simp; omega
  have q7 : (k == 7) = false := by simp; omega
  have q8 : (k == 6) = false := by simp; omega
  have HR := Lib.hid hraw
  clear hse hes hs hk hk2 hk3 hraw
  go_enter Tryz.func32, Tryz.ntmps32
  go_wp2_with fail
  go_ret
  exact RetBW.mk' (by rw [HR.out]; simp) HB.out
end Go.Proofs.YtkfdcbdlcipmfaaGreatFmt
/- Walks: the statements: whether a token that was read is a dimension that is an item. -/
set_option linter.unusedVariables false
set_option linter.unusedSimpArgs false
namespace Go.Proofs.YtkfdcbdlcipmfaaGreatFmt
open Go.RowKit Css
set_option maxHeartbeats 1600000 in
set_option maxRecDepth 100000 in
theorem is_k26 (s t t2 r p d : ByteArray) (st en u : Nat) (hse : st ≤ en) (hes : en ≤ s.size) (hs : s.size ≤ 2147483647) (hr : s.extract st en = r) (hu1 : u ≤ r.size) (hu2 : u ≤ t2.size) (hrs : r.size ≤ 2147483647) (hts : t2.size ≤ 2147483647)
    (hp1 : r.extract 0 u = p) (hp2 : t2.extract 0 u = p) (hd1 : bsOf (enc (name (dec (r.extract u r.size).data.toList)).1) = d) (hd2 : t2.extract u t2.size = d) (id sp : Bool) (xs : Int) (w : World) :
    Calls Tryz.prog 32 #[.string s, rdV 26 st en u id t sp, iV 26 u t2 xs] w (RetBW true w) := by
  have HB := is_below (.cells #[.int .i64 26, .int .i64 st, .int .i64 en, .int .i64 u, .bool id, .string t, .bool sp] 64) (.cells #[.int .i64 26, .int .i64 u, .string t2, .int .i64 xs] 34) w
  have h1 : (st : Int) ≤ (en : Int) := by omega
  have h2 : (en : Int) ≤ (s.size : Int) := by omega
  have h0 : (0 : Int) ≤ (st : Int) := by omega
  have h3 : (s.size : Int) ≤ 2147483647 := by omega
  have h4 : (0 : Int) ≤ (u : Int) := by omega
  have h5 : (u : Int) ≤ (r.size : Int) := by omega
  have h6 : (u : Int) ≤ (t2.size : Int) := by omega
  have h7 : (r.size : Int) ≤ 2147483647 := by omega
  have h8 : (t2.size : Int) ≤ 2147483647 := by omega
  have HD := Lib.hid hd1
  have HX : Hid (((r.extract u r.size).size : Int) ≤ 140737488355328) := by
    show _ ≤ _
    rw [ByteArray.size_extract]; omega
  clear hse hes hs hu1 hu2 hrs hts hd1
  go_enter Tryz.func32, Tryz.ntmps32
  go_wp2_with fail
  go_region_held3 (fun w' => w'.cell? ⟨w.heap.size, 3, none⟩ = some (.int .i64 u) ∧ w'.cell? ⟨w.heap.size + 1, 1, none⟩ = some (.int .i64 u) ∧ w'.cell? ⟨w.heap.size + 1, 2, none⟩ = some (.string t2))
    (first
      | go_keep
      | (go_split_ands
         refine ⟨kc _ _ _ ?_, kc _ _ _ ?_, kc _ _ _ ?_⟩ <;> assumption))
    (first | (go_at_call 35; refine (decoded_any _ HX.out _).mono ?_; rintro e w1 ⟨rfl, hb1⟩; have kc : ∀ b o x, World.cell? _ ⟨b, o, none⟩ = some x → w1.cell? ⟨b, o, none⟩ = some x := fun b o x hx => below_cell hb1 hx; have HB1 := Lib.hid hb1; rw [HD.out]))
  go_wp2_with fail
  go_ret
  exact RetBW.mk' rfl (below_then HB.out.drew HB1.out)
theorem ba_ext {a b : ByteArray} (h : a.data.toList = b.data.toList) : a = b := by
  cases a; cases b; congr; exact Array.ext' h
theorem ext_list (s : ByteArray) (a b : Nat) : (s.extract a b).data.toList = (s.data.toList.take b).drop a := by
  rw [ByteArray.data_extract, Array.toList_extract]
  simp only [List.extract_eq_take_drop]
  rw [List.drop_take]
/-- A token that was read is an item. -/
theorem is_true (s t : ByteArray) (k : Int) (st en u : Nat) (hse : st ≤ en) (hes : en ≤ s.size) (hs : s.size ≤ 2147483647) (x : RIt) (hx : x.text.length ≤ 2147483647) (H : IsB k u t.data.toList (s.extract st en).data.toList x) (id sp : Bool) (w : World) :
    Calls Tryz.prog 32 #[.string s, rdV k st en u id t sp, iV x.kind x.unit ⟨⟨x.text⟩⟩ x.space] w (RetBW true w) := by
  have hk := H.kind
  subst hk
  by_cases hn : nameLikeK x.kind
  · have ht : (⟨⟨x.text⟩⟩ : ByteArray) = t := ba_ext (H.name hn).symm
    rw [ht]
    unfold nameLikeK at hn
    rcases hn with h | h | h | h | h <;> rw [h]
    · exact is_k29 s t st en u hse hes hs id sp _ _ w
    · exact is_k27 s t st en u hse hes hs id sp _ _ w
    · exact is_k1 s t st en u hse hes hs id sp _ _ w
    · exact is_k28 s t st en u hse hes hs id sp _ _ w
    · exact is_k36 s t st en u hse hes hs id sp _ _ w
  by_cases h26 : x.kind = 26
  · obtain ⟨a1, a2, a3, a4, a5⟩ := H.dim h26
    rw [h26, ← a1]
    have hl : (s.extract st en).data.toList.length = (s.extract st en).size := rfl
    refine is_k26 s t ⟨⟨x.text⟩⟩ (s.extract st en) ((s.extract st en).extract 0 u) (bsOf (enc (name (dec ((s.extract st en).extract u (s.extract st en).size).data.toList)).1)) st en u hse hes hs rfl (by omega) a3 (by rw [ByteArray.size_extract]; omega) hx rfl ?_ rfl ?_ id sp _ w
    · refine ba_ext ?_
      rw [ext_list, ext_list, List.drop_zero, List.drop_zero]
      exact a4.symm
    · refine ba_ext ?_
      rw [ext_list]
      show (x.text.take x.text.length).drop u = enc _
      rw [List.take_length, ← a5]
      have e : ((s.extract st en).extract u (s.extract st en).size).data.toList = (s.extract st en).data.toList.drop u := by
        rw [ext_list (s.extract st en), ← hl, List.take_length]
      rw [e]
  by_cases hc : isClose x.kind
  · unfold isClose at hc
    rcases hc with h | h | h <;> rw [h]
    · exact is_k8 s t _ st en u hse hes hs id sp _ _ w
    · exact is_k7 s t _ st en u hse hes hs id sp _ _ w
    · exact is_k6 s t _ st en u hse hes hs id sp _ _ w
  · exact is_rest x.kind hn h26 hc s t _ st en u hse hes hs (ba_ext (H.rest hn h26 hc)) id sp _ _ w
end Go.Proofs.YtkfdcbdlcipmfaaGreatFmt
/- Walks: the statements: what is read of a text. -/
set_option linter.unusedVariables false
set_option linter.unusedSimpArgs false
namespace Go.Proofs.YtkfdcbdlcipmfaaGreatFmt
open Go.RowKit Css
theorem info64 : (Tryz.prog.info? 64).map (fun i => (i.zero, i.size, i.bytes)) = some (some (.agg #[.int .i64 0, .int .i64 0, .int .i64 0, .int .i64 0, .bool false, .string ⟨#[]⟩, .bool false]), 7, 64) := by kernel_rfl
theorem TkRow.len {s : ByteArray} {l : List (Tk × List Int × List Int)} {xs : List Value} (h : TkRow s l xs) : xs.length = l.length * 6 := by
  induction h with
  | nil => rfl
  | snoc l xs x id h ih => rw [List.length_append, List.length_append, ih]; simp [tkCells]; omega
theorem TkRow.get {s : ByteArray} {l : List (Tk × List Int × List Int)} {xs : List Value} (h : TkRow s l xs) {i : Nat} {x : Tk × List Int × List Int} (hi : l[i]? = some x) : ∃ id, ∀ j y, (tkCells s x id)[j]? = some y → xs[i * 6 + j]? = some y := by
  induction h with
  | nil => simp at hi
  | snoc l xs y id h ih =>
    have hl := h.len
    by_cases hlt : i < l.length
    · rw [List.getElem?_append_left hlt] at hi
      obtain ⟨id', h'⟩ := ih hi
      refine ⟨id', fun j z hz => ?_⟩
      have hj : j < 6 := (List.getElem?_eq_some_iff.1 hz).1
      rw [List.getElem?_append_left (by omega)]
      exact h' j z hz
    · have hlt2 := (List.getElem?_eq_some_iff.1 hi).1
      rw [List.length_append] at hlt2
      simp only [List.length_cons, List.length_nil] at hlt2
      have e : i = l.length := by omega
      subst e
      simp at hi
      subst hi
      refine ⟨id, fun j z hz => ?_⟩
      rw [List.getElem?_append_right (by omega)]
      have e : l.length * 6 + j - xs.length = j := by omega
      rw [e]; exact hz
theorem keep_box {w w9 : World} {O O2 : Obj} {r : Option Nat} (hg : ((w.alloc O).alloc O2).grownBy w9 r) (hne : some w.heap.size ≠ r) : w9.heap[w.heap.size]? = some O := by
  rw [hg.block w.heap.size (by show _ < ((w.heap.push O).push O2).size; simp; omega) hne]
  show ((w.heap.push O).push O2)[w.heap.size]? = _
  rw [Array.getElem?_push, if_neg (by simp), Array.getElem?_push_size]
def rdCells (s : ByteArray) (y : (Tk × List Int × List Int) × Bool) (id : Bool) : List Value := tkCells s y.1 id ++ [.bool y.2]
inductive RdRow (s : ByteArray) : List ((Tk × List Int × List Int) × Bool) → List Value → Prop
  | nil : RdRow s [] []
  | snoc (l : List ((Tk × List Int × List Int) × Bool)) (xs : List Value) (y : (Tk × List Int × List Int) × Bool) (id : Bool) : RdRow s l xs → RdRow s (l ++ [y]) (xs ++ rdCells s y id)
theorem RdRow.len {s : ByteArray} {l : List ((Tk × List Int × List Int) × Bool)} {xs : List Value} (h : RdRow s l xs) : xs.length = l.length * 7 := by
  induction h with
  | nil => rfl
  | snoc l xs x id h ih => rw [List.length_append, List.length_append, ih]; simp [rdCells, tkCells]; omega
theorem RdRow.get {s : ByteArray} {l : List ((Tk × List Int × List Int) × Bool)} {xs : List Value} (h : RdRow s l xs) {i : Nat} {x : (Tk × List Int × List Int) × Bool} (hi : l[i]? = some x) : ∃ id, ∀ j y, (rdCells s x id)[j]? = some y → xs[i * 7 + j]? = some y := by
  induction h with
  | nil => simp at hi
  | snoc l xs y id h ih =>
    have hl := h.len
    by_cases hlt : i < l.length
    · rw [List.getElem?_append_left hlt] at hi
      obtain ⟨id', h'⟩ := ih hi
      refine ⟨id', fun j z hz => ?_⟩
      have hj : j < 7 := (List.getElem?_eq_some_iff.1 hz).1
      rw [List.getElem?_append_left (by omega)]
      exact h' j z hz
    · have hlt2 := (List.getElem?_eq_some_iff.1 hi).1
      rw [List.length_append] at hlt2
      simp only [List.length_cons, List.length_nil] at hlt2
      have e : i = l.length := by omega
      subst e
      simp at hi
      subst hi
      refine ⟨id, fun j z hz => ?_⟩
      rw [List.getElem?_append_right (by omega)]
      have e : l.length * 7 + j - xs.length = j := by omega
      rw [e]; exact hz
theorem rd_one (s : ByteArray) (y : (Tk × List Int × List Int) × Bool) (id : Bool) : ∀ u ∈ (#[Value.int .i64 y.1.1.kind, .int .i64 (pos s y.1.2.1 : Nat), .int .i64 (pos s y.1.2.2 : Nat), .int .i64 (y.1.1.unit : Nat), .bool id, .string (bsOf (enc y.1.1.text)), .bool y.2] : Array Value).toList, u.oneCell' = true := by simp [Value.oneCell']
/-- What is returned: what is read of a text that is read to its end. -/
def RetRd (s : ByteArray) (w : World) (e : Ending) (w' : World) : Prop :=
  ∃ (v : Value) (xs : List Value), e = .returned (.tuple #[v, .bool true]) ∧ w'.ownsRow w.heap.size 64 7 v (rdP (tokens (dec s.data.toList)).1 false).length xs ∧ RdRow s (rdP (tokens (dec s.data.toList)).1 false) xs ∧ Below w.heap.size w w'
set_option maxHeartbeats 3200000 in
set_option maxRecDepth 100000 in
theorem reads_true (s : ByteArray) (hs : (s.size : Int) ≤ 2147483647) (hp : isPlainB s.data.toList = true) (hc : (tokens (dec s.data.toList)).2.1 = 0) (ho : (tokens (dec s.data.toList)).2.2 = false) (hlen : (tokens (dec s.data.toList)).1.length ≤ 2147483647) (w : World) :
    Calls Tryz.prog 31 #[.string s] w (RetRd s w) := by
  have HS := Lib.hid hs
  have HPL : Hid ((s.size : Int) ≤ 140737488355328) := by show _ ≤ _; omega
  have HP := Lib.hid hp
  have HC := Lib.hid hc
  have HO := Lib.hid ho
  have HLEN := Lib.hid hlen
  clear hs hp hc ho hlen
  rename World => w0
  go_enter Tryz.func31, Tryz.ntmps31
  go_wp2_with (go_at_call 43; go_must (refine (plain_any _ HPL.out _).mono ?_; rintro e w' ⟨rfl, rfl⟩; rw [HP.out]))
  refine (tokens_any s HS.out _).mono ?_
  rintro e w1 ⟨out, A, c, xs, rfl, hown, hrow, hb⟩
  rw [HC.out, HO.out]
  generalize htl : (tokens (dec s.data.toList)).1 = tl at hown hrow HLEN
  have HTL := Lib.hid htl
  clear htl
  have HB := Lib.hid hb
  have HROW := Lib.hid hrow
  obtain ⟨Ao, co, hout⟩ := own_slice hown
  subst hout
  have HOWN := Lib.hid hown
  clear hb hown hrow
  have hln := HLEN.out
  go_wp2_with fail
  go_loopg [7, 8, 22] tl.length (fun k p7 p8 p22 wr => ∃ (i : Nat) (acc : List ((Tk × List Int × List Int) × Bool)) (sp : Bool), p22 = .int .i64 i ∧ i + k = tl.length ∧ p8 = .bool sp ∧ acc.length ≤ i ∧ Hid (Below w1.heap.size w1 wr) ∧ Hid (acc ++ rdP (tl.drop i) sp = rdP tl false) ∧ Hid (∃ ys, wr.ownsRow w1.heap.size 64 7 p7 acc.length ys ∧ RdRow s acc ys))
  case atStart => exact ⟨0, [], false, rfl, by omega, rfl, by simp, Below.refl _ _, rfl, [], World.ownsRow_nil _ _ _ _, .nil⟩
  case round =>
    obtain ⟨i, acc, sp, rfl, hik, rfl, hacc, HB1, HQ, HR⟩ := hrel
    have hi0 : (0 : Int) ≤ (i : Int) := by omega
    have hi1 : (i : Int) ≤ 2147483647 := by omega
    by_cases hlt : i < tl.length
    · have hlti : (i : Int) < (tl.length : Int) := by omega
      obtain ⟨x, hx⟩ : ∃ x, tl[i]? = some x := ⟨tl[i], List.getElem?_eq_getElem hlt⟩
      have hdrop : tl.drop i = x :: tl.drop (i + 1) := by
        obtain ⟨h1, e⟩ := List.getElem?_eq_some_iff.1 hx
        rw [← e]; exact List.drop_eq_getElem_cons h1
      obtain ⟨id, hcells⟩ := HROW.out.get hx
      obtain ⟨q, cap, hv, _, _⟩ := HOWN.out.form (by omega)
      have hA : Ao = some ⟨q, 0, none⟩ := by injection hv
      subst hA
      have hq : q < w1.heap.size := (own_lt HOWN.out rfl).1
      have hcc : ∀ j y, (tkCells s x id)[j]? = some y → wr.cell? ⟨q, i * 6 + j, none⟩ = some y := fun j y hy => by
        have h1 := HOWN.out.cells (g := q) rfl _ y (hcells j y hy)
        rw [addr_add0] at h1
        rw [World.cell?_of_block (w := w1) (a := ⟨q, i * 6 + j, none⟩) (HB1.out.block q hq)]; exact h1
      have hc0 : wr.cell? ⟨q, i * 6, none⟩ = some (.int .i64 x.1.kind) := hcc 0 _ rfl
      have hc1 : wr.cell? ⟨q, i * 6 + 1, none⟩ = some (.int .i64 (pos s x.2.1 : Nat)) := hcc 1 _ rfl
      have hc2 : wr.cell? ⟨q, i * 6 + 2, none⟩ = some (.int .i64 (pos s x.2.2 : Nat)) := hcc 2 _ rfl
      have hc3 : wr.cell? ⟨q, i * 6 + 3, none⟩ = some (.int .i64 (x.1.unit : Nat)) := hcc 3 _ rfl
      have hc4 : wr.cell? ⟨q, i * 6 + 4, none⟩ = some (.bool id) := hcc 4 _ rfl
      have hc5 : wr.cell? ⟨q, i * 6 + 5, none⟩ = some (.string (bsOf (enc x.1.text))) := hcc 5 _ rfl
      obtain ⟨ys, hy1, hy2⟩ := HR.out
      have HB2 := Lib.hid (HB1.out.alloc HB1.out.size (.cells #[.int .i64 x.1.kind, .int .i64 (pos s x.2.1 : Nat), .int .i64 (pos s x.2.2 : Nat), .int .i64 (x.1.unit : Nat), .bool id, .string (bsOf (enc x.1.text))] 62))
      have HY1 := Lib.hid (hy1.alloc (.cells #[.int .i64 x.1.kind, .int .i64 (pos s x.2.1 : Nat), .int .i64 (pos s x.2.2 : Nat), .int .i64 (x.1.unit : Nat), .bool id, .string (bsOf (enc x.1.text))] 62))
      have HY2 := Lib.hid hy2
      have HNE : Hid (some wr.heap.size ≠ u7.ownBlock) := by
        intro e
        have := (own_lt hy1 e.symm).1
        omega
      cases hk : (x.1.kind == 38)
      · have hk' : x.1.kind ≠ 38 := by simpa using hk
        have HQ2 : Hid ((acc ++ [(x, sp)]) ++ rdP (tl.drop (i + 1)) false = rdP tl false) := by
          show _ = _; rw [← HQ.out, hdrop]; simp [rdP, hk']
        have hsize : acc.length ≤ 2147483647 := by omega
        clear hdrop hcells hcc hy1 hy2 HQ hv hx HR
        go_wp2_with (at_builtin; go_must (refine wpList_app1 rfl _ _ 58 64 rfl Tryz.underlying58 info64 rfl (by decide) HY1.out HB2.out.size #[.int .i64 x.1.kind, .int .i64 (pos s x.2.1 : Nat), .int .i64 (pos s x.2.2 : Nat), .int .i64 (x.1.unit : Nat), .bool id, .string (bsOf (enc x.1.text)), .bool sp] rfl (rd_one s (x, sp) id) (by omega) (by unfold maxLen; omega) rfl (wr.heap.size + 1) (by simp) rfl ?_; intro v' w9 hw9 hg9 hb9 _; have HW9 := Lib.hid hw9; have HB9 := Lib.hid hb9; have k0 := cell_blk (keep_box hg9 HNE.out) 0; clear hw9 hg9 hb9))
        go_roundg (tl.length - (i + 1))
        case measure => omega
        case rel => exact ⟨i + 1, acc ++ [(x, sp)], false, by go_num, by omega, rfl, by rw [List.length_append]; simp; omega, HB2.out.trans HB9.out, HQ2.out, _, by rw [List.length_append]; exact HW9.out, .snoc _ _ (x, sp) id HY2.out⟩
      · have hk' : x.1.kind = 38 := by simpa using hk
        have HQ2 : Hid (acc ++ rdP (tl.drop (i + 1)) true = rdP tl false) := by
          show _ = _; rw [← HQ.out, hdrop]; simp [rdP, hk']
        clear hk' hdrop hcells hcc hy1 hy2 HQ hv hx HR
        go_wp2_with fail
        go_roundg (tl.length - (i + 1))
        case measure => omega
        case rel => exact ⟨i + 1, acc, true, by go_num, by omega, rfl, by omega, HB2.out, HQ2.out, ys, HY1.out, HY2.out⟩
    · have hle : (tl.length : Int) ≤ (i : Int) := by omega
      have hil : i = tl.length := by omega
      have HF : Hid (acc = rdP tl false) := by
        show _ = _; rw [← HQ.out, hil, List.drop_length]; simp [rdP]
      go_wp2_with fail
      go_ret2
      obtain ⟨ys, hy1, hy2⟩ := HR.out
      rw [HF.out] at hy1 hy2
      unfold RetRd
      rw [HTL.out]
      exact ⟨u7, ys, rfl, own_base HB.out.size hy1, hy2, below_then HB.out HB1.out⟩
end Go.Proofs.YtkfdcbdlcipmfaaGreatFmt
/- Walks: the statements: whether a text is read as items. -/
set_option linter.unusedVariables false
set_option linter.unusedSimpArgs false
namespace Go.Proofs.YtkfdcbdlcipmfaaGreatFmt
open Go.RowKit Css
def iCells (x : RIt) : List Value := [.int .i64 x.kind, .int .i64 x.unit, .string ⟨⟨x.text⟩⟩, .int .i64 x.space]
def iRow (l : List RIt) : List Value := l.flatMap iCells
theorem iRow_len (l : List RIt) : (iRow l).length = l.length * 4 := by
  induction l with
  | nil => rfl
  | cons n r ih => show (iCells n ++ iRow r).length = _; rw [List.length_append, ih]; simp [iCells]; omega
theorem iRow_snoc (l : List RIt) (x : RIt) : iRow (l ++ [x]) = iRow l ++ iCells x := by unfold iRow; simp
theorem iRow_append (l r : List RIt) : iRow (l ++ r) = iRow l ++ iRow r := by unfold iRow; simp
theorem iRow_one (l : List RIt) : ∀ u ∈ iRow l, u.oneCell' = true := by
  intro u hu
  obtain ⟨n, _, hn⟩ := List.mem_flatMap.1 hu
  simp only [iCells, List.mem_cons, List.not_mem_nil, or_false] at hn
  rcases hn with rfl | rfl | rfl | rfl <;> rfl
theorem iRow_get {l : List RIt} {i : Nat} {n : RIt} (h : l[i]? = some n) (j : Nat) (hj : j < 4) : (iRow l)[i * 4 + j]? = (iCells n)[j]? := by
  induction l generalizing i with
  | nil => simp at h
  | cons a t ih =>
    have hl : (iCells a).length = 4 := rfl
    show (iCells a ++ iRow t)[i * 4 + j]? = _
    cases i with
    | zero =>
      simp at h
      subst h
      rw [List.getElem?_append_left (by omega)]; simp
    | succ i =>
      rw [List.getElem?_append_right (by omega), hl]
      have : (i + 1) * 4 + j - 4 = i * 4 + j := by omega
      rw [this]
      exact ih (by simpa using h)
/-- Items that lie in a slice. -/
structure ItemsAt (v : Value) (l : List RIt) (w : World) : Prop where
  form : ∃ A c, v = .slice A l.length c ∧ (l ≠ [] → ∃ q, A = some ⟨q, 0, none⟩ ∧ q < w.heap.size ∧ ∀ i x, (iRow l)[i]? = some x → w.cell? ⟨q, i, none⟩ = some x)
theorem own_items {w : World} {B : Nat} {v : Value} {l : List RIt} (h : w.ownsRow B 34 4 v l.length (iRow l)) : ItemsAt v l w := by
  obtain ⟨A, c, e⟩ := own_slice h
  refine ⟨A, c, e, fun hl => ?_⟩
  obtain ⟨q, cap, hv, hq, hlt⟩ := h.form (List.length_pos_iff.2 hl)
  refine ⟨q, by rw [e] at hv; injection hv, (own_lt h (by rw [hv]; rfl)).1, fun i x hx => ?_⟩
  have := h.cells (g := q) (by rw [hv]; rfl) i x hx
  rw [addr_add0] at this; exact this
/-- A token that was read fits an item. -/
structure HoldOk (s : ByteArray) (spb : Bool) (y : (Tk × List Int × List Int) × Bool) (x : RIt) : Prop where
  isb : IsB y.1.1.kind y.1.1.unit (enc y.1.1.text) (s.extract (pos s y.1.2.1) (pos s y.1.2.2)).data.toList x
  le : pos s y.1.2.1 ≤ pos s y.1.2.2
  len : x.text.length ≤ 2147483647
  sp : spb = true → 0 ≤ x.space → (x.space == 1) = y.2
set_option maxHeartbeats 6400000 in
set_option maxRecDepth 100000 in
theorem holds_true (s : ByteArray) (hs : (s.size : Int) ≤ 2147483647) (hp : isPlainB s.data.toList = true) (hc : (tokens (dec s.data.toList)).2.1 = 0) (ho : (tokens (dec s.data.toList)).2.2 = false) (hlen : (tokens (dec s.data.toList)).1.length ≤ 2147483647)
    (xs : List RIt) (v : Value) (spb : Bool) (w : World) (hi : ItemsAt v xs w) (hl2 : (rdP (tokens (dec s.data.toList)).1 false).length = xs.length)
    (hall : ∀ (i : Nat) (y : (Tk × List Int × List Int) × Bool) (x : RIt), (rdP (tokens (dec s.data.toList)).1 false)[i]? = some y → xs[i]? = some x → HoldOk s spb y x) :
    Calls Tryz.prog 17 #[.string s, v, .bool spb] w (RetBW true w) := by
  have HR := Lib.hid (fun w => reads_true s hs hp hc ho hlen w)
  have HS := Lib.hid hs
  have hgl : (rdP (tokens (dec s.data.toList)).1 false).length ≤ 2147483647 := Nat.le_trans (rdP_len _ _) hlen
  unfold RetRd at HR
  generalize rdP (tokens (dec s.data.toList)).1 false = gl at HR hl2 hall hgl
  have HALL := Lib.hid hall
  have HI := Lib.hid hi
  obtain ⟨A2, c2, hv2, _⟩ := hi.form
  subst hv2
  clear hs hp hc ho hlen hall hi
  rename World => w0
  go_enter Tryz.func17, Tryz.ntmps17
  go_wp2_with fail
  refine (HR.out _).mono ?_
  rintro e w1 ⟨out, ys, rfl, hown, hrow, hb⟩
  have HB := Lib.hid hb
  have HROW := Lib.hid hrow
  obtain ⟨Ao, co, hout⟩ := own_slice hown
  subst hout
  have HOWN := Lib.hid hown
  clear hb hown hrow HR
  have hle2 : ((gl.length : Int) == (xs.length : Int)) = true := by rw [hl2]; simp
  go_wp2_with fail
  go_loopg [9, 27] gl.length (fun k p9 p27 wr => ∃ i : Nat, p27 = .int .i64 i ∧ i + k = gl.length ∧ Hid (Below w1.heap.size w1 wr))
  case atStart => exact ⟨0, rfl, by omega, Below.refl _ _⟩
  case round =>
    obtain ⟨i, rfl, hik, HB1⟩ := hrel
    have hi0 : (0 : Int) ≤ (i : Int) := by omega
    have hi1 : (i : Int) ≤ 2147483647 := by omega
    by_cases hlt : i < gl.length
    · have hlti : (i : Int) < (gl.length : Int) := by omega
      have hltx : (i : Int) < (xs.length : Int) := by omega
      obtain ⟨y, hy⟩ : ∃ y, gl[i]? = some y := ⟨gl[i], List.getElem?_eq_getElem hlt⟩
      obtain ⟨x, hx⟩ : ∃ x, xs[i]? = some x := ⟨xs[i]'(by omega), List.getElem?_eq_getElem (by omega)⟩
      have HOK := Lib.hid (HALL.out i y x hy hx)
      obtain ⟨id, hcells⟩ := HROW.out.get hy
      obtain ⟨q, cap, hv, _, _⟩ := HOWN.out.form (by omega)
      have hA : Ao = some ⟨q, 0, none⟩ := by injection hv
      subst hA
      have hq : q < w1.heap.size := (own_lt HOWN.out rfl).1
      have hcc : ∀ j z, (rdCells s y id)[j]? = some z → wr.cell? ⟨q, i * 7 + j, none⟩ = some z := fun j z hz => by
        have h1 := HOWN.out.cells (g := q) rfl _ z (hcells j z hz)
        rw [addr_add0] at h1
        rw [World.cell?_of_block (w := w1) (a := ⟨q, i * 7 + j, none⟩) (HB1.out.block q hq)]; exact h1
      obtain ⟨A3, c3, hv3, hf3⟩ := HI.out.form
      injection hv3 with e1 _ e3
      subst e1
      subst e3
      obtain ⟨q2, hA2, hq2, hc2⟩ := hf3 (by intro e; subst e; simp at hx)
      subst hA2
      have hxx : ∀ j z, j < 4 → (iCells x)[j]? = some z → wr.cell? ⟨q2, i * 4 + j, none⟩ = some z := fun j z hj hz => by
        have h1 := hc2 (i * 4 + j) z (by rw [iRow_get hx j hj]; exact hz)
        have h2 : q2 < w1.heap.size := Nat.lt_of_lt_of_le hq2 HB.out.size
        rw [World.cell?_of_block (w := w1) (a := ⟨q2, i * 4 + j, none⟩) (HB1.out.block q2 h2), World.cell?_of_block (w := w0) (a := ⟨q2, i * 4 + j, none⟩) (HB.out.block q2 hq2)]; exact h1
      have a0 : wr.cell? ⟨q, i * 7, none⟩ = some (.int .i64 y.1.1.kind) := hcc 0 _ rfl
      have a1 : wr.cell? ⟨q, i * 7 + 1, none⟩ = some (.int .i64 (pos s y.1.2.1 : Nat)) := hcc 1 _ rfl
      have a2 : wr.cell? ⟨q, i * 7 + 2, none⟩ = some (.int .i64 (pos s y.1.2.2 : Nat)) := hcc 2 _ rfl
      have a3 : wr.cell? ⟨q, i * 7 + 3, none⟩ = some (.int .i64 (y.1.1.unit : Nat)) := hcc 3 _ rfl
      have a4 : wr.cell? ⟨q, i * 7 + 4, none⟩ = some (.bool id) := hcc 4 _ rfl
      have a5 : wr.cell? ⟨q, i * 7 + 5, none⟩ = some (.string (bsOf (enc y.1.1.text))) := hcc 5 _ rfl
      have a6 : wr.cell? ⟨q, i * 7 + 6, none⟩ = some (.bool y.2) := hcc 6 _ rfl
      have x0 : wr.cell? ⟨q2, i * 4, none⟩ = some (.int .i64 x.kind) := hxx 0 _ (by decide) rfl
      have x1 : wr.cell? ⟨q2, i * 4 + 1, none⟩ = some (.int .i64 x.unit) := hxx 1 _ (by decide) rfl
      have x2 : wr.cell? ⟨q2, i * 4 + 2, none⟩ = some (.string ⟨⟨x.text⟩⟩) := hxx 2 _ (by decide) rfl
      have x3 : wr.cell? ⟨q2, i * 4 + 3, none⟩ = some (.int .i64 x.space) := hxx 3 _ (by decide) rfl
      have HB2 := Lib.hid (HB1.out.alloc HB1.out.size (.cells #[.int .i64 y.1.1.kind, .int .i64 (pos s y.1.2.1 : Nat), .int .i64 (pos s y.1.2.2 : Nat), .int .i64 (y.1.1.unit : Nat), .bool id, .string (bsOf (enc y.1.1.text)), .bool y.2] 64))
      have HCALL := Lib.hid (fun w => is_true s (bsOf (enc y.1.1.text)) y.1.1.kind (pos s y.1.2.1) (pos s y.1.2.2) y.1.1.unit HOK.out.le pos_le (by have := HS.out; omega) x HOK.out.len HOK.out.isb id y.2 w)
      have HSP := Lib.hid HOK.out.sp
      clear hcells hcc hxx hc2 hf3 hv hy hx HOK
      generalize y.1.1.kind = yk at *
      generalize pos s y.1.2.1 = ya at *
      generalize pos s y.1.2.2 = yb at *
      generalize y.1.1.unit = yu at *
      generalize bsOf (enc y.1.1.text) = yt at *
      generalize y.2 = ysp at *
      have hcase : spb = false ∨ (spb = true ∧ decide (0 ≤ x.space) = false) ∨ (spb = true ∧ 0 ≤ x.space ∧ (x.space == 1) = ysp) := by
        cases spb
        · exact .inl rfl
        · by_cases h0 : 0 ≤ x.space
          · exact .inr (.inr ⟨rfl, h0, HSP.out rfl h0⟩)
          · exact .inr (.inl ⟨rfl, by simpa using h0⟩)
      clear HSP
      rcases hcase with h | ⟨h, hd0⟩ | ⟨h, hd0, hd1⟩ <;> subst h
      all_goals
        go_wp2_with fail
        generalize hW : wr.alloc (.cells #[.int .i64 yk, .int .i64 ya, .int .i64 yb, .int .i64 yu, .bool id, .string yt, .bool ysp] 64) = W
        have hWB : Below wr.heap.size wr W := by rw [← hW]; exact box_below _ _
        have hWb : W.heap[wr.heap.size]? = some (.cells #[.int .i64 yk, .int .i64 ya, .int .i64 yb, .int .i64 yu, .bool id, .string yt, .bool ysp] 64) := by rw [← hW]; exact heap_alloc_new wr _
        rw [hW] at HB2
        obtain ⟨Ix, hne, f, hf1, hf2⟩ := below_class W
        have k0 : ∀ n, (f n).cell? ⟨wr.heap.size, 0, none⟩ = some (.int .i64 yk) := fun n => class_cell hf1 (cell_blk hWb 0) n
        have k1 : ∀ n, (f n).cell? ⟨wr.heap.size, 1, none⟩ = some (.int .i64 (ya : Nat)) := fun n => class_cell hf1 (cell_blk hWb 1) n
        have k2 : ∀ n, (f n).cell? ⟨wr.heap.size, 2, none⟩ = some (.int .i64 (yb : Nat)) := fun n => class_cell hf1 (cell_blk hWb 2) n
        have k3 : ∀ n, (f n).cell? ⟨wr.heap.size, 3, none⟩ = some (.int .i64 (yu : Nat)) := fun n => class_cell hf1 (cell_blk hWb 3) n
        have k4 : ∀ n, (f n).cell? ⟨wr.heap.size, 4, none⟩ = some (.bool id) := fun n => class_cell hf1 (cell_blk hWb 4) n
        have k5 : ∀ n, (f n).cell? ⟨wr.heap.size, 5, none⟩ = some (.string yt) := fun n => class_cell hf1 (cell_blk hWb 5) n
        have k6 : ∀ n, (f n).cell? ⟨wr.heap.size, 6, none⟩ = some (.bool ysp) := fun n => class_cell hf1 (cell_blk hWb 6) n
        have z0 : ∀ n, (f n).cell? ⟨q2, i * 4, none⟩ = some (.int .i64 x.kind) := fun n => class_cell hf1 (below_cell hWB x0) n
        have z1 : ∀ n, (f n).cell? ⟨q2, i * 4 + 1, none⟩ = some (.int .i64 x.unit) := fun n => class_cell hf1 (below_cell hWB x1) n
        have z2 : ∀ n, (f n).cell? ⟨q2, i * 4 + 2, none⟩ = some (.string ⟨⟨x.text⟩⟩) := fun n => class_cell hf1 (below_cell hWB x2) n
        have z3 : ∀ n, (f n).cell? ⟨q2, i * 4 + 3, none⟩ = some (.int .i64 x.space) := fun n => class_cell hf1 (below_cell hWB x3) n
        have HF1 := Lib.hid hf1
        have HF2 := Lib.hid hf2
        clear hWB hWb hf1 hf2 hW
        refine wp_region_class (f := f) (by kernel_rfl) (by kernel_rfl) HF2.out ?_
        repeat (go_big_quiet_step ((go_at_call 32; exact (HCALL.out _).mono fun e w' h => ⟨h.1, class_next HF1.out HF2.out h.2⟩)))
        refine wpQuiet_nil ?_
        intro w9 hw9
        obtain ⟨nq, hw9⟩ := hw9
        subst hw9
        clear k0 k1 k2 k3 k4 k5 k6 z0 z1 z2 z3
        go_wp2_with fail
        go_roundg (gl.length - (i + 1))
        case measure => omega
        case rel => exact ⟨i + 1, by go_num, by omega, HB2.out.trans ((HF1.out nq).mono HB2.out.size)⟩
    · have hle : (gl.length : Int) ≤ (i : Int) := by omega
      go_wp2_with fail
      go_ret
      exact RetBW.mk' rfl (below_then HB.out HB1.out)
end Go.Proofs.YtkfdcbdlcipmfaaGreatFmt
/- Walks: the reference: the items of nodes. -/
set_option linter.unusedVariables false
set_option linter.unusedSimpArgs false
namespace Go.Proofs.YtkfdcbdlcipmfaaGreatFmt
open Go.RowKit Css Go.Maps
theorem info34 : (Tryz.prog.info? 34).map (fun i => (i.zero, i.size, i.bytes)) = some (some (.agg #[.int .i64 0, .int .i64 0, .string ⟨#[]⟩, .int .i64 0]), 4, 40) := by kernel_rfl
theorem info3 : (Tryz.prog.info? 3).map (fun i => (i.zero, i.size, i.bytes)) = some (some (.int .i64 0), 1, 8) := by kernel_rfl
theorem zero4 (w : World) : (zeroValue 4).run Tryz.prog w = .ok (.bool false) w := by kernel_rfl
def opRow (op : List Int) : List Value := op.reverse.map fun k => .int .i64 k
/-- The state of Items. -/
structure IS (B b5 b6 n5 n6 : Nat) (acc : List RIt) (op : List Int) (la fr : Int → Bool) (vo vp : Value) (w : World) : Prop where
  out : w.ownsRow B 34 4 vo acc.length (iRow acc)
  opn : w.ownsRow B 3 1 vp op.length (opRow op)
  m5 : BM Tryz.prog 3 4 b5 n5 la w
  m6 : BM Tryz.prog 3 4 b6 n6 fr w
  ne : b5 ≠ b6
  low : B ≤ b5 ∧ B ≤ b6
theorem own_ty_ne {w : World} {B B' n n' : Nat} {e e' : TypeId} {s s' : Nat} {v v' : Value} {xs xs' : List Value} (h : w.ownsRow B e s v n xs) (h' : w.ownsRow B' e' s' v' n' xs') (hne : e ≠ e') : ∀ q, v.ownBlock = some q → v'.ownBlock ≠ some q := by
  intro q hq hq'
  obtain ⟨c1, f1, h1⟩ := (own_lt h hq).2.2
  obtain ⟨c2, f2, h2⟩ := (own_lt h' hq').2.2
  rw [h1] at h2
  injection h2 with h2
  injection h2 with _ h2 _
  exact hne h2
theorem IS.same {B b5 b6 n5 n6 : Nat} {acc : List RIt} {op : List Int} {la fr : Int → Bool} {vo vp : Value} {w w' : World} (h : IS B b5 b6 n5 n6 acc op la fr vo vp w) (hb : ∀ q, q < w.heap.size → w'.heap[q]? = w.heap[q]?) : IS B b5 b6 n5 n6 acc op la fr vo vp w' :=
  ⟨own_keep h.out fun q hq => hb q (own_lt h.out hq).1, own_keep h.opn fun q hq => hb q (own_lt h.opn hq).1, h.m5.same (hb _ h.m5.lt), h.m6.same (hb _ h.m6.lt), h.ne, h.low⟩
theorem IS.alloc {B b5 b6 n5 n6 : Nat} {acc : List RIt} {op : List Int} {la fr : Int → Bool} {vo vp : Value} {w : World} (h : IS B b5 b6 n5 n6 acc op la fr vo vp w) (o : Obj) : IS B b5 b6 n5 n6 acc op la fr vo vp (w.alloc o) := h.same fun q hq => Below.heap_alloc w o q hq
/-- An item more. -/
theorem IS.item {B b5 b6 n5 n6 : Nat} {acc : List RIt} {op : List Int} {la fr : Int → Bool} {vo vp v' : Value} {w w' : World} {O : Obj} {x : RIt} (h : IS B b5 b6 n5 n6 acc op la fr vo vp w) (hr : w'.ownsRow B 34 4 v' (acc.length + 1) (iRow acc ++ iCells x)) (hg : (w.alloc O).grownBy w' vo.ownBlock) : IS B b5 b6 n5 n6 (acc ++ [x]) op la fr v' vp w' := by
  have ha := h.alloc O
  refine ⟨by rw [iRow_snoc, List.length_append]; exact hr, own_keep ha.opn fun q hq => hg.block q (own_lt ha.opn hq).1 fun e => own_ty_ne ha.opn ha.out (by decide) q hq e.symm, ha.m5.kept hg (ha.m5.ne_own ha.out), ha.m6.kept hg (ha.m6.ne_own ha.out), h.ne, h.low⟩
theorem opRow_cons (k : Int) (op : List Int) : opRow (k :: op) = opRow op ++ [.int .i64 k] := by simp [opRow]
theorem opRow_len (op : List Int) : (opRow op).length = op.length := by simp [opRow]
/-- A kind more to close. -/
theorem IS.push {B b5 b6 n5 n6 : Nat} {acc : List RIt} {op : List Int} {la fr : Int → Bool} {vo vp v' : Value} {w w' : World} {O : Obj} {k : Int} (h : IS B b5 b6 n5 n6 acc op la fr vo vp w) (hr : w'.ownsRow B 3 1 v' (op.length + 1) (opRow op ++ [.int .i64 k])) (hg : (w.alloc O).grownBy w' vp.ownBlock) : IS B b5 b6 n5 n6 acc (k :: op) la fr vo v' w' := by
  have ha := h.alloc O
  refine ⟨own_keep ha.out fun q hq => hg.block q (own_lt ha.out hq).1 fun e => own_ty_ne ha.out ha.opn (by decide) q hq e.symm, by rw [opRow_cons, List.length_cons]; exact hr, ha.m5.kept hg (ha.m5.ne_own ha.opn), ha.m6.kept hg (ha.m6.ne_own ha.opn), h.ne, h.low⟩
/-- A kind less. -/
theorem IS.pop {B b5 b6 n5 n6 : Nat} {acc : List RIt} {k : Int} {op : List Int} {la fr : Int → Bool} {vo : Value} {A : Option Addr} {n c : Nat} {w : World} (h : IS B b5 b6 n5 n6 acc (k :: op) la fr vo (.slice A n c) w) : IS B b5 b6 n5 n6 acc op la fr vo (.slice A op.length c) w := by
  refine ⟨h.out, ?_, h.m5, h.m6, h.ne, h.low⟩
  have h2 := h.opn
  rw [opRow_cons, List.length_cons] at h2
  obtain ⟨h1, h2⟩ := h2
  refine ⟨opRow_len op ▸ (by rw [Nat.mul_one]), ?_⟩
  rcases h2 with ⟨_, h2⟩ | ⟨g, cap, cur, hv, hb, hh, hnc, hcm, hcs, ht⟩
  · simp at h2
  · injection hv with e1 e2 e3
    subst e1
    subst e3
    refine .inr ⟨g, c, cur, rfl, hb, hh, by omega, hcm, hcs, ?_⟩
    have h3 : (opRow op ++ [Value.int .i64 k]).take (op.length * 1) = opRow op := by rw [Nat.mul_one, ← opRow_len op, List.take_left']; rfl
    rw [← h3, ← ht, List.take_take]
    congr 1
    omega
theorem BM.look_run {b n : Nat} {f : Int → Bool} {w : World} (hown : BM Tryz.prog 3 4 b n f w) (i : Int) (hw : (Lit.int .i64 i).wf = true) : (Instr.lookup 55 (.map (some b)) (.int .i64 i) false).run Tryz.prog w = .ok (.bool (f i)) w := by
  obtain ⟨D, h1, h2, h3⟩ := hown.own
  obtain ⟨v, ps, hrun, hv⟩ := h1.lookup (int_keyed Tryz.underlying3) Tryz.underlying55 (zero4 w) (plainElem_bool Tryz.underlying4 false) (keyOf_int_mk Tryz.underlying3 hw)
  rw [h3 i] at hv
  obtain ⟨c, rfl, hc⟩ := plainElem_bool_inv Tryz.underlying4 hv
  simp only [Prod.mk.injEq, DataW.lit.injEq, Lit.bool.injEq] at hc
  rw [← hc.1] at hrun
  exact hrun
theorem IS.map_keep {B b5 b6 n5 n6 : Nat} {acc : List RIt} {op : List Int} {la fr : Int → Bool} {vo vp : Value} {w w' : World} (h : IS B b5 b6 n5 n6 acc op la fr vo vp w) {b n n' : Nat} {f : Int → Bool} (hm : BM Tryz.prog 3 4 b n f w) (hg : w.grownBy w' (some b)) : w'.ownsRow B 34 4 vo acc.length (iRow acc) ∧ w'.ownsRow B 3 1 vp op.length (opRow op) :=
  ⟨own_keep h.out fun q hq => hg.block q (own_lt h.out hq).1 fun e => hm.ne_own h.out (by rw [← e, hq]), own_keep h.opn fun q hq => hg.block q (own_lt h.opn hq).1 fun e => hm.ne_own h.opn (by rw [← e, hq])⟩
/-- What is noted of a depth. -/
theorem IS.mark6 {B b5 b6 n5 n6 : Nat} {acc : List RIt} {op : List Int} {la fr : Int → Bool} {vo vp : Value} {w : World} (h : IS B b5 b6 n5 n6 acc op la fr vo vp w) (hn : n6 < maxLen) (d : Int) (hw : (Lit.int .i64 d).wf = true) (x : Bool) :
    ∃ w2, (Instr.mapUpdate 55 (.map (some b6)) (.int .i64 d) (.bool x)).run Tryz.prog w = .ok () w2 ∧ IS B b5 b6 n5 (n6 + 1) acc op la (upd fr d x) vo vp w2 ∧ w.grownBy w2 (some b6) := by
  obtain ⟨w2, hr, hm, hg⟩ := h.m6.put_run (t := 55) Tryz.underlying3 Tryz.underlying55 Tryz.underlying4 hn d hw x
  obtain ⟨h1, h2⟩ := h.map_keep (n' := 0) h.m6 hg
  exact ⟨w2, hr, ⟨h1, h2, h.m5.kept hg (by have := h.ne; intro e; injection e; omega), hm, h.ne, h.low⟩, hg⟩
theorem IS.mark5 {B b5 b6 n5 n6 : Nat} {acc : List RIt} {op : List Int} {la fr : Int → Bool} {vo vp : Value} {w : World} (h : IS B b5 b6 n5 n6 acc op la fr vo vp w) (hn : n5 < maxLen) (d : Int) (hw : (Lit.int .i64 d).wf = true) (x : Bool) :
    ∃ w2, (Instr.mapUpdate 55 (.map (some b5)) (.int .i64 d) (.bool x)).run Tryz.prog w = .ok () w2 ∧ IS B b5 b6 (n5 + 1) n6 acc op (upd la d x) fr vo vp w2 ∧ w.grownBy w2 (some b5) := by
  obtain ⟨w2, hr, hm, hg⟩ := h.m5.put_run (t := 55) Tryz.underlying3 Tryz.underlying55 Tryz.underlying4 hn d hw x
  obtain ⟨h1, h2⟩ := h.map_keep (n' := 0) h.m5 hg
  exact ⟨w2, hr, ⟨h1, h2, hm, h.m6.kept hg (by have := h.ne; intro e; injection e; omega), h.ne, h.low⟩, hg⟩
theorem IS.put6 {B b5 b6 n5 n6 : Nat} {acc : List RIt} {op : List Int} {la fr : Int → Bool} {vo vp : Value} {w w2 : World} (h : IS B b5 b6 n5 n6 acc op la fr vo vp w) {d : Int} {x : Bool} (hm : BM Tryz.prog 3 4 b6 (n6 + 1) (upd fr d x) w2) (hg : w.grownBy w2 (some b6)) : IS B b5 b6 n5 (n6 + 1) acc op la (upd fr d x) vo vp w2 := by
  obtain ⟨h1, h2⟩ := h.map_keep (n' := 0) h.m6 hg
  exact ⟨h1, h2, h.m5.kept hg (by have := h.ne; intro e; injection e; omega), hm, h.ne, h.low⟩
theorem IS.mono {B b5 b6 n5 n6 m5 m6 : Nat} {acc : List RIt} {op : List Int} {la fr : Int → Bool} {vo vp : Value} {w : World} (h : IS B b5 b6 n5 n6 acc op la fr vo vp w) (h5 : n5 ≤ m5) (h6 : n6 ≤ m6) : IS B b5 b6 m5 m6 acc op la fr vo vp w :=
  ⟨h.out, h.opn, h.m5.ext rfl h5, h.m6.ext rfl h6, h.ne, h.low⟩
theorem IS.not_own {B b5 b6 n5 n6 : Nat} {acc : List RIt} {op : List Int} {la fr : Int → Bool} {vo vp : Value} {w : World} (h : IS B b5 b6 n5 n6 acc op la fr vo vp w) {b : Nat} {cs : Array Value} {f : Nat × Nat} (hb : w.heap[b]? = some (Obj.cells cs 50 f)) : some b ≠ vo.ownBlock ∧ some b ≠ vp.ownBlock := by
  constructor
  · intro e
    obtain ⟨c1, f1, h1⟩ := (own_lt h.out e.symm).2.2
    rw [hb] at h1
    injection h1 with h1
    injection h1 with _ h1 _
    exact absurd h1 (by decide)
  · intro e
    obtain ⟨c1, f1, h1⟩ := (own_lt h.opn e.symm).2.2
    rw [hb] at h1
    injection h1 with h1
    injection h1 with _ h1 _
    exact absurd h1 (by decide)
theorem IS.marks {B b5 b6 n5 n6 : Nat} {acc : List RIt} {op : List Int} {la fr : Int → Bool} {vo vp : Value} {w : World} (h : IS B b5 b6 n5 n6 acc op la fr vo vp w) (hB : B ≤ w.heap.size) (hn5 : n5 < maxLen) (hn6 : n6 < maxLen) (d : Int) (hw : (Lit.int .i64 d).wf = true) (x : Bool) :
    ∃ w2 w3, (Instr.mapUpdate 55 (.map (some b6)) (.int .i64 d) (.bool false)).run Tryz.prog w = .ok () w2 ∧ (Instr.mapUpdate 55 (.map (some b5)) (.int .i64 d) (.bool x)).run Tryz.prog w2 = .ok () w3 ∧ IS B b5 b6 (n5 + 1) (n6 + 1) acc op (upd la d x) (upd fr d false) vo vp w3 ∧ Below B w w3 ∧ w.heap.size ≤ w3.heap.size ∧
      (∀ (b : Nat) (cs : Array Value) (T : TypeId) (f : Nat × Nat), w.heap[b]? = some (Obj.cells cs T f) → w2.heap[b]? = some (Obj.cells cs T f) ∧ w3.heap[b]? = some (Obj.cells cs T f)) := by
  obtain ⟨w2, hr2, h2, hg2⟩ := h.mark6 hn6 d hw false
  obtain ⟨w3, hr3, h3, hg3⟩ := h2.mark5 hn5 d hw x
  have hb2 : Below B w w2 := (Below.refl _ _).grown hg2 hB (by intro k hk; injection hk with hk; subst hk; exact h.low.2)
  have hb3 : Below B w2 w3 := (Below.refl _ _).grown hg3 (Nat.le_trans hB hg2.size) (by intro k hk; injection hk with hk; subst hk; exact h.low.1)
  refine ⟨w2, w3, hr2, hr3, h3, hb2.trans hb3, Nat.le_trans hg2.size hg3.size, fun b cs T f hb => ?_⟩
  have hlt : b < w.heap.size := (Array.getElem?_eq_some_iff.1 hb).1
  have hne : ∀ {b' n : Nat} {g : Int → Bool} {W : World}, BM Tryz.prog 3 4 b' n g W → W.heap[b]? = some (Obj.cells cs T f) → some b ≠ some b' := by
    intro b' n g W hm hW e
    injection e with e
    subst e
    obtain ⟨D, ⟨es, clock, hb, _⟩, _, _⟩ := hm.own
    rw [hb] at hW
    injection hW with hW
    cases hW
  have e2 : w2.heap[b]? = some (Obj.cells cs T f) := by rw [hg2.block b hlt (hne h.m6 hb)]; exact hb
  exact ⟨e2, by rw [hg3.block b (Nat.lt_of_lt_of_le hlt hg2.size) (hne h2.m5 e2)]; exact e2⟩
theorem grown_keep {w w' : World} {O : Obj} {r : Option Nat} (hg : (w.alloc O).grownBy w' r) {b : Nat} (hb : b < w.heap.size) (hne : some b ≠ r) : w'.heap[b]? = w.heap[b]? := by
  rw [hg.block b (by simp; omega) hne]; exact Below.heap_alloc w O b hb
end Go.Proofs.YtkfdcbdlcipmfaaGreatFmt
/- Walks: the reference: the items of nodes: the walk. -/
set_option linter.unusedVariables false
set_option linter.unusedSimpArgs false
namespace Go.Proofs.YtkfdcbdlcipmfaaGreatFmt
open Go.RowKit Css Go.Maps
/-- What is returned: a row of items of the call's own. -/
def RetIt (l : List RIt) (w : World) (e : Ending) (w' : World) : Prop := ∃ v, e = .returned v ∧ w'.ownsRow w.heap.size 34 4 v l.length (iRow l) ∧ Below w.heap.size w w'
theorem closeR_one (k : Int) : ∀ u ∈ (#[Value.int .i64 k, .int .i64 0, .string ⟨#[]⟩, .int .i64 (-1)] : Array Value).toList, u.oneCell' = true := by simp [Value.oneCell']
theorem kind_one (k : Int) : ∀ u ∈ (#[Value.int .i64 k] : Array Value).toList, u.oneCell' = true := by simp [Value.oneCell']
theorem item_one (k u sp : Int) (t : ByteArray) : ∀ y ∈ (#[Value.int .i64 k, .int .i64 u, .string t, .int .i64 sp] : Array Value).toList, y.oneCell' = true := by simp [Value.oneCell']
set_option maxHeartbeats 6400000 in
set_option maxRecDepth 100000 in
theorem items_any (v : Value) (l : List RN) (hl : l.length ≤ 1000) (hd : ∀ n ∈ l, 0 ≤ n.depth ∧ n.depth ≤ 1000) (w : World) (h : NodesAt v l w) : Calls Tryz.prog 15 #[v] w (RetIt (itemsR l) w) := by
  obtain ⟨A, c, rfl⟩ := h.slice
  have HN := Lib.hid h
  have HD := Lib.hid hd
  have hmm := @run_makeMap Tryz.prog
  rename World => w0
  have hb5 := BM.made Tryz.prog 3 4 w0
  have hb6 : BM Tryz.prog 3 4 (w0.heap.size + 1) 0 (fun _ => false) ((w0.alloc (.map #[] 0)).alloc (.map #[] 0)) := by
    have := BM.made Tryz.prog 3 4 (w0.alloc (.map #[] 0))
    have e : (w0.alloc (.map #[] 0)).heap.size = w0.heap.size + 1 := by simp
    rw [e] at this; exact this
  obtain ⟨w1, hrun1, hm6, hg1⟩ := hb6.put_run (t := 55) Tryz.underlying3 Tryz.underlying55 Tryz.underlying4 (by unfold maxLen; omega) 0 (by decide) true
  have hb5' : BM Tryz.prog 3 4 w0.heap.size 0 (fun _ => false) ((w0.alloc (.map #[] 0)).alloc (.map #[] 0)) := hb5.same (Below.heap_alloc _ _ _ hb5.lt)
  have hm5 := hb5'.kept hg1 (by simp)
  have HB1 : Hid (Below w0.heap.size w0 w1) := (((Below.refl _ _).alloc (Nat.le_refl _) _).alloc (by simp) _).grown hg1 (by simp; omega) (by intro k hk; injection hk with hk; omega)
  have hfr : upd (fun _ => false) 0 true = fun i => decide (i = 0) := by
    funext i; unfold upd; by_cases hi : i = 0 <;> simp [hi]
  rw [hfr] at hm6
  have HIS : Hid (IS w0.heap.size w0.heap.size (w0.heap.size + 1) 1 1 [] [] (fun _ => false) (fun i => decide (i = 0)) (.slice none 0 0) (.slice none 0 0) w1) :=
    ⟨World.ownsRow_nil _ _ _ _, World.ownsRow_nil _ _ _ _, hm5.ext rfl (by omega), hm6, by omega, by omega⟩
  clear h hd hb5 hb6 hb5' hm5 hm6 hg1 hfr
  go_enter Tryz.func15, Tryz.ntmps15
  go_wp2_with fail
  clear hrun1
  go_loopg [3, 4, 17] l.length (fun k p3 p4 p17 wr => ∃ (i : Nat) (acc : List RIt) (op : List Int) (la fr : Int → Bool), p17 = .int .i64 i ∧ i + k = l.length ∧ op.length ≤ i ∧ Hid (Below w0.heap.size w0 wr) ∧ Hid (acc ++ itemsRGo op la fr (l.drop i) = itemsR l) ∧ Hid (IS w0.heap.size w0.heap.size (w0.heap.size + 1) (i + 1) (2 * i + 1) acc op la fr p3 p4 wr))
  case atStart => exact ⟨0, [], [], _, _, rfl, by omega, by simp, HB1.out, rfl, HIS.out⟩
  case round =>
    obtain ⟨i, acc, op, la, fr, rfl, hik, hop, HB, HQ, HS⟩ := hrel
    obtain ⟨wo, hwo⟩ : ∃ wo, wo = wr := ⟨_, rfl⟩
    subst hwo
    clear HIS HB1
    have hi0 : (0 : Int) ≤ (i : Int) := by omega
    have hi1 : (i : Int) ≤ 1000 := by omega
    have hops : op.length ≤ 1000 := by omega
    by_cases hlt : i < l.length
    · have hlti : (i : Int) < (l.length : Int) := by omega
      obtain ⟨n, hn⟩ : ∃ n, l[i]? = some n := ⟨l[i], List.getElem?_eq_getElem hlt⟩
      have hdrop : l.drop i = n :: l.drop (i + 1) := by
        obtain ⟨h1, e⟩ := List.getElem?_eq_some_iff.1 hn
        rw [← e]; exact List.drop_eq_getElem_cons h1
      obtain ⟨hd0, hd1⟩ := HD.out n (List.mem_of_getElem? hn)
      have HQ2 : Hid (acc ++ ((op.take (op.length - n.depth.toNat)).map closeR ++ ⟨n.kind, n.unit, n.text, spOf (fr n.depth) (la n.depth) n.before⟩ ::
      (if opens n.kind then itemsRGo (closeKind n.kind :: op.drop (op.length - n.depth.toNat)) (upd la n.depth n.after) (upd (upd fr n.depth false) (n.depth + 1) true) (l.drop (i + 1))
       else itemsRGo (op.drop (op.length - n.depth.toNat)) (upd la n.depth n.after) (upd fr n.depth false) (l.drop (i + 1)))) = itemsR l) := by
        show _ = _; rw [← HQ.out, hdrop]; rfl
      have HLEN : Hid (acc.length + (op.length - n.depth.toNat) + 1 ≤ 2000) := by
        have h1 := congrArg List.length HQ2.out
        have h2 := itemsR_len l
        rw [List.length_append, List.length_append, List.length_cons, List.length_map, List.length_take] at h1
        show _ ≤ _
        omega
      obtain ⟨q, rfl, hq, hc⟩ := (HN.out.below HB.out).node hn
      have hc0 := hc.c0
      have hc1 := hc.c1
      have hc2 := hc.c2
      have hc3 := hc.c3
      have hc4 := hc.c4
      have hc5 := hc.c5
      have HB2 := Lib.hid (HB.out.alloc HB.out.size (.cells #[.int .i64 n.kind, .int .i64 n.unit, .int .i64 n.depth, .string ⟨⟨n.text⟩⟩, .bool n.before, .bool n.after] 50))
      have HS2 := Lib.hid (HS.out.alloc (.cells #[.int .i64 n.kind, .int .i64 n.unit, .int .i64 n.depth, .string ⟨⟨n.text⟩⟩, .bool n.before, .bool n.after] 50))
      clear hc hn HQ hdrop HB HS
      go_wp2_with fail
      generalize hPd : op.length - n.depth.toNat = Pp at HLEN HQ2
      have HPD := Lib.hid hPd
      have HNB : Hid ((wo.alloc (.cells #[.int .i64 n.kind, .int .i64 n.unit, .int .i64 n.depth, .string ⟨⟨n.text⟩⟩, .bool n.before, .bool n.after] 50)).heap[wo.heap.size]? = some (.cells #[.int .i64 n.kind, .int .i64 n.unit, .int .i64 n.depth, .string ⟨⟨n.text⟩⟩, .bool n.before, .bool n.after] 50)) := heap_alloc_new wo _
      go_loopg [3, 4] Pp (fun k p3 p4 wj => ∃ j : Nat, j + k = Pp ∧ Hid (Below w0.heap.size w0 wj) ∧ Hid (wj.heap[wo.heap.size]? = some (.cells #[.int .i64 n.kind, .int .i64 n.unit, .int .i64 n.depth, .string ⟨⟨n.text⟩⟩, .bool n.before, .bool n.after] 50)) ∧ Hid (IS w0.heap.size w0.heap.size (w0.heap.size + 1) (i + 1) (2 * i + 1) (acc ++ (op.take j).map closeR) (op.drop j) la fr p3 p4 wj))
      case atStart => exact ⟨0, by omega, HB2.out, HNB.out, by show IS _ _ _ _ _ _ _ _ _ _ _ _; simpa using HS2.out⟩
      case round =>
        obtain ⟨j, hjk, HBj, HNj, HSj⟩ := hrel
        clear HB2 HS2 HNB
        have b0 := cell_blk HNj.out 0
        have b1 := cell_blk HNj.out 1
        have b2 := cell_blk HNj.out 2
        have b3 := cell_blk HNj.out 3
        have b4 := cell_blk HNj.out 4
        have b5 := cell_blk HNj.out 5
        obtain ⟨A4, c4, hv4⟩ := own_slice HSj.out.opn
        have hlj : (op.drop j).length = op.length - j := List.length_drop
        rw [hlj] at hv4
        by_cases hmore : (n.depth : Int) < ((op.length - j : Nat) : Int)
        · have hjp : j < Pp := by omega
          have hjo : j < op.length := by omega
          obtain ⟨k1, hk1⟩ : ∃ k1, op[j]? = some k1 := ⟨op[j], List.getElem?_eq_getElem hjo⟩
          have hdj : op.drop j = k1 :: op.drop (j + 1) := by
            obtain ⟨h1, e⟩ := List.getElem?_eq_some_iff.1 hk1
            rw [← e]; exact List.drop_eq_getElem_cons h1
          have htj : (op.take (j + 1)).map closeR = (op.take j).map closeR ++ [closeR k1] := by
            rw [List.take_add_one, hk1]; simp
          obtain ⟨m, hm⟩ : ∃ m, op.length - j = m + 1 := ⟨op.length - j - 1, by omega⟩
          have hm2 : (op.drop (j + 1)).length = m := by rw [List.length_drop]; omega
          rw [hm] at hv4 hmore
          subst hv4
          have hS1 := HSj.out
          rw [hdj] at hS1
          have hopn := hS1.opn
          rw [opRow_cons, List.length_cons, hm2] at hopn
          obtain ⟨q4, cap4, hv5, _, _⟩ := hopn.form (by omega)
          have hA4 : A4 = some ⟨q4, 0, none⟩ := by injection hv5
          subst hA4
          have hkc : wr.cell? ⟨q4, m, none⟩ = some (.int .i64 k1) := by
            have := hopn.cells (g := q4) rfl m (.int .i64 k1) (by rw [List.getElem?_append_right (by rw [opRow_len, hm2]; exact Nat.le_refl _), opRow_len, hm2, Nat.sub_self]; rfl)
            rw [addr_add0] at this; exact this
          have hcap : (m : Int) ≤ (c4 : Int) := by
            rcases hopn.2 with ⟨h2, _⟩ | ⟨g, cap, cur, hv, hb, hh, hnc, _⟩
            · simp at h2
            · injection hv with e1 e2 e3
              omega
          have hm0 : (0 : Int) ≤ (m : Int) := by omega
          have hm1 : (m : Int) ≤ 1000 := by omega
          have HS1 := Lib.hid hS1
          have HT := Lib.hid htj
          have HM2 := Lib.hid hm2
          have haccl : (acc ++ (op.take j).map closeR).length ≤ 3000 := by
            have := HLEN.out
            rw [List.length_append, List.length_map, List.length_take]; omega
          have HACL := Lib.hid haccl
          have hnb : some wo.heap.size ≠ u3.ownBlock := by
            intro e
            obtain ⟨c1, f1, h1⟩ := (own_lt hS1.out e.symm).2.2
            rw [HNj.out] at h1
            injection h1 with h1
            injection h1 with _ h1 _
            exact absurd h1 (by decide)
          have HNE := Lib.hid hnb
          clear hdj htj hk1 hopn hv5 hS1 hlj hm2 haccl hnb hlt
          go_wp2_with (at_builtin; go_must (refine wpList_app1 rfl _ _ 28 34 rfl Tryz.underlying28 info34 rfl (by decide) HS1.out.out HBj.out.size #[.int .i64 k1, .int .i64 0, .string ⟨#[]⟩, .int .i64 (-1)] rfl (closeR_one k1) (by have := HACL.out; omega) (by have := HACL.out; unfold maxLen; omega) rfl wr.heap.size rfl rfl ?_; intro v' w9 hw9 hg9 hb9 _; have HW9 := Lib.hid hw9; have HG9 := Lib.hid hg9; have HB9 := Lib.hid hb9; clear hw9 hg9 hb9))
          go_roundg (Pp - (j + 1))
          case measure => omega
          case rel =>
            refine ⟨j + 1, by omega, HBj.out.trans HB9.out, ?_, ?_⟩
            · show _ = _
              rw [grown_keep HG9.out (Array.getElem?_eq_some_iff.1 HNj.out).1 HNE.out]; exact HNj.out
            · have h1 := (HS1.out.item (x := closeR k1) HW9.out HG9.out).pop
              rw [HM2.out] at h1
              show IS _ _ _ _ _ _ _ _ _ _ _ _
              rw [HT.out, ← List.append_assoc]
              exact h1
        · have hjp : j = Pp := by omega
          have hle : ((op.length - j : Nat) : Int) ≤ n.depth := by omega
          subst hjp
          subst hv4
          have hop1 : (op.drop j).length ≤ 1000 := by omega
          have hac1 : (acc ++ (op.take j).map closeR).length ≤ 3000 := by
            have := HLEN.out
            rw [List.length_append, List.length_map, List.length_take]; omega
          rw [← hlj] at hle
          generalize hop1e : op.drop j = op1 at *
          generalize hac1e : acc ++ (op.take j).map closeR = acc1 at *
          have HOP1 := Lib.hid hop1e
          have HAC1 := Lib.hid hac1e
          clear hop1e hac1e
          have HWFD : Hid ((Lit.int .i64 n.depth).wf = true) := by show _ = _; exact WalkArith.wf_i64 (by omega)
          have hX : Hid (IS w0.heap.size w0.heap.size (w0.heap.size + 1) (i + 1) (2 * i + 1) acc1 op1 la fr u3 (.slice A4 (op.length - j) c4) (wr.alloc (.cells #[.int .i64 n.kind, .int .i64 n.unit, .string ⟨⟨n.text⟩⟩, .int .i64 0] 34))) := HSj.out.alloc _
          have hbw : ¬ wo.heap.size = wr.heap.size := by have := (Array.getElem?_eq_some_iff.1 HNj.out).1; omega
          have hNX : ∀ sp : Int, (wr.alloc (.cells #[.int .i64 n.kind, .int .i64 n.unit, .string ⟨⟨n.text⟩⟩, .int .i64 sp] 34)).heap[wo.heap.size]? = some (.cells #[.int .i64 n.kind, .int .i64 n.unit, .int .i64 n.depth, .string ⟨⟨n.text⟩⟩, .bool n.before, .bool n.after] 50) := by
            intro sp
            rw [Below.heap_alloc wr _ _ (Array.getElem?_eq_some_iff.1 HNj.out).1]; exact HNj.out
          have x0 : ∀ sp : Int, (wr.alloc (.cells #[.int .i64 n.kind, .int .i64 n.unit, .string ⟨⟨n.text⟩⟩, .int .i64 sp] 34)).cell? ⟨wo.heap.size, 0, none⟩ = some (.int .i64 n.kind) := fun sp => cell_blk (hNX sp) 0
          have x2 : ∀ sp : Int, (wr.alloc (.cells #[.int .i64 n.kind, .int .i64 n.unit, .string ⟨⟨n.text⟩⟩, .int .i64 sp] 34)).cell? ⟨wo.heap.size, 2, none⟩ = some (.int .i64 n.depth) := fun sp => cell_blk (hNX sp) 2
          have x4 : ∀ sp : Int, (wr.alloc (.cells #[.int .i64 n.kind, .int .i64 n.unit, .string ⟨⟨n.text⟩⟩, .int .i64 sp] 34)).cell? ⟨wo.heap.size, 4, none⟩ = some (.bool n.before) := fun sp => cell_blk (hNX sp) 4
          have x5 : ∀ sp : Int, (wr.alloc (.cells #[.int .i64 n.kind, .int .i64 n.unit, .string ⟨⟨n.text⟩⟩, .int .i64 sp] 34)).cell? ⟨wo.heap.size, 5, none⟩ = some (.bool n.after) := fun sp => cell_blk (hNX sp) 5
          clear hNX
          have HSP : Hid (∀ sp : Int, ∃ w2 w3, (Instr.mapUpdate 55 (.map (some (w0.heap.size + 1))) (.int .i64 n.depth) (.bool false)).run Tryz.prog (wr.alloc (.cells #[.int .i64 n.kind, .int .i64 n.unit, .string ⟨⟨n.text⟩⟩, .int .i64 sp] 34)).drew = .ok () w2 ∧ (Instr.mapUpdate 55 (.map (some w0.heap.size)) (.int .i64 n.depth) (.bool n.after)).run Tryz.prog w2 = .ok () w3 ∧
              IS w0.heap.size w0.heap.size (w0.heap.size + 1) (i + 1 + 1) (2 * i + 1 + 1) acc1 op1 (upd la n.depth n.after) (upd fr n.depth false) u3 (.slice A4 (op.length - j) c4) w3 ∧ Below w0.heap.size w0 w3 ∧
              w2.heap[wo.heap.size]? = some (.cells #[.int .i64 n.kind, .int .i64 n.unit, .int .i64 n.depth, .string ⟨⟨n.text⟩⟩, .bool n.before, .bool n.after] 50) ∧ w3.heap[wo.heap.size]? = some (.cells #[.int .i64 n.kind, .int .i64 n.unit, .int .i64 n.depth, .string ⟨⟨n.text⟩⟩, .bool n.before, .bool n.after] 50) ∧ w3.heap[wr.heap.size]? = some (.cells #[.int .i64 n.kind, .int .i64 n.unit, .string ⟨⟨n.text⟩⟩, .int .i64 sp] 34)) := by
            intro sp
            have hx : IS w0.heap.size w0.heap.size (w0.heap.size + 1) (i + 1) (2 * i + 1) acc1 op1 la fr u3 (.slice A4 (op.length - j) c4) (wr.alloc (.cells #[.int .i64 n.kind, .int .i64 n.unit, .string ⟨⟨n.text⟩⟩, .int .i64 sp] 34)).drew := (HSj.out.alloc _).same fun q hq => rfl
            have hb := HBj.out.alloc HBj.out.size (.cells #[.int .i64 n.kind, .int .i64 n.unit, .string ⟨⟨n.text⟩⟩, .int .i64 sp] 34)
            obtain ⟨w2, w3, r2, r3, h3, hb3, _, hk⟩ := hx.marks (by have := hb.size; exact this) (by unfold maxLen; omega) (by unfold maxLen; omega) n.depth HWFD.out n.after
            have hn1 : (wr.alloc (.cells #[.int .i64 n.kind, .int .i64 n.unit, .string ⟨⟨n.text⟩⟩, .int .i64 sp] 34)).drew.heap[wo.heap.size]? = some (.cells #[.int .i64 n.kind, .int .i64 n.unit, .int .i64 n.depth, .string ⟨⟨n.text⟩⟩, .bool n.before, .bool n.after] 50) := by
              show (wr.alloc _).heap[wo.heap.size]? = _
              rw [Below.heap_alloc wr _ _ (Array.getElem?_eq_some_iff.1 HNj.out).1]; exact HNj.out
            have hn2 : (wr.alloc (.cells #[.int .i64 n.kind, .int .i64 n.unit, .string ⟨⟨n.text⟩⟩, .int .i64 sp] 34)).drew.heap[wr.heap.size]? = some (.cells #[.int .i64 n.kind, .int .i64 n.unit, .string ⟨⟨n.text⟩⟩, .int .i64 sp] 34) := heap_alloc_new wr _
            exact ⟨w2, w3, r2, r3, h3, hb.drew.trans hb3, (hk _ _ _ _ hn1).1, (hk _ _ _ _ hn1).2, (hk _ _ _ _ hn2).2⟩
          have hspc : (fr n.depth = true ∧ Hid (spOf (fr n.depth) (la n.depth) n.before = -1)) ∨ (fr n.depth = false ∧ n.before = true ∧ Hid (spOf (fr n.depth) (la n.depth) n.before = 1)) ∨ (fr n.depth = false ∧ n.before = false ∧ la n.depth = true ∧ Hid (spOf (fr n.depth) (la n.depth) n.before = 1)) ∨ (fr n.depth = false ∧ n.before = false ∧ la n.depth = false ∧ Hid (spOf (fr n.depth) (la n.depth) n.before = 0)) := by
            cases h1 : fr n.depth
            · cases h2 : n.before
              · cases h3 : la n.depth
                · exact .inr (.inr (.inr ⟨rfl, rfl, rfl, rfl⟩))
                · exact .inr (.inr (.inl ⟨rfl, rfl, rfl, rfl⟩))
              · exact .inr (.inl ⟨rfl, rfl, rfl⟩)
            · exact .inl ⟨rfl, rfl⟩
          generalize hspe : spOf (fr n.depth) (la n.depth) n.before = spv at hspc HQ2
          obtain ⟨w2, w3, r2, r3, h3, hb3, hn2, hn3, hx3⟩ := HSP.out spv
          have HS3 := Lib.hid h3
          have HB3 := Lib.hid hb3
          have HN3 := Lib.hid hn3
          have HX3 := Lib.hid hx3
          have y2 := cell_blk hn2 2
          have y5 := cell_blk hn2 5
          have t0 := cell_blk hn3 0
          have t2 := cell_blk hn3 2
          have s0 := cell_blk hx3 0
          have s1 := cell_blk hx3 1
          have s2 := cell_blk hx3 2
          have s3 := cell_blk hx3 3
          have k6 := hX.out.m6.look_run n.depth HWFD.out
          have k5 := hX.out.m5.look_run n.depth HWFD.out
          clear h3 hb3 hn2 hn3 hx3 HSP hspe
          have hds : 0 ≤ n.depth + 1 ∧ n.depth + 1 ≤ 1001 := by omega
          have HWD1 : Hid ((Lit.int .i64 (n.depth + 1)).wf = true) := by show _ = _; exact WalkArith.wf_i64 (by omega)
          have HLJ := Lib.hid hlj
          have hac2 : (acc1.length + 1) * 40 ≤ 140737488355328 := by omega
          have hac3 : acc1.length + 1 ≤ maxLen := by unfold maxLen; omega
          have hop2 : (op1.length + 1) * 8 ≤ 140737488355328 := by omega
          have hop3 : op1.length + 1 ≤ maxLen := by unfold maxLen; omega
          cases ho : openQ n.kind
          all_goals
           have HO := Lib.hid ho
           clear ho
           rcases hspc with ⟨f1, HV⟩ | ⟨f1, f2, HV⟩ | ⟨f1, f2, f3, HV⟩ | ⟨f1, f2, f3, HV⟩
          all_goals
            have hv := HV.out
            subst hv
            go_wp2_with fail
            go_region
            all_goals
              go_wp2_with (first
              | (at_builtin; go_must (first
                  | (refine wpList_app1 rfl _ _ 28 34 rfl Tryz.underlying28 info34 rfl (by decide) HS3.out.out HB3.out.size #[.int .i64 n.kind, .int .i64 n.unit, .string ⟨⟨n.text⟩⟩, .int .i64 _] rfl (item_one _ _ _ _) hac2 hac3 rfl w3.heap.size rfl rfl ?_; intro v' w9 hw9 hg9 hb9 _; have HS9 := Lib.hid (HS3.out.item (x := ⟨n.kind, n.unit, n.text, _⟩) hw9 hg9); have HN9 : Hid (w9.heap[wo.heap.size]? = _) := (grown_keep hg9 (Array.getElem?_eq_some_iff.1 HN3.out).1 (HS3.out.not_own HN3.out).1).trans HN3.out; have z0 := cell_blk HN9.out 0; have z2 := cell_blk HN9.out 2; have HB9 := Lib.hid (HB3.out.trans hb9); clear hw9 hg9 hb9)
                  | (refine wpList_app1 rfl _ _ 54 3 rfl Tryz.underlying54 info3 rfl (by decide) HS9.out.opn HB9.out.size #[.int .i64 (closeQ n.kind)] rfl (kind_one _) hop2 hop3 rfl w9.heap.size rfl rfl ?_; intro v2 w10 hw10 hg10 hb10 _; have HS10 := Lib.hid (HS9.out.push (k := closeQ n.kind) hw10 hg10); have HN10 : Hid (w10.heap[wo.heap.size]? = _) := (grown_keep hg10 (Array.getElem?_eq_some_iff.1 HN9.out).1 (HS9.out.not_own HN9.out).2).trans HN9.out; have zz2 := cell_blk HN10.out 2; have HB10 := Lib.hid (HB9.out.trans hb10); clear hw10 hg10 hb10)))
              | (go_at_call 30; go_must (refine (opens_any _ _).mono ?_; rintro e w' ⟨rfl, rfl⟩; rw [HO.out]))
              | (at_mapUpdate; go_must (refine wpList_bm_put _ rfl _ _ _ 55 rfl 3 4 Tryz.underlying3 Tryz.underlying55 Tryz.underlying4 _ _ _ rfl HS10.out.m6 (by unfold maxLen; omega) (n.depth + 1) HWD1.out rfl true rfl ?_; intro w11 hm11 hg11; have HS11 := Lib.hid (HS10.out.put6 hm11 hg11); have HB11 := Lib.hid (HB10.out.grown hg11 HB10.out.size (by intro k hk; injection hk with hk; omega)); clear hm11 hg11)))
              go_roundg (l.length - (i + 1))
              case measure => omega
              case rel =>
                have hq := HQ2.out
                have ho' := HO.out
                unfold openQ at ho'
                have hl1 := HLJ.out
                first
                  | (rw [if_neg (by simpa using ho')] at hq
                     refine ⟨i + 1, _, op1, _, _, by go_num, by omega, by omega, HB9.out, ?_, HS9.out.mono (by omega) (by omega)⟩
                     show _ = _
                     rw [← HAC1.out]
                     simpa [List.append_assoc] using hq)
                  | (rw [if_pos (by simpa using ho')] at hq
                     refine ⟨i + 1, _, _, _, _, by go_num, by omega, ?_, HB11.out, ?_, HS11.out.mono (by omega) (by omega)⟩
                     · rw [List.length_cons]; omega
                     · show _ = _
                       have hcq : closeQ n.kind = closeKind n.kind := by unfold closeQ; rw [if_pos (by simpa using ho')]
                       rw [← HAC1.out, hcq]
                       simpa [List.append_assoc] using hq)
    · have hle : (l.length : Int) ≤ (i : Int) := by omega
      have HQ2 : Hid (acc ++ op.map closeR = itemsR l) := by
        have := HQ.out
        rw [List.drop_eq_nil_of_le (by omega)] at this
        exact this
      have HLEN : Hid (acc.length + op.length ≤ 2000) := by
        have h1 := congrArg List.length HQ2.out
        have h2 := itemsR_len l
        rw [List.length_append, List.length_map] at h1
        show _ ≤ _
        omega
      go_wp2_with fail
      go_loopg [3, 4] op.length (fun k p3 p4 wj => ∃ j : Nat, j + k = op.length ∧ Hid (Below w0.heap.size w0 wj) ∧ Hid (IS w0.heap.size w0.heap.size (w0.heap.size + 1) (i + 1) (2 * i + 1) (acc ++ (op.take j).map closeR) (op.drop j) la fr p3 p4 wj))
      case atStart => exact ⟨0, by omega, HB.out, by show IS _ _ _ _ _ _ _ _ _ _ _ _; simpa using HS.out⟩
      case round =>
        obtain ⟨j, hjk, HBj, HSj⟩ := hrel
        clear HB HS
        obtain ⟨A4, c4, hv4⟩ := own_slice HSj.out.opn
        have hlj : (op.drop j).length = op.length - j := List.length_drop
        rw [hlj] at hv4
        by_cases hmore : j < op.length
        · obtain ⟨k1, hk1⟩ : ∃ k1, op[j]? = some k1 := ⟨op[j], List.getElem?_eq_getElem hmore⟩
          have hdj : op.drop j = k1 :: op.drop (j + 1) := by
            obtain ⟨h1, e⟩ := List.getElem?_eq_some_iff.1 hk1
            rw [← e]; exact List.drop_eq_getElem_cons h1
          have htj : (op.take (j + 1)).map closeR = (op.take j).map closeR ++ [closeR k1] := by
            rw [List.take_add_one, hk1]; simp
          obtain ⟨m, hm⟩ : ∃ m, op.length - j = m + 1 := ⟨op.length - j - 1, by omega⟩
          have hm2 : (op.drop (j + 1)).length = m := by rw [List.length_drop]; omega
          rw [hm] at hv4
          subst hv4
          have hS1 := HSj.out
          rw [hdj] at hS1
          have hopn := hS1.opn
          rw [opRow_cons, List.length_cons, hm2] at hopn
          obtain ⟨q4, cap4, hv5, _, _⟩ := hopn.form (by omega)
          have hA4 : A4 = some ⟨q4, 0, none⟩ := by injection hv5
          subst hA4
          have hkc : wr.cell? ⟨q4, m, none⟩ = some (.int .i64 k1) := by
            have := hopn.cells (g := q4) rfl m (.int .i64 k1) (by rw [List.getElem?_append_right (by rw [opRow_len, hm2]; exact Nat.le_refl _), opRow_len, hm2, Nat.sub_self]; rfl)
            rw [addr_add0] at this; exact this
          have hcap : (m : Int) ≤ (c4 : Int) := by
            rcases hopn.2 with ⟨h2, _⟩ | ⟨g, cap, cur, hv, hb, hh, hnc, _⟩
            · simp at h2
            · injection hv with e1 e2 e3
              omega
          have hm0 : (0 : Int) ≤ (m : Int) := by omega
          have hm1 : (m : Int) ≤ 1000 := by omega
          have HS1 := Lib.hid hS1
          have HT := Lib.hid htj
          have HM2 := Lib.hid hm2
          have haccl : (acc ++ (op.take j).map closeR).length ≤ 3000 := by
            have := HLEN.out
            rw [List.length_append, List.length_map, List.length_take]; omega
          have HACL := Lib.hid haccl
          clear hdj htj hk1 hopn hv5 hS1 hlj hm2 haccl hlt
          go_wp2_with (at_builtin; go_must (refine wpList_app1 rfl _ _ 28 34 rfl Tryz.underlying28 info34 rfl (by decide) HS1.out.out HBj.out.size #[.int .i64 k1, .int .i64 0, .string ⟨#[]⟩, .int .i64 (-1)] rfl (closeR_one k1) (by have := HACL.out; omega) (by have := HACL.out; unfold maxLen; omega) rfl wr.heap.size rfl rfl ?_; intro v' w9 hw9 hg9 hb9 _; have HW9 := Lib.hid hw9; have HG9 := Lib.hid hg9; have HB9 := Lib.hid hb9; clear hw9 hg9 hb9))
          go_roundg (op.length - (j + 1))
          case measure => omega
          case rel =>
            refine ⟨j + 1, by omega, HBj.out.trans HB9.out, ?_⟩
            have h1 := (HS1.out.item (x := closeR k1) HW9.out HG9.out).pop
            rw [HM2.out] at h1
            show IS _ _ _ _ _ _ _ _ _ _ _ _
            rw [HT.out, ← List.append_assoc]
            exact h1
        · have hjp : op.length - j = 0 := by omega
          rw [hjp] at hv4
          subst hv4
          have HF : Hid (acc ++ (op.take j).map closeR = itemsR l) := by
            show _ = _; rw [List.take_of_length_le (by omega)]; exact HQ2.out
          go_wp2_with fail
          go_ret
          have h1 := HSj.out.out
          rw [HF.out] at h1
          exact ⟨_, rfl, h1, HBj.out⟩
end Go.Proofs.YtkfdcbdlcipmfaaGreatFmt
