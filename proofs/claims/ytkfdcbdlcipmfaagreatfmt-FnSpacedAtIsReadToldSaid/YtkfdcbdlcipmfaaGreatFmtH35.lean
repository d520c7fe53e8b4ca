/- Walks: the statements: sizes. -/
import Derived.Test.YtkfdcbdlcipmfaaGreatFmtH07
import Derived.Test.YtkfdcbdlcipmfaaGreatFmtH34
import Derived.Test.YtkfdcbdlcipmfaaGreatFmtH13
import Derived.Test.YtkfdcbdlcipmfaaGreatFmtH23
import Derived.Test.YtkfdcbdlcipmfaaGreatFmtH08
import Derived.Deep.RegionHeld3
import Derived.Test.YtkfdcbdlcipmfaaGreatFmtH33
set_option linter.unusedVariables false
set_option linter.unusedSimpArgs false
namespace Go.Proofs.YtkfdcbdlcipmfaaGreatFmt
open Go.RowKit Css
def fitB (n : RN) : Bool := decide (n.text.length ≤ 2147483647)
set_option maxRecDepth 100000 in
theorem fits2_any (n : RN) (hn : n.text.length ≤ maxLen) (w : World) : Calls Tryz.prog 24 #[rV n] w (RetBW (fitB n) w) := by
  have HB := Lib.hid (box_below (.cells #[.int .i64 n.kind, .int .i64 n.unit, .int .i64 n.depth, .string ⟨⟨n.text⟩⟩, .bool n.before, .bool n.after] 45) w)
  have hsz := ba_size n.text
  have hm : (n.text.length : Int) ≤ 9223372036854775807 := by unfold maxLen at hn; omega
  by_cases h : n.text.length ≤ 2147483647
  · have HF : Hid (fitB n = true) := by show _ = _; simp [fitB, h]
    have h1 : (n.text.length : Int) ≤ 2147483647 := by omega
    go_enter Tryz.func24, Tryz.ntmps24
    go_wp2_with fail
    go_ret
    exact RetBW.mk' HF.out.symm HB.out
  · have HF : Hid (fitB n = false) := by show _ = _; simp [fitB, h]
    have h1 : (2147483647 : Int) < (n.text.length : Int) := by omega
    go_enter Tryz.func24, Tryz.ntmps24
    go_wp2_with fail
    go_ret
    exact RetBW.mk' HF.out.symm HB.out
def fitsB (l : List RN) : Bool := decide (l.length ≤ 2147483647) && l.all fitB
theorem drop_cons {α : Type} {l : List α} {i : Nat} {n : α} (h : l[i]? = some n) : l.drop i = n :: l.drop (i + 1) := by
  obtain ⟨hlt, e⟩ := List.getElem?_eq_some_iff.1 h
  rw [← e]; exact List.drop_eq_getElem_cons hlt
end Go.Proofs.YtkfdcbdlcipmfaaGreatFmt
namespace Go.Proofs.YtkfdcbdlcipmfaaGreatFmt
open Go.RowKit Css
theorem NodesS.at_ {A : Option Addr} {k c : Nat} {l : List RN} {w : World} (h : NodesS (.slice A k c) l w) {i : Nat} {n : RN} (hn : l[i]? = some n) : ∃ q off, A = some ⟨q, off, none⟩ ∧ q < w.heap.size ∧ NodeC w q (off + i * 6) n := by
  obtain ⟨A', c', e, _, hf⟩ := h.form
  obtain ⟨q, off, hA, hq, hx⟩ := hf (by intro e; subst e; simp at hn)
  injection e with e _ _
  exact ⟨q, off, e.trans hA, hq, NodesO.node hx hn⟩
theorem NodesAt.toS {v : Value} {l : List RN} {w : World} (h : NodesAt v l w) (hc : ∀ A k c, v = .slice A k c → k ≤ c) : NodesS v l w := by
  obtain ⟨A, c, rfl⟩ := h.slice
  refine ⟨A, c, rfl, hc _ _ _ rfl, fun hl => ?_⟩
  obtain ⟨q, c', e, hq, hx⟩ := h.form hl
  injection e with e _ _
  exact ⟨q, 0, e, hq, fun i x h => by rw [Nat.zero_add]; exact hx i x h⟩
set_option maxHeartbeats 1600000 in
set_option maxRecDepth 100000 in
theorem fits1_off (v : Value) (l : List RN) (hm : ∀ n ∈ l, n.text.length ≤ maxLen) (hml : l.length ≤ maxLen) (w : World) (h : NodesS v l w) : Calls Tryz.prog 10 #[v] w (RetBW (fitsB l) w) := by
  obtain ⟨A, c, rfl, _⟩ := h.form
  have HM := Lib.hid hm
  have HN := Lib.hid h
  have hb0 : (l.length : Int) ≤ 9223372036854775807 := by unfold maxLen at hml; omega
  rename World => w0
  clear hm h hml
  by_cases hl : l.length ≤ 2147483647
  · have HF : Hid (fitsB l = l.all fitB) := by show _ = _; simp [fitsB, hl]
    have h1 : (l.length : Int) ≤ 2147483647 := by omega
    go_enter Tryz.func10, Tryz.ntmps10
    go_wp2_with fail
    go_loopg [10] l.length (fun k p10 wr => ∃ i : Nat, p10 = .int .i64 i ∧ i + k = l.length ∧ Hid (Below w0.heap.size w0 wr) ∧ Hid (l.all fitB = (l.drop i).all fitB))
    case atStart => exact ⟨0, rfl, by omega, Below.refl _ _, rfl⟩
    case round =>
      obtain ⟨i, rfl, hik, HB, HQ⟩ := hrel
      have hi0 : (0 : Int) ≤ (i : Int) := by omega
      have hi1 : (i : Int) ≤ 2147483647 := by omega
      by_cases hlt : i < l.length
      · have hlti : (i : Int) < (l.length : Int) := by omega
        obtain ⟨n, hn⟩ : ∃ n, l[i]? = some n := ⟨l[i], List.getElem?_eq_getElem hlt⟩
        have HQ2 : Hid (l.all fitB = (fitB n && (l.drop (i + 1)).all fitB)) := by
          show _ = _; rw [HQ.out, drop_cons hn]; rfl
        have HMN : Hid (n.text.length ≤ maxLen) := HM.out n (List.mem_of_getElem? hn)
        obtain ⟨q, off, rfl, hq, hc⟩ := NodesS.at_ (HN.out.below HB.out) hn
        have hc0 := hc.c0
        have hc1 := hc.c1
        have hc2 := hc.c2
        have hc3 := hc.c3
        have hc4 := hc.c4
        have hc5 := hc.c5
        clear hc hn HQ
        cases hf : fitB n
        · have HF2 : Hid (fitB n = false) := hf
          go_wp2_with (go_at_call 24; go_must (refine (fits2_any n HMN.out _).mono ?_; rintro e w1 ⟨rfl, hb1⟩; have HB1 := Lib.hid hb1; clear hb1; rw [HF2.out]))
          go_ret
          exact RetBW.mk' (by rw [HF.out, HQ2.out, HF2.out]; rfl) (below_box HB.out HB1.out)
        · have HF2 : Hid (fitB n = true) := hf
          go_wp2_with (go_at_call 24; go_must (refine (fits2_any n HMN.out _).mono ?_; rintro e w1 ⟨rfl, hb1⟩; have HB1 := Lib.hid hb1; clear hb1; rw [HF2.out]))
          go_roundg (l.length - (i + 1))
          case measure => omega
          case rel => exact ⟨i + 1, by go_num, by omega, below_box HB.out HB1.out, by show _ = _; rw [HQ2.out, HF2.out]; rfl⟩
      · have hle : (l.length : Int) ≤ (i : Int) := by omega
        have HF2 : Hid (l.all fitB = true) := by
          show _ = _; rw [HQ.out, List.drop_eq_nil_of_le (by omega)]; rfl
        go_wp2_with fail
        go_ret
        exact RetBW.mk' (by rw [HF.out, HF2.out]) HB.out
  · have HF : Hid (fitsB l = false) := by show _ = _; simp [fitsB, hl]
    have h1 : (2147483647 : Int) < (l.length : Int) := by omega
    go_enter Tryz.func10, Tryz.ntmps10
    go_wp2_with fail
    go_ret
    exact RetBW.mk' HF.out.symm (Below.refl _ _)
set_option maxHeartbeats 1600000 in
set_option maxRecDepth 100000 in
theorem nodes_off (v : Value) (l : List RN) (hl : l.length ≤ 2147483647) (w : World) (h : NodesS v l w) : Calls Tryz.prog 16 #[v] w (RetN 50 l w) := by
  obtain ⟨A, c, rfl, _⟩ := h.form
  have HN := Lib.hid h
  rename World => w0
  clear h
  go_enter Tryz.func16, Tryz.ntmps16
  go_wp2_with fail
  go_loopg [3, 8] l.length (fun k p3 p8 wr => ∃ i : Nat, p8 = .int .i64 i ∧ i + k = l.length ∧ Hid (Below w0.heap.size w0 wr) ∧ Hid (wr.ownsRow w0.heap.size 50 6 p3 i (nRow (l.take i))))
  case atStart => exact ⟨0, rfl, by omega, Below.refl _ _, own_row_nil _ _ _ _⟩
  case round =>
    obtain ⟨i, rfl, hik, HB, HO⟩ := hrel
    have hi0 : (0 : Int) ≤ (i : Int) := by omega
    have hi1 : (i : Int) ≤ 2147483647 := by omega
    by_cases hlt : i < l.length
    · have hlti : (i : Int) < (l.length : Int) := by omega
      obtain ⟨n, hn⟩ : ∃ n, l[i]? = some n := ⟨l[i], List.getElem?_eq_getElem hlt⟩
      have HT : Hid (nRow (l.take (i + 1)) = nRow (l.take i) ++ nCells n) := by
        show _ = _; rw [← nRow_snoc, List.take_add_one, hn]; rfl
      obtain ⟨q, off, rfl, hq, hc⟩ := NodesS.at_ (HN.out.below HB.out) hn
      have hc0 := hc.c0
      have hc1 := hc.c1
      have hc2 := hc.c2
      have hc3 := hc.c3
      have hc4 := hc.c4
      have hc5 := hc.c5
      have HB1 := Lib.hid (HB.out.alloc HB.out.size (.cells #[.int .i64 n.kind, .int .i64 n.unit, .int .i64 n.depth, .string ⟨⟨n.text⟩⟩, .bool n.before, .bool n.after] 45))
      have HO1 := Lib.hid (HO.out.alloc (.cells #[.int .i64 n.kind, .int .i64 n.unit, .int .i64 n.depth, .string ⟨⟨n.text⟩⟩, .bool n.before, .bool n.after] 45))
      clear hc hn HB HO
      go_wp2_with (at_builtin; go_must (refine wpList_app1 rfl _ _ 31 50 rfl Tryz.underlying31 info50 rfl (by decide) HO1.out HB1.out.size #[.int .i64 n.kind, .int .i64 n.unit, .int .i64 n.depth, .string ⟨⟨n.text⟩⟩, .bool n.before, .bool n.after] rfl (node_one n) (by omega) (by unfold maxLen; omega) rfl (wr.heap.size + 1) (by simp) rfl ?_; intro v' w9 hw9 hg9 hb9 _; have HW9 := Lib.hid hw9; have HB9 := Lib.hid hb9; clear hw9 hg9 hb9))
      go_roundg (l.length - (i + 1))
      case measure => omega
      case rel => exact ⟨i + 1, by go_num, by omega, HB1.out.trans HB9.out, by show World.ownsRow _ _ _ _ _ _ _; rw [HT.out]; exact HW9.out⟩
    · have hle : (l.length : Int) ≤ (i : Int) := by omega
      have hil : i = l.length := by omega
      go_wp2_with fail
      go_ret
      subst hil
      have := HO.out
      rw [List.take_length] at this
      exact ⟨_, rfl, this, HB.out⟩
set_option maxHeartbeats 3200000 in
set_option maxRecDepth 100000 in
theorem tree_off (all ascii : Bool) (v : Value) (l : List RN) (hl : l.length ≤ 2147483647) (ht : ∀ n ∈ l, n.text.length ≤ 2147483647) (hset : l.length ≤ 1000 → treeOk ascii l = true → ∀ v w, NodesAt v l w → Calls Tryz.prog 28 #[v, .bool all] w (RetN 50 (setR all l) w)) (w : World) (h : NodesS v l w) :
    Calls Tryz.prog 11 #[v, .bool all, .bool ascii] w (RetTree all ascii l w) := by
  obtain ⟨A, c, rfl, _⟩ := h.form
  have HN := Lib.hid h
  have HM := Lib.hid ht
  have HL := Lib.hid hl
  have HSET := Lib.hid hset
  have h2 : (l.length : Int) ≤ 2147483647 := by omega
  rename World => w0
  clear h ht hset
  by_cases hl1 : l.length ≤ 1000
  · have HL1 := Lib.hid hl1
    have h1 : (l.length : Int) ≤ 1000 := by omega
    have HT : Hid (treeOk ascii l = (treeGo 0 l && sizeGo ascii 0 l)) := by show _ = _; unfold treeOk; simp [hl1]
    clear hl1
    cases htg : treeGo 0 l
    · have HTG := Lib.hid htg
      clear htg
      go_enter Tryz.func11, Tryz.ntmps11
      go_wp2_with (first
        | (go_at_call 16; go_must (refine (nodes_off _ l HL.out _ HN.out).mono ?_; rintro e w1 ⟨v1, rfl, ho1, hb1⟩; obtain ⟨A1, c1, rfl⟩ := own_slice ho1; have HN1 := Lib.hid (own_nodes ho1); have HB1 := Lib.hid hb1; clear ho1 hb1))
        | (go_at_call 25; go_must (refine (isTree_any _ l HL1.out HM.out _ HN1.out).mono ?_; rintro e w2 ⟨rfl, hb2⟩; have HB2 := Lib.hid hb2; clear hb2; rw [HTG.out])))
      go_ret2
      exact ⟨below_then HB1.out HB2.out, .inr ⟨by rw [HT.out, HTG.out]; rfl, rfl⟩⟩
    · have HTG := Lib.hid htg
      clear htg
      have HT2 : Hid (treeOk ascii l = sizeGo ascii 0 l) := by show _ = _; rw [HT.out, HTG.out]; rfl
      go_enter Tryz.func11, Tryz.ntmps11
      go_wp2_with (first
        | (go_at_call 16; go_must (refine (nodes_off _ l HL.out _ HN.out).mono ?_; rintro e w1 ⟨v1, rfl, ho1, hb1⟩; obtain ⟨A1, c1, rfl⟩ := own_slice ho1; have HN1 := Lib.hid (own_nodes ho1); have HB1 := Lib.hid hb1; clear ho1 hb1))
        | (go_at_call 25; go_must (refine (isTree_any _ l HL1.out HM.out _ HN1.out).mono ?_; rintro e w2 ⟨rfl, hb2⟩; have HB2 := Lib.hid hb2; have HN2 := Lib.hid (HN1.out.below hb2); clear hb2; rw [HTG.out])))
      have HB02 := Lib.hid (below_then HB1.out HB2.out)
      clear HB1 HB2 HN1
      go_loopg [9, 24] l.length (fun k p9 p24 wr => ∃ (i s : Nat), p24 = .int .i64 i ∧ i + k = l.length ∧ p9 = .int .i64 s ∧ s ≤ 1048576 ∧ Hid (Below w2.heap.size w2 wr) ∧ Hid (sizeGo ascii 0 l = sizeGo ascii s (l.drop i)))
      case atStart => exact ⟨0, 0, rfl, by omega, rfl, by omega, Below.refl _ _, rfl⟩
      case round =>
        obtain ⟨i, s, rfl, hik, rfl, hs, HB, HQ⟩ := hrel
        have hi0 : (0 : Int) ≤ (i : Int) := by omega
        have hi1 : (i : Int) ≤ 1000 := by omega
        have hs0 : (0 : Int) ≤ (s : Int) := by omega
        have hs1 : (s : Int) ≤ 1048576 := by omega
        by_cases hlt : i < l.length
        · have hlti : (i : Int) < (l.length : Int) := by omega
          obtain ⟨n, hn⟩ : ∃ n, l[i]? = some n := ⟨l[i], List.getElem?_eq_getElem hlt⟩
          have HQ2 : Hid (sizeGo ascii 0 l = (!decide (64 < n.depth) && !decide (1048576 < s + n.text.length) && lowB n.text ascii && sizeGo ascii (s + n.text.length) (l.drop (i + 1)))) := by
            show _ = _; rw [HQ.out]
            have : l.drop i = n :: l.drop (i + 1) := by
              obtain ⟨h1, e⟩ := List.getElem?_eq_some_iff.1 hn
              rw [← e]; exact List.drop_eq_getElem_cons h1
            rw [this]; rfl
          have hmn : n.text.length ≤ 2147483647 := HM.out n (List.mem_of_getElem? hn)
          obtain ⟨q, rfl, hq, hc⟩ := (HN2.out.below HB.out).node hn
          have hc0 := hc.c0
          have hc1 := hc.c1
          have hc2 := hc.c2
          have hc3 := hc.c3
          have hc4 := hc.c4
          have hc5 := hc.c5
          have HB1 := Lib.hid (HB.out.alloc HB.out.size (.cells #[.int .i64 n.kind, .int .i64 n.unit, .int .i64 n.depth, .string ⟨⟨n.text⟩⟩, .bool n.before, .bool n.after] 50))
          have hsz := ba_size n.text
          have ht0 : (0 : Int) ≤ (n.text.length : Int) := by omega
          have ht1 : (n.text.length : Int) ≤ 2147483647 := by omega
          have HLOW : Hid (((⟨⟨n.text⟩⟩ : ByteArray).size : Int) ≤ 140737488355328) := by show ((n.text.length : Nat) : Int) ≤ _; omega
          clear hc hn HQ
          by_cases hd : 64 < n.depth
          · have HF : Hid (treeOk ascii l = false) := by show _ = _; rw [HT2.out, HQ2.out]; simp [hd]
            go_wp2_with fail
            go_ret2
            exact ⟨below_then HB02.out HB1.out, .inr ⟨HF.out, rfl⟩⟩
          · have hd' : n.depth ≤ 64 := by omega
            by_cases hz : 1048576 < s + n.text.length
            · have hz' : (1048576 : Int) < (s : Int) + (n.text.length : Int) := by omega
              have HF : Hid (treeOk ascii l = false) := by show _ = _; rw [HT2.out, HQ2.out]; simp [hz]
              go_wp2_with fail
              go_ret2
              exact ⟨below_then HB02.out HB1.out, .inr ⟨HF.out, rfl⟩⟩
            · have hz' : (s : Int) + (n.text.length : Int) ≤ 1048576 := by omega
              cases hlo : lowB n.text ascii
              · have HLO := Lib.hid hlo
                have HF : Hid (treeOk ascii l = false) := by show _ = _; rw [HT2.out, HQ2.out, HLO.out]; simp
                clear hlo
                go_wp2_with (go_at_call 26; go_must (refine (low2_any _ HLOW.out _ _).mono ?_; rintro e w' ⟨rfl, rfl⟩; rw [show lowB (⟨⟨n.text⟩⟩ : ByteArray).data.toList ascii = false from HLO.out]))
                go_ret2
                exact ⟨below_then HB02.out HB1.out, .inr ⟨HF.out, rfl⟩⟩
              · have HLO := Lib.hid hlo
                have HF : Hid (sizeGo ascii 0 l = sizeGo ascii (s + n.text.length) (l.drop (i + 1))) := by show _ = _; rw [HQ2.out, HLO.out]; simp [hd', hz]
                clear hlo
                go_wp2_with (go_at_call 26; go_must (refine (low2_any _ HLOW.out _ _).mono ?_; rintro e w' ⟨rfl, rfl⟩; rw [show lowB (⟨⟨n.text⟩⟩ : ByteArray).data.toList ascii = true from HLO.out]))
                go_roundg (l.length - (i + 1))
                case measure => omega
                case rel => exact ⟨i + 1, s + n.text.length, by go_num, by omega, by go_num, by omega, HB1.out, HF.out⟩
        · have hle : (l.length : Int) ≤ (i : Int) := by omega
          have HF : Hid (treeOk ascii l = true) := by
            show _ = _; rw [HT2.out, HQ.out, List.drop_eq_nil_of_le (by omega)]; rfl
          go_wp2_with (first
            | (go_at_call 28; go_must (refine (HSET.out HL1.out HF.out _ _ (HN2.out.below HB.out)).mono ?_; rintro e w3 ⟨v3, rfl, ho3, hb3⟩; have HN3 := Lib.hid (own_nodes ho3); have HB3 := Lib.hid hb3; clear ho3 hb3))
            | (go_at_call 27; go_must (refine (back_any _ (setR all l) (by rw [setR_len]; exact HL.out) _ HN3.out).mono ?_; rintro e w4 ⟨v4, rfl, ho4, hb4⟩; have HO4 := Lib.hid ho4; have HB4 := Lib.hid hb4; clear ho4 hb4)))
          go_ret2
          have ho := HO4.out
          rw [setR_len] at ho
          have hb3 := below_then HB02.out (below_then HB.out HB3.out)
          exact ⟨below_then hb3 HB4.out, .inl ⟨HF.out, _, rfl, own_base hb3.size ho⟩⟩
  · have h1 : (1000 : Int) < (l.length : Int) := by omega
    have HF : Hid (treeOk ascii l = false) := by show _ = _; unfold treeOk; simp [hl1]
    go_enter Tryz.func11, Tryz.ntmps11
    go_wp2_with (go_at_call 16; go_must (refine (nodes_off _ l HL.out _ HN.out).mono ?_; rintro e w1 ⟨v1, rfl, ho1, hb1⟩; have HB1 := Lib.hid hb1; clear ho1 hb1))
    go_ret2
    exact ⟨HB1.out, .inr ⟨HF.out, rfl⟩⟩
end Go.Proofs.YtkfdcbdlcipmfaaGreatFmt
namespace Go.Proofs.YtkfdcbdlcipmfaaGreatFmt
open Go.RowKit Css
variable {F : Go.Stop.Interp} {W0 w w' : World}
def RetAt (mini asc : Bool) (cs : List Int) (l : List RN) (w : World) (e : Ending) (w' : World) : Prop :=
  ∃ (s : ByteArray) (ts : List T) (cl : List Ch), e = .returned (.string s) ∧ Parse 0 (l.map RN.cp) ts [] ∧ Prints asc ts (headBefore ts) cl ∧ (enc (flat cl)).length ≤ cost ts + 1 ∧ s.data.toList = enc (flat (atCh asc mini cs ts cl)) ∧ Below w.heap.size w w'
theorem parse_all {l : List RN} {k : Nat} {ts : List T} (hd : ∀ n ∈ l, 0 ≤ n.depth) (h : Parse 0 (l.map RN.cp) ts ((l.drop k).map RN.cp)) : Parse 0 (l.map RN.cp) ts [] := by
  have h1 := (parse_rest h).1
  cases hdr : l.drop k with
  | nil => rw [hdr] at h; exact h
  | cons n r =>
    rw [hdr] at h1
    have h2 := h1 n.cp (r.map RN.cp) rfl
    have h3 := hd n (List.mem_of_mem_drop (by rw [hdr]; simp))
    have h4 : n.cp.depth = n.depth := rfl
    omega
set_option maxHeartbeats 8000000 in
set_option maxRecDepth 100000 in
theorem At_any (mini asc : Bool) (nm : ByteArray) (cs : List Int) (h : nm.data.toList = enc cs) (hv : AllV cs) (hlow : asc = true → ∀ c ∈ cs, c < 1048576) (hss : nm.size ≤ 2147483647) (l : List RN) (v : Value) (hl : l.length ≤ 1000) (hk : ∀ n ∈ l, NodeK n)
    (hok : ∀ ts, Parse 0 (l.map RN.cp) ts [] → OKl asc ts ∧ cost ts ≤ 134217728) (w : World) (hE : Env F W0 w) (hn : NodesS v l w) : Calls Tryz.prog 19 #[.string nm, v, .bool mini, .bool asc] w (RetAt mini asc cs l w) := by
  have HC := Lib.hid (tokens_rec (l.length + 1) l 0 v w (by omega) hl (by omega) (by omega) hk hn)
  have HP : Hid (∀ k ts, Parse 0 (l.map RN.cp) ts ((l.drop k).map RN.cp) → Parse 0 (l.map RN.cp) ts []) := fun k ts => parse_all fun n hn => (hk n hn).depth.1
  have HE := Lib.hid hE
  have HH := Lib.hid h
  have HV := Lib.hid hv
  have HLOW := Lib.hid hlow
  have HSS := Lib.hid hss
  have HOK := Lib.hid hok
  have HCS : Hid (cs.length ≤ 2147483647) := by
    have h1 := len_le_enc cs
    rw [← h] at h1
    have e : nm.data.toList.length = nm.size := rfl
    show _ ≤ _; omega
  clear hk hE h hv hlow hss hok hl hn
  go_enter Tryz.func19, Tryz.ntmps19
  go_wp2_with (first
    | (go_at_call 33; go_must (refine HC.out.mono ?_; rintro e w1 ⟨ts, k, v', hk', rfl, hp, htk, hb1⟩; have HPA := Lib.hid (HP.out k ts hp); obtain ⟨A', c', hv', htk2⟩ := htk; subst hv'; have htk : TksAt w1 (fun b => w.heap.size ≤ b ∧ b < w1.heap.size) (.slice A' ts.length c') ts := ⟨A', c', rfl, htk2⟩; have HTK := Lib.hid htk; have HB1 := Lib.hid hb1; clear hk' hp htk htk2 hb1))
    | (go_at_call 34; go_must (refine (printed_any mini asc w1.heap.size 87 _ ((HE.out.below HB1.out).below (box_below _ _)).rebase (fun out => ∃ cl, Prints asc ts (headBefore ts) cl ∧ (enc (flat cl)).length ≤ cost ts + 1 ∧ out = enc (flat (atCh asc mini cs ts cl))) ?hx ?hr).mono ?_; (case hx => rintro out ⟨cl, _, _, rfl⟩; rw [at_bytes]; simp); (case hr =>
        intro Wp hbp g W' hlow2 hE2 hst2
        have hbw : Below w1.heap.size w1 Wp := below_then (box_below _ w1) hbp
        have hsame : ∀ b, b < w1.heap.size → W'.heap[b]? = w1.heap[b]? := fun b hb => (hlow2 b (Nat.lt_of_lt_of_le hb hbw.size)).trans (hbw.block b hb)
        have hrb : W'.heap[w1.heap.size]? = some (.cells #[.string nm, .slice A' ts.length c', .slice none 0 0] 89 (0, 0)) := by
          have h1 := blk_below hbp (heap_alloc_new w1 (.cells #[.string nm, .slice A' ts.length c', .slice none 0 0] 89))
          rw [hlow2 _ (Array.getElem?_eq_some_iff.1 h1).1]; exact h1
        have hrl : w1.heap.size < Wp.heap.size := by
          have := hbp.size
          simp at this; omega
        obtain ⟨ho1, ho2⟩ := HOK.out ts HPA.out
        refine (printRule_at (F := F) (W0 := Wp) g w1.heap.size mini asc cs HV.out HLOW.out nm HH.out HSS.out ts (.slice A' ts.length c') W' [] ho2 ho1 (HTK.out.keep fun b hb => ⟨Nat.lt_of_lt_of_le hb.2 hbw.size, hsame b hb.2⟩) hE2 hst2 (by have := HCS.out; simp; omega) hrl _ 89 hrb rfl rfl rfl).mono ?_
        rintro e' w4 ⟨rfl, cl, c1, c2, c3⟩
        exact ⟨rfl, _, ⟨cl, c1, c2, rfl⟩, by simpa using c3⟩); rintro e w3 ⟨s, rfl, ⟨cl, c1, c2, c3⟩, hb3⟩; have HR : Hid (Prints asc ts (headBefore ts) cl ∧ (enc (flat cl)).length ≤ cost ts + 1 ∧ s.data.toList = enc (flat (atCh asc mini cs ts cl))) := ⟨c1, c2, c3⟩; have HB3 := Lib.hid hb3; clear c1 c2 c3 hb3)))
  go_ret
  exact ⟨s, ts, cl, rfl, HPA.out, HR.out.1, HR.out.2.1, HR.out.2.2, below_then (below_then HB1.out (box_below _ _)) HB3.out⟩
end Go.Proofs.YtkfdcbdlcipmfaaGreatFmt
namespace Go.Proofs.YtkfdcbdlcipmfaaGreatFmt
open Go.RowKit Css
variable {F : Go.Stop.Interp} {W0 w w' : World}
def wn : RN := ⟨29, 0, 0, [97], false, false⟩
theorem dec97 : dec [97] = [97] := dec_low (c := 97) (by omega)
def wT : T := .mk 29 0 [97] false false []
theorem wn_cp : wn.cp = ⟨29, 0, 0, [97], false, false⟩ := by
  show (⟨29, if (29 : Int) = 26 then 0 else 0, 0, dec [97], false, false⟩ : N) = _
  rw [dec97]; rfl
theorem wake_parse {ts : List T} (h : Parse 0 ([wn].map RN.cp) ts []) : ts = [wT] := by
  rw [List.map_cons, List.map_nil, wn_cp] at h
  cases h with
  | leaf _ _ _ ts _ hd ho hp =>
    cases hp
    rfl
  | node _ _ _ _ _ _ _ hd ho => exact absurd ho (by decide)
theorem wake_ok : OKl false [wT] := by
  have hg : Css.Good false [97] := fun c hc => by
    simp at hc; subst hc
    exact ⟨by unfold Valid; omega, fun h => by cases h⟩
  exact .cons _ _ (.name (.inl rfl) (by simp [wT, T.text]) hg) .nil .nil (fun u us h => by cases h)
theorem wake_cost : cost [wT] ≤ 134217728 := by rw [cost_cons]; simp [wT, T.text, T.kids, cost]
theorem wake_bytes {cl : List Ch} (h : Prints false [wT] (headBefore [wT]) cl) : enc (flat (atCh false true [120] [wT] cl)) = [64, 120, 32, 97, 59] := by
  have hc : flat cl = [97] := by
    generalize hts : [wT] = ts at h
    generalize hhas : headBefore ts = has at h
    cases h with
    | nil => cases hts
    | last => cases hts
    | plain t ts has ws out rest h1 h2 h3 h4 h5 =>
      injection hts with e1 e2
      subst e1
      subst e2
      have hw : ws = [] := h2 hhas.symm
      subst hw
      have hr : rest = [] := prints_nil h5 rfl
      subst hr
      have hk : wT.kind = 29 := rfl
      cases h4 with
      | ident => decide
      | func _ h => exact absurd h (by decide)
      | dim h => exact absurd h (by decide)
      | atk h => exact absurd h (by decide)
      | hash h => exact absurd h (by decide)
      | str _ _ h => exact absurd h (by decide)
      | plain h => exact absurd hk h
    | opened t ts has ws nl out kc rest h1 h2 h3 =>
      injection hts with e1 e2
      subst e1
      exact absurd h3 (by decide)
  rw [at_bytes, hc]
  decide
theorem wn_node : NodeK wn := ⟨by decide, fun h => by exact absurd h (by decide), by show enc (dec [97]) = [97]; rw [dec97]; decide, by decide⟩
set_option maxHeartbeats 8000000 in
set_option maxRecDepth 100000 in
theorem wakes_any (w : World) (hE : Env F W0 w) : Calls Tryz.prog 13 #[] w (RetBW true w) := by
  have HE := Lib.hid hE
  clear hE
  go_enter Tryz.func13, Tryz.ntmps13
  go_wp2_with (go_at_call 19; go_must (refine (At_any (F := F) (W0 := W0) true false ⟨#[120]⟩ [120] rfl (fun c hc => by simp at hc; subst hc; unfold Valid; omega) (fun h => by cases h) (by decide) [wn] (.slice (some ⟨w.heap.size, 0, none⟩) 1 1) (by decide) (fun n hn => by simp at hn; subst hn; exact wn_node) (fun ts hp => by rw [wake_parse hp]; exact ⟨wake_ok, wake_cost⟩) _ (HE.out.below (box_below _ _)) ?hn).mono ?_; (case hn => refine ⟨_, _, rfl, by decide, fun _ => ⟨_, 0, rfl, by simp, fun i x hx => ?_⟩⟩; rw [Nat.zero_add]; exact (cell_blk (heap_alloc_new w _) i).trans (by rw [← hx, ← Array.getElem?_toList]; rfl)); rintro e w1 ⟨s, ts, cl, rfl, hp, hpr, _, hs, hb⟩; have hts := wake_parse hp; subst hts; have hsb := hs.trans (wake_bytes hpr); have hse : s = ⟨#[64, 120, 32, 97, 59]⟩ := ByteArray.ext (Array.toList_inj.1 hsb); subst hse; have HB := Lib.hid (below_then (box_below _ _) hb); clear hp hpr hs hb hsb))
  go_ret
  exact RetBW.mk' rfl HB.out
end Go.Proofs.YtkfdcbdlcipmfaaGreatFmt
namespace Go.Proofs.YtkfdcbdlcipmfaaGreatFmt
open Go.RowKit Css
variable {F : Go.Stop.Interp} {W0 w w' : World}
theorem nodeK_of {asc : Bool} {l : List RN} (h : InTree asc l) : ∀ n ∈ l, NodeK n := by
  intro n hn
  have h1 := h.good.node n hn
  have h2 := h.good.low n hn
  obtain ⟨h3, _⟩ := isNode_item h1 h2
  obtain ⟨_, k0, k1, _⟩ := ok_kinds (isNode_ok h1 h2).1
  have hk : (tOf n.cp).kind = n.kind := rfl
  refine ⟨⟨by rw [← hk]; exact k0, by rw [← hk]; omega⟩, fun h26 => ?_, (okDec_val h3).1, ?_⟩
  · have hu : isNodeB n = true := h1
    unfold isNodeB at hu
    have h4 : ¬ nameKind n.kind := by unfold nameKind; omega
    rw [if_neg h4, if_neg (by omega), if_neg (by omega), if_neg (by omega), if_pos h26] at hu
    simp only [Bool.and_eq_true, decide_eq_true_eq] at hu
    omega
  · have h5 := h.deep n hn
    have h6 : 0 ≤ n.depth := by
      have : ∀ (l : List N) (m : Int), Tree m l → ∀ x ∈ l, 0 ≤ x.depth := by
        intro l
        induction l with
        | nil => intro m _ x hx; cases hx
        | cons a r ih =>
          intro m ht x hx
          rcases List.mem_cons.1 hx with rfl | hx
          · exact ht.1
          · exact ih _ ht.2.2 x hx
      exact this _ 0 h.good.tree n.cp (List.mem_map.2 ⟨n, hn, rfl⟩)
    omega
theorem le_texts (l : List RN) : ∀ n ∈ l, n.text.length ≤ texts l := by
  induction l with
  | nil => intro n hn; cases hn
  | cons a r ih =>
    intro n hn
    simp only [texts, List.map_cons, List.sum_cons] at ih ⊢
    rcases List.mem_cons.1 hn with rfl | hn
    · omega
    · have := ih n hn; omega
theorem items_text {l : List RN} {x : RIt} (hx : x ∈ itemsR l) : x.text.length ≤ texts l := by
  have hm := le_texts l
  rcases itemsRGo_mem l _ _ _ (by simp) x hx with ⟨k, _, rfl⟩ | ⟨n, hn, _, _, e⟩
  · exact Nat.zero_le _
  · rw [e]; exact hm n hn
theorem at_len {asc mini : Bool} {cs : List Int} {ts : List T} {cl : List Ch} {s : ByteArray} (hv : AllV cs) (h1 : cs.length ≤ 1048576) (h2 : cost ts ≤ 134217728) (h3 : (enc (flat cl)).length ≤ cost ts + 1) (hs : s.data.toList = enc (flat (atCh asc mini cs ts cl))) : s.size ≤ 2147483647 := by
  rw [size_enc hs, at_bytes]
  have h4 := ident_len (asc := asc) (may := !ts.isEmpty) (m := 0) hv
  simp only [List.length_append]
  have h5 : (if ts.isEmpty = true then ([] : List UInt8) else [32]).length ≤ 1 := by split <;> simp
  have h6 : (if mini = true then ([] : List UInt8) else [10]).length ≤ 1 := by split <;> simp
  simp only [List.length_cons, List.length_nil]
  omega
end Go.Proofs.YtkfdcbdlcipmfaaGreatFmt
namespace Go.Proofs.YtkfdcbdlcipmfaaGreatFmt
open Go.RowKit Css
theorem info64 : (Tryz.prog.info? 64).map (fun i => (i.zero, i.size, i.bytes)) = some (some (.agg #[.int .i64 0, .int .i64 0, .int .i64 0, .int .i64 0, .bool false, .string ⟨#[]⟩, .bool false]), 7, 64) := by kernel_rfl
theorem TkRow.len {s : ByteArray} {l : List (Tk × List Int × List Int)} {xs : List Value} (h : TkRow s l xs) : xs.length = l.length * 6 := by
  induction h with
  | nil => rfl
  | snoc l xs x id h ih => rw [List.length_append, List.length_append, ih]; simp [tkCells]; omega
theorem TkRow.get {s : ByteArray} {l : List (Tk × List Int × List Int)} {xs : List Value} (h : TkRow s l xs) {i : Nat} {x : Tk × List Int × List Int} (hi : l[i]? = some x) : ∃ id, ∀ j y, (tkCells s x id)[j]? = some y → xs[i * 6 + j]? = some y := by
  induction h with
  | nil => simp at hi
  | snoc l xs y id h ih =>
    have hl := h.len
    by_cases hlt : i < l.length
    · rw [List.getElem?_append_left hlt] at hi
      obtain ⟨id', h'⟩ := ih hi
      refine ⟨id', fun j z hz => ?_⟩
      have hj : j < 6 := (List.getElem?_eq_some_iff.1 hz).1
      rw [List.getElem?_append_left (by omega)]
      exact h' j z hz
    · have hlt2 := (List.getElem?_eq_some_iff.1 hi).1
      rw [List.length_append] at hlt2
      simp only [List.length_cons, List.length_nil] at hlt2
      have e : i = l.length := by omega
      subst e
      simp at hi
      subst hi
      refine ⟨id, fun j z hz => ?_⟩
      rw [List.getElem?_append_right (by omega)]
      have e : l.length * 6 + j - xs.length = j := by omega
      rw [e]; exact hz
theorem keep_box {w w9 : World} {O O2 : Obj} {r : Option Nat} (hg : ((w.alloc O).alloc O2).grownBy w9 r) (hne : some w.heap.size ≠ r) : w9.heap[w.heap.size]? = some O := by
  rw [hg.block w.heap.size (by show _ < ((w.heap.push O).push O2).size; simp; omega) hne]
  show ((w.heap.push O).push O2)[w.heap.size]? = _
  rw [Array.getElem?_push, if_neg (by simp), Array.getElem?_push_size]
def rdCells (s : ByteArray) (y : (Tk × List Int × List Int) × Bool) (id : Bool) : List Value := tkCells s y.1 id ++ [.bool y.2]
inductive RdRow (s : ByteArray) : List ((Tk × List Int × List Int) × Bool) → List Value → Prop
  | nil : RdRow s [] []
  | snoc (l : List ((Tk × List Int × List Int) × Bool)) (xs : List Value) (y : (Tk × List Int × List Int) × Bool) (id : Bool) : RdRow s l xs → RdRow s (l ++ [y]) (xs ++ rdCells s y id)
theorem RdRow.len {s : ByteArray} {l : List ((Tk × List Int × List Int) × Bool)} {xs : List Value} (h : RdRow s l xs) : xs.length = l.length * 7 := by
  induction h with
  | nil => rfl
  | snoc l xs x id h ih => rw [List.length_append, List.length_append, ih]; simp [rdCells, tkCells]; omega
theorem RdRow.get {s : ByteArray} {l : List ((Tk × List Int × List Int) × Bool)} {xs : List Value} (h : RdRow s l xs) {i : Nat} {x : (Tk × List Int × List Int) × Bool} (hi : l[i]? = some x) : ∃ id, ∀ j y, (rdCells s x id)[j]? = some y → xs[i * 7 + j]? = some y := by
  induction h with
  | nil => simp at hi
  | snoc l xs y id h ih =>
    have hl := h.len
    by_cases hlt : i < l.length
    · rw [List.getElem?_append_left hlt] at hi
      obtain ⟨id', h'⟩ := ih hi
      refine ⟨id', fun j z hz => ?_⟩
      have hj : j < 7 := (List.getElem?_eq_some_iff.1 hz).1
      rw [List.getElem?_append_left (by omega)]
      exact h' j z hz
    · have hlt2 := (List.getElem?_eq_some_iff.1 hi).1
      rw [List.length_append] at hlt2
      simp only [List.length_cons, List.length_nil] at hlt2
      have e : i = l.length := by omega
      subst e
      simp at hi
      subst hi
      refine ⟨id, fun j z hz => ?_⟩
      rw [List.getElem?_append_right (by omega)]
      have e : l.length * 7 + j - xs.length = j := by omega
      rw [e]; exact hz
theorem rd_one (s : ByteArray) (y : (Tk × List Int × List Int) × Bool) (id : Bool) : ∀ u ∈ (#[Value.int .i64 y.1.1.kind, .int .i64 (pos s y.1.2.1 : Nat), .int .i64 (pos s y.1.2.2 : Nat), .int .i64 (y.1.1.unit : Nat), .bool id, .string (bsOf (enc y.1.1.text)), .bool y.2] : Array Value).toList, u.oneCell' = true := by simp [Value.oneCell']
def RetRd (s : ByteArray) (w : World) (e : Ending) (w' : World) : Prop :=
  ∃ (v : Value) (xs : List Value), e = .returned (.tuple #[v, .bool true]) ∧ w'.ownsRow w.heap.size 64 7 v (rdP (tokens (dec s.data.toList)).1 false).length xs ∧ RdRow s (rdP (tokens (dec s.data.toList)).1 false) xs ∧ Below w.heap.size w w'
set_option maxHeartbeats 3200000 in
set_option maxRecDepth 100000 in
theorem reads_true (s : ByteArray) (hs : (s.size : Int) ≤ 2147483647) (hp : isPlainB s.data.toList = true) (hc : (tokens (dec s.data.toList)).2.1 = 0) (ho : (tokens (dec s.data.toList)).2.2 = false) (hlen : (tokens (dec s.data.toList)).1.length ≤ 2147483647) (w : World) :
    Calls Tryz.prog 31 #[.string s] w (RetRd s w) := by
  have HS := Lib.hid hs
  have HPL : Hid ((s.size : Int) ≤ 140737488355328) := by show _ ≤ _; omega
  have HP := Lib.hid hp
  have HC := Lib.hid hc
  have HO := Lib.hid ho
  have HLEN := Lib.hid hlen
  clear hs hp hc ho hlen
  rename World => w0
  go_enter Tryz.func31, Tryz.ntmps31
  go_wp2_with (go_at_call 43; go_must (refine (plain_any _ HPL.out _).mono ?_; rintro e w' ⟨rfl, rfl⟩; rw [HP.out]))
  refine (tokens_any s HS.out _).mono ?_
  rintro e w1 ⟨out, A, c, xs, rfl, hown, hrow, hb⟩
  rw [HC.out, HO.out]
  generalize htl : (tokens (dec s.data.toList)).1 = tl at hown hrow HLEN
  have HTL := Lib.hid htl
  clear htl
  have HB := Lib.hid hb
  have HROW := Lib.hid hrow
  obtain ⟨Ao, co, hout⟩ := own_slice hown
  subst hout
  have HOWN := Lib.hid hown
  clear hb hown hrow
  have hln := HLEN.out
  go_wp2_with fail
  go_loopg [7, 8, 22] tl.length (fun k p7 p8 p22 wr => ∃ (i : Nat) (acc : List ((Tk × List Int × List Int) × Bool)) (sp : Bool), p22 = .int .i64 i ∧ i + k = tl.length ∧ p8 = .bool sp ∧ acc.length ≤ i ∧ Hid (Below w1.heap.size w1 wr) ∧ Hid (acc ++ rdP (tl.drop i) sp = rdP tl false) ∧ Hid (∃ ys, wr.ownsRow w1.heap.size 64 7 p7 acc.length ys ∧ RdRow s acc ys))
  case atStart => exact ⟨0, [], false, rfl, by omega, rfl, by simp, Below.refl _ _, rfl, [], World.ownsRow_nil _ _ _ _, .nil⟩
  case round =>
    obtain ⟨i, acc, sp, rfl, hik, rfl, hacc, HB1, HQ, HR⟩ := hrel
    have hi0 : (0 : Int) ≤ (i : Int) := by omega
    have hi1 : (i : Int) ≤ 2147483647 := by omega
    by_cases hlt : i < tl.length
    · have hlti : (i : Int) < (tl.length : Int) := by omega
      obtain ⟨x, hx⟩ : ∃ x, tl[i]? = some x := ⟨tl[i], List.getElem?_eq_getElem hlt⟩
      have hdrop : tl.drop i = x :: tl.drop (i + 1) := by
        obtain ⟨h1, e⟩ := List.getElem?_eq_some_iff.1 hx
        rw [← e]; exact List.drop_eq_getElem_cons h1
      obtain ⟨id, hcells⟩ := HROW.out.get hx
      obtain ⟨q, cap, hv, _, _⟩ := HOWN.out.form (by omega)
      have hA : Ao = some ⟨q, 0, none⟩ := by injection hv
      subst hA
      have hq : q < w1.heap.size := (own_lt HOWN.out rfl).1
      have hcc : ∀ j y, (tkCells s x id)[j]? = some y → wr.cell? ⟨q, i * 6 + j, none⟩ = some y := fun j y hy => by
        have h1 := HOWN.out.cells (g := q) rfl _ y (hcells j y hy)
        rw [addr_add0] at h1
        rw [World.cell?_of_block (w := w1) (a := ⟨q, i * 6 + j, none⟩) (HB1.out.block q hq)]; exact h1
      have hc0 : wr.cell? ⟨q, i * 6, none⟩ = some (.int .i64 x.1.kind) := hcc 0 _ rfl
      have hc1 : wr.cell? ⟨q, i * 6 + 1, none⟩ = some (.int .i64 (pos s x.2.1 : Nat)) := hcc 1 _ rfl
      have hc2 : wr.cell? ⟨q, i * 6 + 2, none⟩ = some (.int .i64 (pos s x.2.2 : Nat)) := hcc 2 _ rfl
      have hc3 : wr.cell? ⟨q, i * 6 + 3, none⟩ = some (.int .i64 (x.1.unit : Nat)) := hcc 3 _ rfl
      have hc4 : wr.cell? ⟨q, i * 6 + 4, none⟩ = some (.bool id) := hcc 4 _ rfl
      have hc5 : wr.cell? ⟨q, i * 6 + 5, none⟩ = some (.string (bsOf (enc x.1.text))) := hcc 5 _ rfl
      obtain ⟨ys, hy1, hy2⟩ := HR.out
      have HB2 := Lib.hid (HB1.out.alloc HB1.out.size (.cells #[.int .i64 x.1.kind, .int .i64 (pos s x.2.1 : Nat), .int .i64 (pos s x.2.2 : Nat), .int .i64 (x.1.unit : Nat), .bool id, .string (bsOf (enc x.1.text))] 62))
      have HY1 := Lib.hid (hy1.alloc (.cells #[.int .i64 x.1.kind, .int .i64 (pos s x.2.1 : Nat), .int .i64 (pos s x.2.2 : Nat), .int .i64 (x.1.unit : Nat), .bool id, .string (bsOf (enc x.1.text))] 62))
      have HY2 := Lib.hid hy2
      have HNE : Hid (some wr.heap.size ≠ u7.ownBlock) := by
        intro e
        have := (own_lt hy1 e.symm).1
        omega
      cases hk : (x.1.kind == 38)
      · have hk' : x.1.kind ≠ 38 := by simpa using hk
        have HQ2 : Hid ((acc ++ [(x, sp)]) ++ rdP (tl.drop (i + 1)) false = rdP tl false) := by
          show _ = _; rw [← HQ.out, hdrop]; simp [rdP, hk']
        have hsize : acc.length ≤ 2147483647 := by omega
        clear hdrop hcells hcc hy1 hy2 HQ hv hx HR
        go_wp2_with (at_builtin; go_must (refine wpList_app1 rfl _ _ 58 64 rfl Tryz.underlying58 info64 rfl (by decide) HY1.out HB2.out.size #[.int .i64 x.1.kind, .int .i64 (pos s x.2.1 : Nat), .int .i64 (pos s x.2.2 : Nat), .int .i64 (x.1.unit : Nat), .bool id, .string (bsOf (enc x.1.text)), .bool sp] rfl (rd_one s (x, sp) id) (by omega) (by unfold maxLen; omega) rfl (wr.heap.size + 1) (by simp) rfl ?_; intro v' w9 hw9 hg9 hb9 _; have HW9 := Lib.hid hw9; have HB9 := Lib.hid hb9; have k0 := cell_blk (keep_box hg9 HNE.out) 0; clear hw9 hg9 hb9))
        go_roundg (tl.length - (i + 1))
        case measure => omega
        case rel => exact ⟨i + 1, acc ++ [(x, sp)], false, by go_num, by omega, rfl, by rw [List.length_append]; simp; omega, HB2.out.trans HB9.out, HQ2.out, _, by rw [List.length_append]; exact HW9.out, .snoc _ _ (x, sp) id HY2.out⟩
      · have hk' : x.1.kind = 38 := by simpa using hk
        have HQ2 : Hid (acc ++ rdP (tl.drop (i + 1)) true = rdP tl false) := by
          show _ = _; rw [← HQ.out, hdrop]; simp [rdP, hk']
        clear hk' hdrop hcells hcc hy1 hy2 HQ hv hx HR
        go_wp2_with fail
        go_roundg (tl.length - (i + 1))
        case measure => omega
        case rel => exact ⟨i + 1, acc, true, by go_num, by omega, rfl, by omega, HB2.out, HQ2.out, ys, HY1.out, HY2.out⟩
    · have hle : (tl.length : Int) ≤ (i : Int) := by omega
      have hil : i = tl.length := by omega
      have HF : Hid (acc = rdP tl false) := by
        show _ = _; rw [← HQ.out, hil, List.drop_length]; simp [rdP]
      go_wp2_with fail
      go_ret2
      obtain ⟨ys, hy1, hy2⟩ := HR.out
      rw [HF.out] at hy1 hy2
      unfold RetRd
      rw [HTL.out]
      exact ⟨u7, ys, rfl, own_base HB.out.size hy1, hy2, below_then HB.out HB1.out⟩
end Go.Proofs.YtkfdcbdlcipmfaaGreatFmt
