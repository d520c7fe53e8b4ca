/- PLAIN: two prints of trees with two blanks between are a print of both. No program in sight. -/
import Derived.Test.YtkfdcbdlcipmfaaGreatFmtH06
import Derived.Test.YtkfdcbdlcipmfaaGreatFmtH35
import Derived.Test.YtkfdcbdlcipmfaaGreatFmtH44
set_option linter.unusedVariables false
set_option linter.unusedSimpArgs false
namespace Go.Proofs.YtkfdcbdlcipmfaaGreatFmt
namespace Css
end Css
end Go.Proofs.YtkfdcbdlcipmfaaGreatFmt
namespace Go.Proofs.YtkfdcbdlcipmfaaGreatFmt
namespace Css
theorem parse_det {d : Int} {l : List N} {ts us : List T} {r1 r2 : List N} (h : Parse d l ts r1) (h' : Parse d l us r2) : ts = us ∧ r1 = r2 := by
  induction h generalizing us r2 with
  | nil => cases h'; exact ⟨rfl, rfl⟩
  | stop d n r hd =>
    cases h' with
    | stop => exact ⟨rfl, rfl⟩
    | leaf _ _ _ _ _ h => exact absurd hd h
    | node _ _ _ _ _ _ _ h => exact absurd hd h
  | leaf d n r ts rest hd ho hp ih =>
    cases h' with
    | stop _ _ _ h => exact absurd h hd
    | leaf _ _ _ ts' _ _ _ h => obtain ⟨rfl, rfl⟩ := ih h; exact ⟨rfl, rfl⟩
    | node _ _ _ _ _ _ _ _ h => exact absurd h ho
  | node d n r kids r1 ts rest hd ho hp1 hp2 ih1 ih2 =>
    cases h' with
    | stop _ _ _ h => exact absurd h hd
    | leaf _ _ _ _ _ _ h => exact absurd ho h
    | node _ _ _ kids' r1' ts' _ _ _ h1 h2 =>
      obtain ⟨rfl, rfl⟩ := ih1 h1
      obtain ⟨rfl, rfl⟩ := ih2 h2
      exact ⟨rfl, rfl⟩
def T.setB (x : Bool) : T → T | .mk k u t b _ kids => .mk k u t b x kids
end Css
end Go.Proofs.YtkfdcbdlcipmfaaGreatFmt
namespace Go.Proofs.YtkfdcbdlcipmfaaGreatFmt
open Go.RowKit Css
variable {F : Go.Stop.Interp} {W0 : World}
def AtT (asc mini : Bool) (cs : List Int) (l : List RN) (s : ByteArray) : Prop :=
  ∃ (ts : List T) (cl : List Ch), Parse 0 (l.map RN.cp) ts [] ∧ Prints asc ts (headBefore ts) cl ∧ (enc (flat cl)).length ≤ cost ts + 1 ∧ s.data.toList = enc (flat (atCh asc mini cs ts cl))
theorem good_tree_any {l : List RN} (h : GoodTree true l) (a : Bool) : GoodTree a l := by
  cases a
  · exact ⟨h.tree, h.node, fun _ _ => rfl⟩
  · exact h
theorem good_any {cs : List Int} (h : Css.Good true cs) (a : Bool) : Css.Good a cs := fun c hc => ⟨(h c hc).1, fun _ => (h c hc).2 rfl⟩
structure AtIn (all : Bool) (nm : List UInt8) (l : List RN) : Prop where
  tree : InTree true l
  name : isNameB nm = true
  low : lowB nm true = true
  short : nm.length ≤ 1048576
theorem AtIn.ok {all : Bool} {nm : List UInt8} {l : List RN} (h : AtIn all nm l) (a : Bool) : ∀ ts, Parse 0 ((setR all l).map RN.cp) ts [] → OKl a ts ∧ cost ts ≤ 134217728 := fun ts hp => ⟨set_okl (good_tree_any h.tree.good a) hp, in_cost (h.tree.set all) hp⟩
theorem AtIn.good {all : Bool} {nm : List UInt8} {l : List RN} (h : AtIn all nm l) (a : Bool) : Css.Good a (dec nm) := good_any (low_good (dec_nil_iff h.name).2 h.low) a
theorem AtIn.cps {all : Bool} {nm : List UInt8} {l : List RN} (h : AtIn all nm l) : (dec nm).length ≤ 1048576 := Nat.le_trans (dec_len_le nm (dec_nil_iff h.name).2) h.short
theorem AtIn.size {all a m : Bool} {nm : List UInt8} {l : List RN} (h : AtIn all nm l) {s : ByteArray} {ts : List T} {cl : List Ch} (hp : Parse 0 ((setR all l).map RN.cp) ts []) (hl : (enc (flat cl)).length ≤ cost ts + 1) (hs : s.data.toList = enc (flat (atCh a m (dec nm) ts cl))) : s.size ≤ 2147483647 :=
  at_len (good_v (h.good a)) h.cps (h.ok a ts hp).2 hl hs
theorem AtIn.call {all : Bool} {nm : ByteArray} {l : List RN} (h : AtIn all nm.data.toList l) (a m : Bool) (v : Value) (w : World) (hE : Env F W0 w) (hn : NodesS v (setR all l) w) :
    Calls Tryz.prog 19 #[.string nm, v, .bool m, .bool a] w fun e w' => ∃ s, e = .returned (.string s) ∧ AtT a m (dec nm.data.toList) (setR all l) s ∧ Below w.heap.size w w' := by
  have e : nm.data.toList.length = nm.size := rfl
  have h1 := h.short
  refine (At_any (F := F) (W0 := W0) m a nm (dec nm.data.toList) (okDec_val (dec_nil_iff h.name).2).1.symm (good_v (h.good a)) (good_l (h.good a)) (by omega) (setR all l) v (h.tree.set all).many (nodeK_of (h.tree.set all)) (h.ok a) w hE hn).mono ?_
  rintro e' w' ⟨s, ts, cl, rfl, hp, hpr, hcl, hs, hb⟩
  exact ⟨s, rfl, ⟨ts, cl, hp, hpr, hcl, hs⟩, hb⟩
theorem AtIn.same {all : Bool} {nm : List UInt8} {l : List RN} (h : AtIn all nm l) {a1 a2 m1 m2 : Bool} {s t : ByteArray} (h1 : AtT a1 m1 (dec nm) (setR all l) s) (h2 : AtT a2 m2 (dec nm) (setR all l) t) (w : World) : Calls Tryz.prog 20 #[.string s, .string t] w (RetBW true w) := by
  obtain ⟨ts, c1, p1, r1, l1, e1⟩ := h1
  obtain ⟨ts2, c2, p2, r2, l2, e2⟩ := h2
  obtain ⟨rfl, _⟩ := parse_det p1 p2
  obtain ⟨x, y, hx, hy, hall⟩ := at_same (m1 := m1) (m2 := m2) r1 r2 (h.ok a1 ts p1).1 (h.ok a2 ts p1).1 (dec_nil_iff h.name).1 (h.good a1) (h.good a2)
  exact same_ready (readT e1 (h.size p1 l1 e1) (at_plain (h.good a1) r1 (h.ok a1 ts p1).1) hx) (readT e2 (h.size p1 l2 e2) (at_plain (h.good a2) r2 (h.ok a2 ts p1).1) hy) hall w
theorem enc_low {ds : List Int} (h : ∀ d ∈ ds, 0 ≤ d ∧ d < 128) : ∀ b ∈ enc ds, b.toNat ≤ 127 := by
  intro b hb
  unfold enc at hb
  obtain ⟨d, hd, hb⟩ := List.mem_flatMap.1 hb
  have h1 := h d hd
  have e : enc1 d = [by8 d] := by unfold enc1; rw [if_pos (by omega)]
  rw [e] at hb
  have hb2 : b = by8 d := by simpa using hb
  subst hb2
  have := by8_nat (c := d) h1.1 (by omega)
  omega
theorem bt_low {s : ByteArray} (h : ∀ b ∈ s.data.toList, b.toNat ≤ 127) (i : Nat) : bt s i ≤ 127 := by
  unfold bt
  by_cases hi : i < s.data.toList.length
  · rw [List.getD_eq_getElem?_getD, List.getElem?_eq_getElem hi]
    have := h _ (List.getElem_mem hi)
    simp only [Option.getD_some]
    omega
  · rw [List.getD_eq_getElem?_getD, List.getElem?_eq_none (by omega)]
    decide
theorem AtIn.ascii {all : Bool} {nm : List UInt8} {l : List RN} (h : AtIn all nm l) {m : Bool} {s : ByteArray} (h1 : AtT true m (dec nm) (setR all l) s) : s.size ≤ 2147483647 ∧ ∀ i, bt s i ≤ 127 := by
  obtain ⟨ts, c1, p1, r1, l1, e1⟩ := h1
  refine ⟨h.size p1 l1 e1, bt_low ?_⟩
  rw [e1]
  have hp := at_plain (mini := m) (h.good true) r1 (h.ok true ts p1).1
  refine enc_low fun d hd => ?_
  have := hp.1 d hd
  have h2 := this.1
  unfold Valid at h2
  exact ⟨by omega, this.2 rfl⟩
end Go.Proofs.YtkfdcbdlcipmfaaGreatFmt
