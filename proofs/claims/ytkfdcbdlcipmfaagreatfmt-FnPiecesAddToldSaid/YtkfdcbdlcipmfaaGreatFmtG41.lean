/- Words for the walks: rows that a call owns: what they hold, and stores into them. -/
import Derived.Test.YtkfdcbdlcipmfaaGreatFmtG39
import Derived.Test.YtkfdcbdlcipmfaaGreatFmtG40
import Derived.Test.YtkfdcbdlcipmfaaGreatFmtG36
import Derived.Test.YtkfdcbdlcipmfaaGreatFmtG08
set_option linter.unusedVariables false
set_option linter.unusedSimpArgs false
namespace Go.Proofs.YtkfdcbdlcipmfaaGreatFmt
open Go.RowKit Css
theorem fits_parts {l : List RN} (hf : fitsB l = true) : l.length ≤ 2147483647 ∧ ∀ n ∈ l, n.text.length ≤ 2147483647 := by
  unfold fitsB at hf
  simp only [Bool.and_eq_true, decide_eq_true_eq, List.all_eq_true] at hf
  refine ⟨hf.1, fun n hn => ?_⟩
  have := hf.2 n hn
  unfold fitB at this
  simpa using this
theorem own_slice_cap {w : World} {B n c : Nat} {e : TypeId} {size : Nat} {A : Option Addr} {k : Nat} {xs : List Value} (h : w.ownsRow B e size (.slice A k c) n xs) : ∀ A' k' c', (Value.slice A k c) = .slice A' k' c' → k' ≤ c' := by
  intro A' k' c' e
  injection e with _ e2 e3
  subst e2; subst e3
  rcases h.2 with ⟨h1, _⟩ | ⟨g, cap, cur, hv, hg, hh, h3, _⟩
  · injection h1 with _ e1 e2; omega
  · injection hv with _ e1 e3; omega
theorem own_none {w : World} {B n : Nat} {e : TypeId} {size : Nat} {A : Option Addr} {k c : Nat} {xs : List Value} (h : w.ownsRow B e size (.slice A k c) n xs) (hA : A = none) : k = 0 ∧ c = 0 := by
  subst hA
  rcases h.2 with ⟨h1, _⟩ | ⟨q, cap, cur, h1, _⟩
  · injection h1 with _ e1 e2; exact ⟨e1, e2⟩
  · injection h1 with h1 _ _; cases h1
theorem own_cells {w : World} {B n : Nat} {e : TypeId} {size : Nat} {A : Option Addr} {k c : Nat} {xs : List Value} (h : w.ownsRow B e size (.slice A k c) n xs) : ∀ ad, A = some ad → ∀ j u, xs[j]? = some u → w.cell? (ad.add j) = some u := by
  intro ad hA j u hj
  subst hA
  have hb : ∃ q, ad = ⟨q, 0, none⟩ := by
    rcases h.2 with ⟨h1, _⟩ | ⟨q, cap, cur, h1, _⟩
    · injection h1 with h1 _ _; cases h1
    · injection h1 with h1 _ _; injection h1 with h1; exact ⟨q, h1⟩
  obtain ⟨q, rfl⟩ := hb
  exact h.cells (g := q) rfl j u hj
structure NRow (w : World) (B q n c : Nat) (l : List RN) : Prop where
  own : w.ownsRow B 45 6 (.slice (some ⟨q, 0, none⟩) n c) n (nRow l)
  len : l.length = n
theorem NRow.of {w : World} {B n c : Nat} {A : Option Addr} {l : List RN} (h : w.ownsRow B 45 6 (.slice A n c) n (nRow l)) (hl : l.length = n) (hn : n ≠ 0) : ∃ q, A = some ⟨q, 0, none⟩ ∧ B ≤ q ∧ q < w.heap.size ∧ NRow w B q n c l := by
  obtain ⟨q, cap, hv, hq, _⟩ := h.form (by omega)
  injection hv with hA _ hc
  subst hA
  exact ⟨q, rfl, hq, (own_lt h rfl).1, h, hl⟩
theorem NRow.nodes {w : World} {B q n c : Nat} {l : List RN} (h : NRow w B q n c l) : NodesAt (.slice (some ⟨q, 0, none⟩) n c) l w := by
  have h1 := h.own
  rw [← h.len] at h1 ⊢
  exact own_nodes h1
theorem NRow.toS {w : World} {B q n c : Nat} {l : List RN} (h : NRow w B q n c l) : NodesS (.slice (some ⟨q, 0, none⟩) n c) l w := h.nodes.toS (own_slice_cap h.own)
theorem NRow.keep {w w' : World} {B q n c : Nat} {l : List RN} (h : NRow w B q n c l) (hk : w'.heap[q]? = w.heap[q]?) : NRow w' B q n c l :=
  ⟨own_keep h.own fun q' hq' => by injection hq' with e; subst e; exact hk, h.len⟩
theorem NRow.lt {w : World} {B q n c : Nat} {l : List RN} (h : NRow w B q n c l) : q < w.heap.size ∧ B ≤ q := ⟨(own_lt h.own rfl).1, (own_lt h.own rfl).2.1⟩
theorem NRow.below {w w' : World} {B q n c : Nat} {l : List RN} (h : NRow w B q n c l) (hb : Below w.heap.size w w') : NRow w' B q n c l := h.keep (hb.block q h.lt.1)
theorem NRow.node {w : World} {B q n c : Nat} {l : List RN} (h : NRow w B q n c l) {i : Nat} {m : RN} (hn : l[i]? = some m) : NodeC w q (i * 6) m := by
  obtain ⟨q', e, _, hc⟩ := h.nodes.node hn
  injection e with e
  injection e with e
  subst e
  exact hc
theorem setCell_other (w : World) (q o : Nat) (x : Value) {k : Nat} (h : k ≠ q) : (w.setCell ⟨q, o, none⟩ x).heap[k]? = w.heap[k]? := by
  unfold World.setCell
  simp [Array.getElem?_modify, Ne.symm h]
theorem nRow_setB : ∀ (l : List RN) (i : Nat) (n : RN) (x : Bool), l[i]? = some n → (nRow l).set (i * 6 + 4) (.bool x) = nRow (l.set i { n with before := x })
  | [], i, n, x, h => by simp at h
  | a :: r, 0, n, x, h => by
    simp only [List.getElem?_cons_zero, Option.some.injEq] at h
    subst h
    rfl
  | a :: r, i + 1, n, x, h => by
    have ih := nRow_setB r i n x (by simpa using h)
    show (nCells a ++ nRow r).set ((i + 1) * 6 + 4) (.bool x) = nCells a ++ nRow (r.set i { n with before := x })
    have hl : (nCells a).length = 6 := rfl
    rw [List.set_append_right _ _ (by omega), hl, ← ih]
    congr 2
    omega
theorem NRow.after {w : World} {B q n c : Nat} {l : List RN} (h : NRow w B q n c l) {i : Nat} {m : RN} (x : Bool) (hn : l[i]? = some m) :
    NRow (w.setCell ⟨q, i * 6 + 5, none⟩ (.bool x)) B q n c (l.set i (afterR x m)) ∧ Below B w (w.setCell ⟨q, i * 6 + 5, none⟩ (.bool x)) ∧ ∀ k, k ≠ q → (w.setCell ⟨q, i * 6 + 5, none⟩ (.bool x)).heap[k]? = w.heap[k]? := by
  have h1 := h.own.stored (i * 6 + 5) (.bool x)
  rw [nRow_set l i m x hn] at h1
  exact ⟨⟨h1.1, by rw [List.length_set]; exact h.len⟩, (Below.refl _ _).grown h1.2 (Nat.le_of_lt (Nat.lt_of_le_of_lt h.lt.2 h.lt.1)) fun k hk => (by injection hk with hk; subst hk; exact h.lt.2), fun k hk => setCell_other w q _ _ hk⟩
theorem NRow.before {w : World} {B q n c : Nat} {l : List RN} (h : NRow w B q n c l) {i : Nat} {m : RN} (x : Bool) (hn : l[i]? = some m) :
    NRow (w.setCell ⟨q, i * 6 + 4, none⟩ (.bool x)) B q n c (l.set i { m with before := x }) ∧ Below B w (w.setCell ⟨q, i * 6 + 4, none⟩ (.bool x)) ∧ ∀ k, k ≠ q → (w.setCell ⟨q, i * 6 + 4, none⟩ (.bool x)).heap[k]? = w.heap[k]? := by
  have h1 := h.own.stored (i * 6 + 4) (.bool x)
  rw [nRow_setB l i m x hn] at h1
  exact ⟨⟨h1.1, by rw [List.length_set]; exact h.len⟩, (Below.refl _ _).grown h1.2 (Nat.le_of_lt (Nat.lt_of_le_of_lt h.lt.2 h.lt.1)) fun k hk => (by injection hk with hk; subst hk; exact h.lt.2), fun k hk => setCell_other w q _ _ hk⟩
theorem nRow_append (l u : List RN) : nRow (l ++ u) = nRow l ++ nRow u := by unfold nRow; simp
theorem pieces_rows {w : World} {B C q3 q4 n c n' c' : Nat} {l u : List RN} (h3 : NRow w B q3 n c l) (h4 : NRow w C q4 n' c' u) (hne : q4 ≠ q3) {j : Nat} {m m0 : RN} (hm : l[j]? = some m) (hd : m.depth ≤ 0) (hr : ∀ i r, j < i → l[i]? = some r → ¬ r.depth ≤ 0) (hm0 : u[0]? = some m0) :
    NRow ((w.setCell ⟨q3, j * 6 + 5, none⟩ (.bool false)).setCell ⟨q4, 4, none⟩ (.bool false)) B q3 n c (endSetR false l) ∧ NRow ((w.setCell ⟨q3, j * 6 + 5, none⟩ (.bool false)).setCell ⟨q4, 4, none⟩ (.bool false)) C q4 n' c' (noBefore u) ∧ (∀ D, D ≤ B → D ≤ C → Below D w ((w.setCell ⟨q3, j * 6 + 5, none⟩ (.bool false)).setCell ⟨q4, 4, none⟩ (.bool false))) := by
  have s1 := h3.after false hm
  have h4' := h4.keep (s1.2.2 q4 hne)
  have s2 : NRow ((w.setCell ⟨q3, j * 6 + 5, none⟩ (.bool false)).setCell ⟨q4, 4, none⟩ (.bool false)) C q4 n' c' _ ∧ _ ∧ _ := h4'.before false hm0
  refine ⟨?_, ?_, fun D h h' => (s1.2.1.mono h).trans (s2.2.1.mono h')⟩
  · rw [endSetR_at false l j m hm hd hr]
    exact s1.1.keep (s2.2.2 q3 (Ne.symm hne))
  · rw [noBefore_set hm0]
    exact s2.1
theorem pieces_last {w : World} {B q n c : Nat} {l u : List RN} (h : NRow w B q n c (endSetR false l ++ u)) {j : Nat} {m : RN} (hm : l[j]? = some m) (hd : m.depth ≤ 0) (hr : ∀ i r, j < i → l[i]? = some r → ¬ r.depth ≤ 0) :
    w.cell? ⟨q, j * 6 + 5, none⟩ = some (.bool false) ∧ NRow (w.setCell ⟨q, j * 6 + 5, none⟩ (.bool true)) B q n c (endSetR true (endSetR false l) ++ u) ∧ Below B w (w.setCell ⟨q, j * 6 + 5, none⟩ (.bool true)) ∧ ∀ k, k ≠ q → (w.setCell ⟨q, j * 6 + 5, none⟩ (.bool true)).heap[k]? = w.heap[k]? := by
  have hj : j < l.length := (List.getElem?_eq_some_iff.1 hm).1
  have hA : (endSetR false l)[j]? = some (afterR false m) := by rw [endSetR_at false l j m hm hd hr, List.getElem?_set_self hj]
  have hjl : j < (endSetR false l).length := by rw [endSetR_len]; exact hj
  have hAU : (endSetR false l ++ u)[j]? = some (afterR false m) := by rw [List.getElem?_append_left hjl]; exact hA
  have s := h.after true hAU
  refine ⟨(h.node hAU).c5, ?_, s.2.1, s.2.2⟩
  rw [set_afterR_at hm hd hr, ← List.set_append_left _ _ hjl]
  exact s.1
end Go.Proofs.YtkfdcbdlcipmfaaGreatFmt
namespace Go.Proofs.YtkfdcbdlcipmfaaGreatFmt
open Css
def frontS (s : Int) : Prop := s = 35 ∨ s = 45 ∨ s = 64 ∨ s = 43 ∨ s = 46 ∨ s = 60 ∨ s = 47 ∨ s = 33 ∨ s = 37 ∨ s = 63
instance (s : Int) : Decidable (frontS s) := by unfold frontS; infer_instance
def backS (s : Int) : Prop := s ≠ 0 ∧ s ≠ 44 ∧ s ≠ 59 ∧ s ≠ 58 ∧ s ≠ 123 ∧ s ≠ 91 ∧ s ≠ 40
instance (s : Int) : Decidable (backS s) := by unfold backS; infer_instance
def apB (ka : Int) (sa : ByteArray) (kb : Int) (sb : ByteArray) : Bool :=
  if clsI ka ≠ 0 ∧ ka ≠ 27 then decide (clsI kb ≠ 0 ∨ kb = 22 ∨ kb = 4 ∨ kb = 33 ∨ kb = 11 ∨ kb = 17 ∨ kb = 23 ∨ kb = 20)
  else decide (frontS (sgI ka sa)) && decide (clsI kb ≠ 0 ∨ kb = 4 ∨ kb = 5 ∨ backS (sgI kb sb))
theorem clsI_iff (k : Int) : clsI k = 0 ↔ cls k = 0 := by unfold clsI; omega
theorem one_byte {l : List UInt8} {c : Int} (h : okDec l = true) (hd : dec l = [c]) (hc : c < 128) : l.length = 1 ∧ bt ⟨⟨l⟩⟩ 0 = c := by
  obtain ⟨h1, h2⟩ := okDec_val h
  rw [hd] at h1 h2
  have hv := h2 c (by simp)
  have e : enc [c] = [by8 c] := by simp [enc, enc1]; omega
  rw [e] at h1
  subst h1
  refine ⟨rfl, ?_⟩
  show (((⟨⟨[by8 c]⟩⟩ : ByteArray).data.toList.getD 0 0).toNat : Int) = c
  have := by8_nat (c := c) (by unfold Valid at hv; omega) (by omega)
  simpa using this
theorem decTwo_ne {l : List UInt8} {a b : Int} {r : List Int} (h : okDec l = true) (hd : dec l = a :: b :: r) : l.length ≠ 1 := by
  intro h1
  obtain ⟨h2, h3⟩ := okDec_val h
  have h4 := len_le_enc (dec l)
  rw [h2, h1, hd] at h4
  simp at h4
theorem sg_sign {n : RN} {asc : Bool} (h : isNodeB n = true) (hl : lowB n.text asc = true) : sgI n.kind ⟨⟨n.text⟩⟩ = signOf n.kind (dec n.text) := by
  obtain ⟨hok, hod⟩ := isNode_ok h hl
  have hkind : (tOf n.cp).kind = n.kind := rfl
  have htext : (tOf n.cp).text = dec n.text := rfl
  by_cases hc : clsI n.kind = 0 ∧ n.kind ≠ 36
  · have hc0 := (clsI_iff _).1 hc.1
    have hk : signLike (tOf n.cp).kind := by
      cases hok with
      | name h1 | func h1 | dim h1 => rw [hkind] at h1; unfold cls at hc0; rw [if_pos (by omega)] at hc0; omega
      | num h1 => rw [hkind] at h1; unfold cls at hc0; rw [if_neg (by omega), if_pos (by omega)] at hc0; omega
      | str h1 => rw [hkind] at h1; exact absurd h1 hc.2
      | sign h1 => exact h1
    cases sign_text hok hk with
    | one c h1 h2 h3 _ _ _ _ h4 =>
      rw [htext] at h1
      have hlt : c < 128 := by unfold starts at h4; omega
      obtain ⟨a1, a2⟩ := one_byte hod h1 hlt
      unfold sgI
      rw [if_pos ⟨hc.1, hc.2, a1⟩, h1, a2]
      unfold signOf
      simp only []
      rw [if_pos ⟨hc0, hc.2⟩]
    | cdc h1 h2 =>
      rw [htext] at h2
      unfold sgI
      rw [if_neg (fun h => decTwo_ne hod h2 h.2.2), h2]
      rfl
    | cdo h1 h2 =>
      rw [htext] at h2
      unfold sgI
      rw [if_neg (fun h => decTwo_ne hod h2 h.2.2), h2]
      rfl
  · unfold sgI
    rw [if_neg (fun h => hc ⟨h.1, h.2.1⟩)]
    unfold signOf
    split
    · rw [if_neg (fun h => hc ⟨(clsI_iff _).2 h.1, h.2⟩)]
    · rfl
theorem apart_bytes {n m : RN} {asc : Bool} (hn : isNodeB n = true) (hnl : lowB n.text asc = true) (hm : isNodeB m = true) (hml : lowB m.text asc = true) :
    apB n.kind ⟨⟨n.text⟩⟩ m.kind ⟨⟨m.text⟩⟩ = decide (apart (tOf n.cp) (tOf m.cp)) := by
  have k1 : (tOf n.cp).kind = n.kind := rfl
  have k2 : (tOf m.cp).kind = m.kind := rfl
  have t1 : (tOf n.cp).text = dec n.text := rfl
  have t2 : (tOf m.cp).text = dec m.text := rfl
  have c1 := clsI_iff n.kind
  have c2 := clsI_iff m.kind
  rw [eq_comm, Bool.eq_iff_iff, decide_eq_true_iff]
  unfold apart apB
  rw [k1, k2, t1, t2, sg_sign hn hnl, sg_sign hm hml]
  by_cases hc : cls n.kind ≠ 0 ∧ n.kind ≠ 27
  · rw [if_pos hc, if_pos ⟨fun h => hc.1 (c1.1 h), hc.2⟩, decide_eq_true_eq]; simp only [ne_eq, c2]
  · rw [if_neg hc, if_neg (fun h => hc ⟨fun h0 => h.1 (c1.2 h0), h.2⟩), Bool.and_eq_true, decide_eq_true_eq, decide_eq_true_eq]; simp only [ne_eq, c2]
    rfl
def needB (n : RN) (r : List RN) : Bool :=
  match r with
  | [] => false
  | m :: _ => !openQ n.kind && decide (m.depth = n.depth) && apB n.kind ⟨⟨n.text⟩⟩ m.kind ⟨⟨m.text⟩⟩
theorem needs_bytes {l : List RN} {asc : Bool} (h : ∀ n ∈ l, isNodeB n = true ∧ lowB n.text asc = true) {i : Nat} {n : RN} (hn : l[i]? = some n) : needs n.cp ((l.drop (i + 1)).map RN.cp) = needB n (l.drop (i + 1)) := by
  cases hd : l.drop (i + 1) with
  | nil => rfl
  | cons m r =>
    have h1 := h n (List.mem_of_getElem? hn)
    have h2 := h m (List.mem_of_mem_drop (by rw [hd]; simp))
    show (!decide (opens n.kind) && decide (m.depth = n.depth) && decide (apart (tOf n.cp) (tOf m.cp))) = (!openQ n.kind && decide (m.depth = n.depth) && apB n.kind ⟨⟨n.text⟩⟩ m.kind ⟨⟨m.text⟩⟩)
    rw [apart_bytes h1.1 h1.2 h2.1 h2.2]
    rfl
end Go.Proofs.YtkfdcbdlcipmfaaGreatFmt
