/- PLAIN: the items of flat nodes over bytes; what `holds` is told. No program in sight. -/
import Derived.Test.YtkfdcbdlcipmfaaGreatFmtG07
set_option linter.unusedVariables false
set_option linter.unusedSimpArgs false
namespace Go.Proofs.YtkfdcbdlcipmfaaGreatFmt
namespace Css
structure RIt where
  kind : Int
  unit : Int
  text : List UInt8
  space : Int
def RIt.cp (x : RIt) : It := ⟨x.kind, if x.kind = 26 then x.unit else 0, dec x.text, x.space⟩
def isClose (k : Int) : Prop := k = 8 ∨ k = 7 ∨ k = 6
theorem closeKind_close (k : Int) : isClose (closeKind k) := by
  unfold closeKind isClose
  split
  · simp
  split <;> simp
theorem isNode_item {n : RN} {ascii : Bool} (h : isNodeB n = true) (hlow : lowB n.text ascii = true) : okDec n.text = true ∧ (n.kind = 26 → ∀ c ∈ (dec n.text).take n.unit.toNat, c < 128) := by
  obtain ⟨hk, ho⟩ := isNode_ok h hlow
  refine ⟨ho, fun h26 => ?_⟩
  cases hk with
  | name h1 => rw [show (tOf n.cp).kind = n.kind from rfl] at h1; omega
  | func h1 => rw [show (tOf n.cp).kind = n.kind from rfl] at h1; omega
  | str h1 => rw [show (tOf n.cp).kind = n.kind from rfl] at h1; omega
  | num h1 => rw [show (tOf n.cp).kind = n.kind from rfl] at h1; omega
  | sign h1 => rw [show (tOf n.cp).kind = n.kind from rfl] at h1; unfold signLike at h1; omega
  | dim h1 hg h2 h3 hl =>
    have hu : (tOf n.cp).unit = n.unit.toNat := by show (if n.kind = 26 then n.unit else 0).toNat = _; rw [if_pos h26]
    have ht : (tOf n.cp).text = dec n.text := rfl
    rw [hu, ht] at hl
    rw [ht] at hg
    have := lone_ascii (fun c hc => good_ne hg c (List.mem_of_mem_take hc)) hl (.inl rfl)
    exact this
end Css
end Go.Proofs.YtkfdcbdlcipmfaaGreatFmt
namespace Go.Proofs.YtkfdcbdlcipmfaaGreatFmt
namespace Css
def setR (all : Bool) : List RN → List RN
  | [] => []
  | n :: r => { n with after := n.after || all || needs n.cp (r.map RN.cp) } :: setR all r
theorem setR_cp (all : Bool) (l : List RN) : (setR all l).map RN.cp = setL all (l.map RN.cp) := by
  induction l with
  | nil => rfl
  | cons n r ih => simp only [setR, setL, List.map_cons, ih]; rfl
theorem setR_len (all : Bool) (l : List RN) : (setR all l).length = l.length := by
  induction l with
  | nil => rfl
  | cons n r ih => simp [setR, ih]
structure GoodTree (ascii : Bool) (l : List RN) : Prop where
  tree : Tree 0 (l.map RN.cp)
  node : ∀ n ∈ l, isNodeB n = true
  low : ∀ n ∈ l, lowB n.text ascii = true
theorem isNodeB_after (n : RN) (a : Bool) : isNodeB { n with after := a } = isNodeB n := rfl
theorem tree_setL (all : Bool) (l : List N) : ∀ m, Tree m l → Tree m (setL all l) := by
  induction l with
  | nil => intro m h; exact h
  | cons n r ih => intro m h; exact ⟨h.1, h.2.1, ih _ h.2.2⟩
theorem setR_mem {all : Bool} {l : List RN} {x : RN} (h : x ∈ setR all l) : ∃ n ∈ l, ∃ a, x = { n with after := a } := by
  induction l with
  | nil => simp [setR] at h
  | cons n r ih =>
    simp only [setR, List.mem_cons] at h
    rcases h with rfl | h
    · exact ⟨n, by simp, _, rfl⟩
    · obtain ⟨m, hm, a, e⟩ := ih h
      exact ⟨m, by simp [hm], a, e⟩
theorem GoodTree.set {ascii : Bool} {l : List RN} (h : GoodTree ascii l) (all : Bool) : GoodTree ascii (setR all l) := by
  refine ⟨?_, ?_, ?_⟩
  · rw [setR_cp]; exact tree_setL all _ _ h.tree
  · intro x hx
    obtain ⟨n, hn, a, rfl⟩ := setR_mem hx
    rw [isNodeB_after]; exact h.node n hn
  · intro x hx
    obtain ⟨n, hn, a, rfl⟩ := setR_mem hx
    exact h.low n hn
theorem node_unit {n : RN} (h : isNodeB n = true) : 0 ≤ n.cp.unit := by
  obtain ⟨hk, _⟩ := isNode_ok (ascii := false) h rfl
  show 0 ≤ (if n.kind = 26 then n.unit else 0)
  split
  · rename_i h26
    unfold isNodeB at h
    have h1 : ¬ nameKind n.kind := by unfold nameKind; omega
    rw [if_neg h1, if_neg (by omega), if_neg (by omega), if_neg (by omega), if_pos h26] at h
    simp only [Bool.and_eq_true, decide_eq_true_eq] at h
    omega
  · omega
theorem GoodTree.unit {ascii : Bool} {l : List RN} (h : GoodTree ascii l) : UnitOk (l.map RN.cp) := by
  intro x hx
  obtain ⟨n, hn, rfl⟩ := List.mem_map.1 hx
  exact node_unit (h.node n hn)
theorem GoodTree.ok {ascii : Bool} {l : List RN} (h : GoodTree ascii l) : AllOK ascii (l.map RN.cp) := by
  intro x hx
  obtain ⟨n, hn, rfl⟩ := List.mem_map.1 hx
  exact (isNode_ok (h.node n hn) (h.low n hn)).1
theorem dec_low {c : Int} (h : 1 ≤ c ∧ c < 128) : dec [by8 c] = [c] := by
  have h1 := dec_enc (cs := [c]) (by intro d hd; simp at hd; subst hd; unfold Val0; omega)
  have h2 : enc [c] = [by8 c] := by simp [enc, enc1]; omega
  rw [h2] at h1; exact h1
def nameLikeK (k : Int) : Prop := k = 29 ∨ k = 27 ∨ k = 1 ∨ k = 28 ∨ k = 36
end Css
end Go.Proofs.YtkfdcbdlcipmfaaGreatFmt
namespace Go.Proofs.YtkfdcbdlcipmfaaGreatFmt
namespace Css
theorem escOut_len {E : Nat} {c : Int} {t : List Int} {may : Bool} (hv : Valid c) : (enc (escOut E c t may)).length ≤ 16 := by
  have hl : (hexs c).length ≤ 6 := hexsN_len 5 c.toNat (by unfold Valid at hv; omega)
  have he : (enc (hexs c)).length = (hexs c).length := enc_ascii_len fun d hd => by
    have := hexsN_hex c.toNat d hd; unfold isHex at this; omega
  have hw := wd_pos c
  unfold escOut
  split
  · rw [enc_length_cons]; simp [enc]; omega
  · split
    · rw [enc_length_cons, enc_length_cons]; have := wd_pos 92; simp [enc]; omega
    · rw [enc_length_cons, enc_append, List.length_append, he]
      have := wd_pos 92
      split
      · rw [enc_length_cons]; have := wd_pos 32; simp [enc]; omega
      · simp [enc]; omega
theorem identTail_len {asc may : Bool} {cs : List Int} (hv : ∀ c ∈ cs, Valid c) : (enc (identTail asc may cs)).length ≤ 16 * cs.length := by
  induction cs with
  | nil => simp [identTail, enc]
  | cons c t ih =>
    have h1 := ih fun d hd => hv d (by simp [hd])
    simp only [identTail, enc_append, List.length_append, List.length_cons]
    have := escOut_len (E := charEsc asc 0 c) (t := t) (may := may) (hv c (by simp))
    omega
theorem ident_len {asc may : Bool} {m : Nat} {cs : List Int} (hv : ∀ c ∈ cs, Valid c) : (enc (ident asc may m cs)).length ≤ 16 * cs.length := by
  unfold ident
  cases cs with
  | nil => simp [identOut, enc]
  | cons c t =>
    simp only [identOut, enc_append, List.length_append, List.length_cons]
    have h1 := identTail_len (asc := asc) (may := may) fun d hd => hv d (List.mem_cons_of_mem c hd)
    have := escOut_len (E := charEsc asc (initEsc m (c :: t)) c) (t := t) (may := may) (hv c (by simp))
    omega
theorem enc_len_le (cs : List Int) : (enc cs).length ≤ 4 * cs.length := by
  induction cs with
  | nil => simp [enc]
  | cons c t ih => rw [enc_length_cons, List.length_cons]; have := wd_pos c; omega
theorem len_le_enc (cs : List Int) : cs.length ≤ (enc cs).length := by
  induction cs with
  | nil => simp
  | cons c t ih => rw [enc_length_cons, List.length_cons]; have := wd_pos c; omega
def cost : List T → Nat
  | [] => 0
  | .mk k u x b a kids :: ts => 16 * x.length + 8192 + cost kids + cost ts
theorem cost_cons (t : T) (ts : List T) : cost (t :: ts) = 16 * t.text.length + 8192 + cost t.kids + cost ts := by
  obtain ⟨k, u, x, b, a, kids⟩ := t
  rw [cost]; rfl
def costN (l : List N) : Nat := (l.map fun n => 16 * n.text.length + 8192).sum
theorem parse_cost {d : Int} {l : List N} {ts : List T} {rest : List N} (h : Parse d l ts rest) : cost ts + costN rest ≤ costN l := by
  induction h with
  | nil => simp [cost, costN]
  | stop => simp [cost]
  | leaf d n r ts rest hd ho hp ih =>
    rw [cost_cons]
    simp only [T.text, T.kids, cost]
    unfold costN at ih ⊢
    simp only [List.map_cons, List.sum_cons]
    omega
  | node d n r kids r1 ts rest hd ho hp1 hp2 ih1 ih2 =>
    rw [cost_cons]
    simp only [T.text, T.kids]
    unfold costN at ih1 ih2 ⊢
    simp only [List.map_cons, List.sum_cons]
    omega
end Css
end Go.Proofs.YtkfdcbdlcipmfaaGreatFmt
namespace Go.Proofs.YtkfdcbdlcipmfaaGreatFmt
namespace Css
def treeGo : Int → List RN → Bool
  | _, [] => true
  | most, n :: l => !decide (n.depth < 0) && !decide (most < n.depth) && isNodeB n && treeGo (if opens n.kind then n.depth + 1 else n.depth) l
theorem treeGo_iff (l : List RN) : ∀ most, treeGo most l = true ↔ Tree most (l.map RN.cp) ∧ ∀ n ∈ l, isNodeB n = true := by
  induction l with
  | nil => intro most; simp [treeGo, Tree]
  | cons n l ih =>
    intro most
    simp only [treeGo, Bool.and_eq_true, Bool.not_eq_true', decide_eq_false_iff_not, ih, List.map_cons, Tree, List.mem_cons, forall_eq_or_imp]
    show _ ↔ (0 ≤ n.depth ∧ n.depth ≤ most ∧ Tree (if opens n.kind then n.depth + 1 else n.depth) (List.map RN.cp l)) ∧ _
    constructor
    · rintro ⟨⟨⟨h1, h2⟩, h3⟩, h4, h5⟩
      exact ⟨⟨by omega, by omega, h4⟩, h3, h5⟩
    · rintro ⟨⟨h1, h2, h3⟩, h4, h5⟩
      exact ⟨⟨⟨by omega, by omega⟩, h4⟩, h3, h5⟩
def sizeGo (ascii : Bool) : Nat → List RN → Bool
  | _, [] => true
  | s, n :: l => !decide (64 < n.depth) && !decide (1048576 < s + n.text.length) && lowB n.text ascii && sizeGo ascii (s + n.text.length) l
def texts (l : List RN) : Nat := (l.map fun n => n.text.length).sum
theorem sizeGo_iff (ascii : Bool) (l : List RN) : ∀ s, sizeGo ascii s l = true → (∀ n ∈ l, n.depth ≤ 64 ∧ lowB n.text ascii = true) ∧ (l ≠ [] → s + texts l ≤ 1048576) := by
  induction l with
  | nil => intro s _; exact ⟨fun n hn => by simp at hn, fun h => absurd rfl h⟩
  | cons n l ih =>
    intro s h
    simp only [sizeGo, Bool.and_eq_true, Bool.not_eq_true', decide_eq_false_iff_not] at h
    obtain ⟨⟨⟨h1, h2⟩, h3⟩, h4⟩ := h
    obtain ⟨i1, i2⟩ := ih _ h4
    refine ⟨fun m hm => ?_, fun _ => ?_⟩
    · rw [List.mem_cons] at hm
      rcases hm with rfl | hm
      · exact ⟨by omega, h3⟩
      · exact i1 m hm
    · cases l with
      | nil => simp [texts]; omega
      | cons m r => have := i2 (by simp); simp only [texts, List.map_cons, List.sum_cons] at this ⊢; omega
def treeOk (ascii : Bool) (l : List RN) : Bool := decide (l.length ≤ 1000) && (treeGo 0 l && sizeGo ascii 0 l)
structure InTree (ascii : Bool) (l : List RN) : Prop where
  good : GoodTree ascii l
  many : l.length ≤ 1000
  size : texts l ≤ 1048576
  deep : ∀ n ∈ l, n.depth ≤ 64
theorem treeOk_in {ascii : Bool} {l : List RN} (h : treeOk ascii l = true) : InTree ascii l := by
  simp only [treeOk, Bool.and_eq_true, decide_eq_true_eq] at h
  obtain ⟨h1, h2, h3⟩ := h
  obtain ⟨t1, t2⟩ := (treeGo_iff l 0).1 h2
  obtain ⟨s1, s2⟩ := sizeGo_iff ascii l 0 h3
  refine ⟨⟨t1, t2, fun n hn => (s1 n hn).2⟩, h1, ?_, fun n hn => (s1 n hn).1⟩
  cases l with
  | nil => decide
  | cons m r => have := s2 (by simp); omega
theorem texts_setR (all : Bool) (l : List RN) : texts (setR all l) = texts l := by
  induction l with
  | nil => rfl
  | cons n r ih => simp only [setR, texts, List.map_cons, List.sum_cons] at ih ⊢; rw [ih]
theorem InTree.set {ascii : Bool} {l : List RN} (h : InTree ascii l) (all : Bool) : InTree ascii (setR all l) := by
  refine ⟨h.good.set all, by rw [setR_len]; exact h.many, by rw [texts_setR]; exact h.size, fun x hx => ?_⟩
  obtain ⟨n, hn, a, rfl⟩ := setR_mem hx
  exact h.deep n hn
theorem dec_len_le (l : List UInt8) (h : okDec l = true) : (dec l).length ≤ l.length := by
  have := len_le_enc (dec l)
  rw [(okDec_val h).1] at this
  exact this
theorem in_cost {ascii : Bool} {l : List RN} (h : InTree ascii l) {d : Int} {ts : List T} {rest : List N} (hp : Parse d (l.map RN.cp) ts rest) : cost ts ≤ 134217728 := by
  have h1 := parse_cost hp
  have h2 : costN (l.map RN.cp) ≤ 16 * texts l + 8192 * l.length := by
    have hg := h.good.node
    clear h hp h1
    induction l with
    | nil => simp [costN, texts]
    | cons n r ih =>
      have := ih (fun m hm => hg m (by simp [hm]))
      have ho := (isNode_ok (ascii := false) (hg n (by simp)) rfl).2
      have hl := dec_len_le _ ho
      simp only [costN, texts, List.map_cons, List.sum_cons, List.length_cons] at this ⊢
      have e : n.cp.text.length = (dec n.text).length := rfl
      omega
  have := h.many
  have := h.size
  omega
end Css
end Go.Proofs.YtkfdcbdlcipmfaaGreatFmt
namespace Go.Proofs.YtkfdcbdlcipmfaaGreatFmt
namespace Css
def Sx (a b : List Int) : Prop := ∃ X, b = X ++ a
theorem Sx.refl (a : List Int) : Sx a a := ⟨[], rfl⟩
theorem Sx.trans {a b c : List Int} (h : Sx a b) (k : Sx b c) : Sx a c := by
  obtain ⟨X, rfl⟩ := h; obtain ⟨Y, rfl⟩ := k; exact ⟨Y ++ X, by simp⟩
theorem sx_tail (a : List Int) : Sx a.tail a := by cases a with | nil => exact .refl _ | cons x t => exact ⟨[x], rfl⟩
theorem Sx.t {a b : List Int} (h : Sx a b.tail) : Sx a b := h.trans (sx_tail b)
theorem Sx.len {a b : List Int} (h : Sx a b) : a.length ≤ b.length := by obtain ⟨X, rfl⟩ := h; simp
theorem hexRun_sx (n : Nat) : ∀ (v : Int) (ds : List Int), Sx (hexRun n v ds).2 ds := by
  induction n with
  | zero => intro v ds; exact .refl _
  | succ n ih =>
    intro v ds
    unfold hexRun
    split
    · exact (ih _ _).t
    · exact .refl _
theorem newline_sx (ds : List Int) : Sx (newline ds) ds := by
  unfold newline; split
  · exact (sx_tail _).t
  · exact sx_tail _
theorem escape_sx (ds : List Int) : Sx (escape ds).2.2 ds := by
  unfold escape
  repeat' split
  · exact sx_tail _
  · exact sx_tail _
  · exact (newline_sx _).trans (hexRun_sx _ _ _)
  · exact (sx_tail _).trans (hexRun_sx _ _ _)
  · exact hexRun_sx _ _ _
theorem name_sx (ds : List Int) : Sx (name ds).2.2 ds := by
  fun_induction name ds with
  | case1 ds h ih => exact ih.t
  | case2 ds h h2 ih => exact (ih.trans (escape_sx _)).t
  | case3 => exact .refl _
theorem spaces_sx (ds : List Int) : Sx (spaces ds) ds := by
  induction ds with
  | nil => exact .refl _
  | cons d t ih =>
    unfold spaces; split
    · exact Sx.t (b := d :: t) ih
    · exact .refl _
theorem badURL_sx (ds : List Int) : Sx (badURL ds).2 ds := by
  fun_induction badURL ds with
  | case1 ds h => exact sx_tail _
  | case2 ds h h2 => exact sx_tail _
  | case3 ds h h2 h3 ih => exact (ih.trans (escape_sx _)).t
  | case4 ds h h2 h3 ih => exact ih.t
theorem url_sx (ds : List Int) : Sx (url ds).2.2.2 ds := by
  fun_induction url ds with
  | case1 ds h => exact sx_tail _
  | case2 ds h h2 => exact .refl _
  | case3 ds h h2 h3 h4 => exact (badURL_sx _).trans (spaces_sx _)
  | case4 ds h h2 h3 h4 ih => exact ih.trans (spaces_sx _)
  | case5 ds h h2 h3 h4 => exact badURL_sx _
  | case6 ds h h2 h3 h4 h5 r ih => exact (ih.trans (escape_sx _)).t
  | case7 ds h h2 h3 h4 h5 r ih => exact ih.t
theorem quotedRun_sx (q : Int) (ds : List Int) : Sx (quotedRun q ds).2.2.2 ds := by
  fun_induction quotedRun q ds with
  | case1 ds h => exact sx_tail _
  | case2 ds h h2 => exact .refl _
  | case3 ds h h2 h3 => exact .refl _
  | case4 ds h h2 h3 h4 ih => exact ih.t
  | case5 ds h h2 h3 h4 h5 ih => exact (ih.trans (newline_sx _)).t
  | case6 ds h h2 h3 h4 h5 h6 r ih => exact (ih.trans (escape_sx _)).t
  | case7 ds h h2 h3 h4 h5 h6 r ih => exact ih.t
theorem digits_sx (ds : List Int) : Sx (digits ds) ds := by
  induction ds with
  | nil => exact .refl _
  | cons d t ih =>
    unfold digits; split
    · exact Sx.t (b := d :: t) ih
    · exact .refl _
theorem numEnd_sx (ds : List Int) : Sx (numEnd ds).2 ds := by
  unfold numEnd
  simp only []
  have hS : Sx (numSign ds) ds := by unfold numSign; split; exact sx_tail _; exact .refl _
  have hD : Sx (digits (numSign ds)) ds := (digits_sx _).trans hS
  have hP : Sx (numDot (digits (numSign ds))) ds := by
    unfold numDot; split
    · exact ((digits_sx _).t).trans hD
    · exact hD
  unfold numExp; split
  · exact ((digits_sx _).t.t).trans hP
  · exact hP
theorem numeric_sx (ds : List Int) : Sx (numeric ds).2.2 ds := by
  unfold numeric
  simp only []
  repeat' split
  · exact (name_sx _).trans (numEnd_sx ds)
  · exact (sx_tail _).trans (numEnd_sx ds)
  · exact numEnd_sx ds
theorem named_sx (ds : List Int) : Sx (named ds).2.2 ds := by
  unfold named
  simp only []
  repeat' split
  · exact name_sx ds
  · exact (((url_sx _).trans (spaces_sx _)).t).trans (name_sx ds)
  · exact (sx_tail _).trans (name_sx ds)
theorem next_sx (ds : List Int) : Sx (next ds).2.2 ds := by
  unfold next
  split
  · exact .refl _
  split
  · exact spaces_sx ds
  split
  · exact (quotedRun_sx _ _).t
  split
  · exact (name_sx _).t
  split
  · exact numeric_sx ds
  split
  · exact (sx_tail _).t.t
  split
  · exact named_sx ds
  split
  · exact (sx_tail _).t.t.t
  split
  · exact (name_sx _).t
  · exact sx_tail _
theorem comEnd_sx (ds : List Int) : Sx (comEnd ds).2 ds := by
  induction ds with
  | nil => unfold comEnd; split; exact (sx_tail _).t; exact .refl _
  | cons d t ih =>
    unfold comEnd; split
    · exact (sx_tail _).t
    · exact Sx.t (b := d :: t) ih
theorem comments_sx (ds : List Int) : Sx (comments ds).2.2 ds := by
  fun_induction comments ds with
  | case1 ds h h2 => exact (comEnd_sx _).t.t
  | case2 ds h h2 ih => exact (ih.trans (comEnd_sx _)).t.t
  | case3 => exact .refl _
theorem tokens_sx (ds : List Int) : ∀ x ∈ (tokens ds).1, Sx x.2.1 ds ∧ Sx x.2.2 x.2.1 := by
  fun_induction tokens ds with
  | case1 => intro x hx; simp at hx
  | case2 ds h D ih =>
    intro x hx
    have hD : Sx D ds := comments_sx ds
    rw [List.mem_cons] at hx
    rcases hx with rfl | hx
    · exact ⟨hD, next_sx _⟩
    · obtain ⟨h1, h2⟩ := ih x hx
      exact ⟨(h1.trans (next_sx _)).trans hD, h2⟩
end Css
end Go.Proofs.YtkfdcbdlcipmfaaGreatFmt
namespace Go.Proofs.YtkfdcbdlcipmfaaGreatFmt
namespace Css
theorem part_sx {a b : List Int} (h : Sx b a) : a = part a b ++ b := by
  obtain ⟨X, rfl⟩ := h
  rw [part_append]
theorem raw_bytes {s : ByteArray} {ds a b : List Int} (hs : s.data.toList = enc ds) (ha : Sx a ds) (hb : Sx b a) :
    (s.extract (s.size - bw a) (s.size - bw b)).data.toList = enc (part a b) ∧ s.size - bw a ≤ s.size - bw b := by
  obtain ⟨X, rfl⟩ := ha
  have e := part_sx hb
  generalize part a b = p at e ⊢
  subst e
  have hsz : s.size = (enc X).length + ((enc p).length + (enc b).length) := by
    have e : s.data.toList.length = s.size := rfl
    rw [← e, hs, enc_append, enc_append, List.length_append, List.length_append]
  have hb1 : bw (p ++ b) = (enc p).length + (enc b).length := by rw [bw_enc, enc_append, List.length_append]
  have hb2 : bw b = (enc b).length := bw_enc b
  rw [hb1, hb2, hsz]
  refine ⟨?_, by omega⟩
  have h1 : (enc X).length + ((enc p).length + (enc b).length) - ((enc p).length + (enc b).length) = (enc X).length := by omega
  have h2 : (enc X).length + ((enc p).length + (enc b).length) - (enc b).length = (enc X).length + (enc p).length := by omega
  rw [h1, h2]
  have h3 : (s.extract (enc X).length ((enc X).length + (enc p).length)).data.toList = (s.data.toList.take ((enc X).length + (enc p).length)).drop (enc X).length := by
    rw [ByteArray.data_extract, Array.toList_extract]
    simp only [List.extract_eq_take_drop]
    rw [List.drop_take]
  rw [h3, hs, enc_append, enc_append, ← List.append_assoc, List.take_append_of_le_length (by simp), ← List.length_append, List.take_length, List.drop_left]
def rdP : List (Tk × List Int × List Int) → Bool → List ((Tk × List Int × List Int) × Bool)
  | [], _ => []
  | x :: l, sp => if x.1.kind = 38 then rdP l true else (x, sp) :: rdP l false
theorem rdP_map (l : List (Tk × List Int × List Int)) : ∀ sp, (rdP l sp).map (fun y => (y.1.1, part y.1.2.1 y.1.2.2, y.2)) = rd l sp := by
  induction l with
  | nil => intro sp; rfl
  | cons x l ih =>
    intro sp
    simp only [rdP, rd]
    split
    · exact ih true
    · rw [List.map_cons, ih]
theorem rdP_mem (l : List (Tk × List Int × List Int)) : ∀ sp, ∀ y ∈ rdP l sp, y.1 ∈ l := by
  induction l with
  | nil => intro sp y hy; cases hy
  | cons x l ih =>
    intro sp y hy
    simp only [rdP] at hy
    split at hy
    · exact List.mem_cons_of_mem _ (ih true y hy)
    · rw [List.mem_cons] at hy
      rcases hy with rfl | hy
      · exact List.mem_cons_self
      · exact List.mem_cons_of_mem _ (ih false y hy)
theorem rdP_len (l : List (Tk × List Int × List Int)) : ∀ sp, (rdP l sp).length ≤ l.length := by
  induction l with
  | nil => intro sp; simp [rdP]
  | cons x l ih =>
    intro sp
    simp only [rdP]
    split
    · have := ih true; simp; omega
    · have := ih false; simp; omega
theorem enc_take {cs : List Int} {u : Nat} (hu : u ≤ cs.length) (h : ∀ c ∈ cs.take u, c < 128) : (enc cs).take u = enc (cs.take u) ∧ (enc cs).drop u = enc (cs.drop u) ∧ u ≤ (enc cs).length := by
  have e : enc cs = enc (cs.take u) ++ enc (cs.drop u) := by rw [← enc_append, List.take_append_drop]
  have hl : (enc (cs.take u)).length = u := by rw [enc_ascii_len h, List.length_take]; omega
  rw [e]
  refine ⟨?_, ?_, ?_⟩
  · rw [List.take_append_of_le_length (by omega), List.take_of_length_le (by omega)]
  · rw [List.drop_append_of_le_length (by omega), List.drop_of_length_le (by omega), List.nil_append]
  · rw [List.length_append]; omega
end Css
end Go.Proofs.YtkfdcbdlcipmfaaGreatFmt
