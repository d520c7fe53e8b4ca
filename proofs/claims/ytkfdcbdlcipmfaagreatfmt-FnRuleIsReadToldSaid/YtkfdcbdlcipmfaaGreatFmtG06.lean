/- PLAIN: trees of the statements over bytes; what is printed of them is read as it should be. No program in sight. -/
import Derived.Test.YtkfdcbdlcipmfaaGreatFmtG05
import Derived.Test.YtkfdcbdlcipmfaaGreatFmtG00
import Derived.Deep.Light
set_option linter.unusedVariables false
set_option linter.unusedSimpArgs false
namespace Go.Proofs.YtkfdcbdlcipmfaaGreatFmt
namespace Css

def setR (all : Bool) : List RN → List RN
  | [] => []
  | n :: r => { n with after := n.after || all || needs n.cp (r.map RN.cp) } :: setR all r
theorem setR_cp (all : Bool) (l : List RN) : (setR all l).map RN.cp = setL all (l.map RN.cp) := by
  induction l with
  | nil => rfl
  | cons n r ih => simp only [setR, setL, List.map_cons, ih]; rfl
theorem setR_len (all : Bool) (l : List RN) : (setR all l).length = l.length := by
  induction l with
  | nil => rfl
  | cons n r ih => simp [setR, ih]
/-- A tree that the statements let in. -/
structure GoodTree (ascii : Bool) (l : List RN) : Prop where
  tree : Tree 0 (l.map RN.cp)
  node : ∀ n ∈ l, isNodeB n = true
  low : ∀ n ∈ l, lowB n.text ascii = true
theorem isNodeB_after (n : RN) (a : Bool) : isNodeB { n with after := a } = isNodeB n := rfl
theorem tree_setL (all : Bool) (l : List N) : ∀ m, Tree m l → Tree m (setL all l) := by
  induction l with
  | nil => intro m h; exact h
  | cons n r ih => intro m h; exact ⟨h.1, h.2.1, ih _ h.2.2⟩
theorem setR_mem {all : Bool} {l : List RN} {x : RN} (h : x ∈ setR all l) : ∃ n ∈ l, ∃ a, x = { n with after := a } := by
  induction l with
  | nil => simp [setR] at h
  | cons n r ih =>
    simp only [setR, List.mem_cons] at h
    rcases h with rfl | h
    · exact ⟨n, by simp, _, rfl⟩
    · obtain ⟨m, hm, a, e⟩ := ih h
      exact ⟨m, by simp [hm], a, e⟩
theorem GoodTree.set {ascii : Bool} {l : List RN} (h : GoodTree ascii l) (all : Bool) : GoodTree ascii (setR all l) := by
  refine ⟨?_, ?_, ?_⟩
  · rw [setR_cp]; exact tree_setL all _ _ h.tree
  · intro x hx
    obtain ⟨n, hn, a, rfl⟩ := setR_mem hx
    rw [isNodeB_after]; exact h.node n hn
  · intro x hx
    obtain ⟨n, hn, a, rfl⟩ := setR_mem hx
    exact h.low n hn
theorem node_unit {n : RN} (h : isNodeB n = true) : 0 ≤ n.cp.unit := by
  obtain ⟨hk, _⟩ := isNode_ok (ascii := false) h rfl
  show 0 ≤ (if n.kind = 26 then n.unit else 0)
  split
  · rename_i h26
    unfold isNodeB at h
    have h1 : ¬ nameKind n.kind := by unfold nameKind; omega
    rw [if_neg h1, if_neg (by omega), if_neg (by omega), if_neg (by omega), if_pos h26] at h
    simp only [Bool.and_eq_true, decide_eq_true_eq] at h
    omega
  · omega
theorem GoodTree.unit {ascii : Bool} {l : List RN} (h : GoodTree ascii l) : UnitOk (l.map RN.cp) := by
  intro x hx
  obtain ⟨n, hn, rfl⟩ := List.mem_map.1 hx
  exact node_unit (h.node n hn)
theorem GoodTree.ok {ascii : Bool} {l : List RN} (h : GoodTree ascii l) : AllOK ascii (l.map RN.cp) := by
  intro x hx
  obtain ⟨n, hn, rfl⟩ := List.mem_map.1 hx
  exact (isNode_ok (h.node n hn) (h.low n hn)).1
theorem parse_items {l : List N} {ts : List T} (hp : Parse 0 l ts []) (ht : Tree 0 l) (hu : UnitOk l) : items l = itemsF ts true false := by
  obtain ⟨la, fr, he, _⟩ := itemsGo_parse hp (Int.le_refl _) hu [] (fun _ => false) (fun i => decide (i = 0)) ht rfl
  unfold items
  rw [he]
  simp [itemsGo]
theorem set_okl {ascii all : Bool} {l : List RN} (h : GoodTree ascii l) {ts : List T} (hp : Parse 0 ((setR all l).map RN.cp) ts []) : OKl ascii ts := by
  have hs := h.set all
  exact okl_parse hp hs.tree (by rw [setR_cp]; exact gaps_set all _) hs.ok
theorem dec_low {c : Int} (h : 1 ≤ c ∧ c < 128) : dec [by8 c] = [c] := by
  have h1 := dec_enc (cs := [c]) (by intro d hd; simp at hd; subst hd; unfold Val0; omega)
  have h2 : enc [c] = [by8 c] := by simp [enc, enc1]; omega
  rw [h2] at h1; exact h1

def signR (k : Int) (c : UInt8) : RIt := ⟨k, 0, [c], -1⟩
theorem signR_cp {k : Int} {c : UInt8} {d : Int} (hk : k ≠ 26) (h : dec [c] = [d]) : (signR k c).cp = ⟨k, 0, [d], -1⟩ := by
  unfold signR RIt.cp
  simp only [It.mk.injEq, true_and, and_true]
  exact ⟨if_neg hk, h⟩
theorem signR_ok {k : Int} {c : UInt8} {d : Int} (hk : k ≠ 26) (h : dec [c] = [d]) (hd : okC d = true) : ItOk (signR k c) := ⟨by show okDec [c] = true; unfold okDec; rw [h]; simp [hd], fun h26 => absurd h26 hk⟩
def nameR (k : Int) (nm : List UInt8) : RIt := ⟨k, 0, nm, -1⟩
theorem nameR_cp {k : Int} {nm : List UInt8} (hk : k ≠ 26) : (nameR k nm).cp = ⟨k, 0, dec nm, -1⟩ := by
  unfold nameR RIt.cp
  simp only [It.mk.injEq, true_and, and_true]
  exact if_neg hk
theorem nameR_ok {k : Int} {nm : List UInt8} (hk : k ≠ 26) (h : okDec nm = true) : ItOk (nameR k nm) := ⟨h, fun h26 => absurd h26 hk⟩
theorem d59 : dec [59] = [59] := dec_low (c := 59) (by omega)
theorem d58 : dec [58] = [58] := dec_low (c := 58) (by omega)
theorem d123 : dec [123] = [123] := dec_low (c := 123) (by omega)
theorem d33 : dec [33] = [33] := dec_low (c := 33) (by omega)

/-! ### At-rules -/
def atR (nm : List UInt8) (l : List RN) : List RIt := nameR 1 nm :: (itemsR l ++ [signR 35 59])
theorem atR_cp (nm : List UInt8) (l : List RN) : (atR nm l).map RIt.cp = atIts (dec nm) (items (l.map RN.cp)) := by
  unfold atR atIts
  rw [List.map_cons, List.map_append, itemsR_cp, nameR_cp (by decide), List.map_cons, List.map_nil, signR_cp (by decide) d59]
theorem atR_ok {ascii : Bool} {nm : List UInt8} {l : List RN} (h : GoodTree ascii l) (hn : okDec nm = true) : ∀ x ∈ atR nm l, ItOk x := by
  intro x hx
  simp only [atR, List.mem_cons, List.mem_append, List.not_mem_nil, or_false] at hx
  rcases hx with rfl | hx | rfl
  · exact nameR_ok (by decide) hn
  · exact itemsR_ok h.node h.low x hx
  · exact signR_ok (by decide) d59 (by decide)
theorem dec_nil_iff {l : List UInt8} (h : isNameB l = true) : dec l ≠ [] ∧ okDec l = true := by
  unfold isNameB at h
  simp only [Bool.and_eq_true, Bool.not_eq_true', List.isEmpty_eq_false_iff] at h
  refine ⟨fun h0 => ?_, h.2⟩
  have := (okDec_val h.2).1
  rw [h0] at this
  exact h.1 this.symm
theorem at_final {ascii mini all : Bool} {l : List RN} (h : GoodTree ascii l) {nm : List UInt8} (hn : isNameB nm = true) (hl : lowB nm ascii = true) {ts : List T} {cl : List Ch}
    (hp : Parse 0 ((setR all l).map RN.cp) ts []) (hpr : Prints ascii ts (headBefore ts) cl) :
    ReadAs true (flat (atCh ascii mini (dec nm) ts cl)) ((atR nm (setR all l)).map RIt.cp) ∧ PlainTxt ascii (flat (atCh ascii mini (dec nm) ts cl)) ∧ ∀ x ∈ atR nm (setR all l), ItOk x := by
  have hok := set_okl h hp
  have hs := h.set all
  obtain ⟨h1, h2⟩ := dec_nil_iff hn
  have hg := low_good h2 hl
  refine ⟨?_, at_plain hg hpr hok, atR_ok hs h2⟩
  rw [atR_cp, parse_items hp hs.tree hs.unit]
  exact chain_readAs true (at_chain h1 hg hpr hok) rfl (at_fits hpr hok)

/-! ### Declarations -/
def declR (key : List UInt8) (l : List RN) (imp semi : Bool) (rest : List RIt) : List RIt :=
  nameR 29 key :: signR 9 58 :: (itemsR l ++ ((if imp then [signR 19 33, nameR 29 [105, 109, 112, 111, 114, 116, 97, 110, 116]] else []) ++ ((if semi then [signR 35 59] else []) ++ rest)))
theorem dec_important : dec [105, 109, 112, 111, 114, 116, 97, 110, 116] = important := by
  have h1 := dec_enc (cs := important) (by intro d hd; simp [important] at hd; unfold Val0; omega)
  have h2 : enc important = [105, 109, 112, 111, 114, 116, 97, 110, 116] := by decide
  rw [h2] at h1; exact h1
theorem declR_cp (key : List UInt8) (l : List RN) (imp semi : Bool) (rest : List RIt) : (declR key l imp semi rest).map RIt.cp = declIts (dec key) (items (l.map RN.cp)) imp semi (rest.map RIt.cp) := by
  unfold declR declIts
  rw [List.map_cons, List.map_cons, List.map_append, List.map_append, List.map_append, itemsR_cp, nameR_cp (by decide), signR_cp (by decide) d58]
  congr 3
  congr 1
  · cases imp
    · rfl
    · simp only [if_true, List.map_cons, List.map_nil, signR_cp (k := 19) (by decide) d33, nameR_cp (k := 29) (by decide), dec_important]
  · congr 1
    cases semi
    · rfl
    · simp only [if_true, List.map_cons, List.map_nil, signR_cp (k := 35) (by decide) d59]
theorem declR_ok {ascii : Bool} {key : List UInt8} {l : List RN} {imp semi : Bool} {rest : List RIt} (h : GoodTree ascii l) (hn : okDec key = true) (hr : ∀ x ∈ rest, ItOk x) : ∀ x ∈ declR key l imp semi rest, ItOk x := by
  intro x hx
  simp only [declR, List.mem_cons, List.mem_append] at hx
  rcases hx with rfl | rfl | hx | hx | hx | hx
  · exact nameR_ok (by decide) hn
  · exact signR_ok (by decide) d58 (by decide)
  · exact itemsR_ok h.node h.low x hx
  · cases imp
    · simp at hx
    · simp only [if_true, List.mem_cons, List.not_mem_nil, or_false] at hx
      rcases hx with rfl | rfl
      · exact signR_ok (by decide) d33 (by decide)
      · exact nameR_ok (by decide) (by unfold okDec; rw [dec_important]; decide)
  · cases semi
    · simp at hx
    · simp only [if_true, List.mem_cons, List.not_mem_nil, or_false] at hx
      subst hx
      exact signR_ok (by decide) d59 (by decide)
  · exact hr x hx
theorem decl_final {ascii all : Bool} {l : List RN} (h : GoodTree ascii l) {key : List UInt8} (hn : isNameB key = true) (hl : lowB key ascii = true) {ts : List T} {cl : List Ch}
    (hp : Parse 0 ((setR all l).map RN.cp) ts []) (hpr : Prints ascii ts (headBefore ts) cl) (mini : Bool) :
    ReadAs true (flat (declCh ascii (dec key) cl false false true (wsIf (!mini) [10]))) ((declR key (setR all l) false true []).map RIt.cp) ∧ PlainTxt ascii (flat (declCh ascii (dec key) cl false false true (wsIf (!mini) [10]))) ∧ ∀ x ∈ declR key (setR all l) false true [], ItOk x := by
  have hok := set_okl h hp
  have hs := h.set all
  obtain ⟨h1, h2⟩ := dec_nil_iff hn
  have hg := low_good h2 hl
  refine ⟨?_, ⟨decl_plain _ _ _ hg hpr hok (wsIf_pv _ blank10), decl_no_bom _ _ _ h1⟩, declR_ok hs h2 (by simp)⟩
  rw [declR_cp, parse_items hp hs.tree hs.unit]
  refine chain_readAs true (decl_chain false false true h1 hg hpr hok (fun _ => rfl) (fun h => by cases h) (fun h => by cases h) ?_) rfl (decl_fits false false true hpr hok (fun s => ?_) _)
  · have := chain_wsIf (b := !mini) blank10 (Chain.nil [])
    simpa using this
  · have : exp (wsIf (!mini) [10]) s = [] := by unfold wsIf; cases mini <;> simp [exp]
    rw [this]; exact .nil
theorem all_after {l : List N} : ∀ {d : Int} {ts : List T} {rest : List N}, Parse d (setL true l) ts rest → ∀ has, ts = [] ∨ endHas ts has = true := by
  intro d ts rest hp
  generalize hL : setL true l = L at hp
  have hall : ∀ n ∈ L, n.after = true := by
    subst hL
    intro n hn
    have : ∀ (l : List N), ∀ n ∈ setL true l, n.after = true := by
      intro l
      induction l with
      | nil => simp [setL]
      | cons a r ih =>
        intro n hn
        simp only [setL, List.mem_cons] at hn
        rcases hn with rfl | hn
        · simp [setAfter]
        · exact ih n hn
    exact this l n hn
  clear hL
  have hmem : ∀ {d : Int} {l : List N} {ts : List T} {rest : List N}, Parse d l ts rest → ∀ x ∈ rest, x ∈ l := by
    intro d l ts rest h
    induction h with
    | nil => exact fun x h => h
    | stop => exact fun x h => h
    | leaf _ _ _ _ _ _ _ _ ih => exact fun x h => List.mem_cons_of_mem _ (ih x h)
    | node _ _ _ _ _ _ _ _ _ _ _ ih1 ih2 => exact fun x h => List.mem_cons_of_mem _ (ih1 x (ih2 x h))
  induction hp with
  | nil => exact fun _ => .inl rfl
  | stop => exact fun _ => .inl rfl
  | leaf d n r ts rest hd ho hp ih =>
    intro has
    right
    have ha := hall n (by simp)
    rcases ts with _ | ⟨t, ts⟩
    · exact ha
    · have := ih (fun x hx => hall x (by simp [hx])) has
      rcases this with h | h
      · cases h
      · exact h
  | node d n r kids r1 ts rest hd ho hp1 hp2 ih1 ih2 =>
    intro has
    right
    have ha := hall n (by simp)
    rcases ts with _ | ⟨t, ts⟩
    · exact ha
    · have := ih2 (fun x hx => hall x (by simp [hmem hp1 x hx])) has
      rcases this with h | h
      · cases h
      · exact h
theorem imp_final {ascii : Bool} {l : List RN} (h : GoodTree ascii l) {key : List UInt8} (hn : isNameB key = true) (hl : lowB key ascii = true) {ts : List T} {cl : List Ch}
    (hp : Parse 0 ((setR true l).map RN.cp) ts []) (hpr : Prints ascii ts (headBefore ts) cl) (mini sp : Bool) :
    ReadAs true (flat (declCh ascii (dec key) cl sp true true (wsIf (!mini) [10]))) ((declR key (setR true l) true true []).map RIt.cp) ∧ PlainTxt ascii (flat (declCh ascii (dec key) cl sp true true (wsIf (!mini) [10]))) ∧ ∀ x ∈ declR key (setR true l) true true [], ItOk x := by
  have hok := set_okl h hp
  have hs := h.set true
  obtain ⟨h1, h2⟩ := dec_nil_iff hn
  have hg := low_good h2 hl
  refine ⟨?_, ⟨decl_plain _ _ _ hg hpr hok (wsIf_pv _ blank10), decl_no_bom _ _ _ h1⟩, declR_ok hs h2 (by simp)⟩
  rw [declR_cp, parse_items hp hs.tree hs.unit]
  have hend := all_after (by rw [setR_cp] at hp; exact hp) (headBefore ts)
  refine chain_readAs true (decl_chain sp true true h1 hg hpr hok (fun h => by cases h) (fun _ => ⟨rfl, hend⟩) (fun h => by cases h) ?_) rfl (decl_fits sp true true hpr hok (fun s => ?_) _)
  · have := chain_wsIf (b := !mini) blank10 (Chain.nil [])
    simpa using this
  · have : exp (wsIf (!mini) [10]) s = [] := by unfold wsIf; cases mini <;> simp [exp]
    rw [this]; exact .nil

/-! ### Rules -/
def ruleR (l : List RN) (key : List UInt8) (v : List RN) (mini : Bool) : List RIt := itemsR l ++ (signR 31 123 :: declR key v false (!mini) [closeR 6])
theorem ruleR_cp (l : List RN) (key : List UInt8) (v : List RN) (mini : Bool) : (ruleR l key v mini).map RIt.cp = ruleIts (items (l.map RN.cp)) (dec key) (items (v.map RN.cp)) mini := by
  unfold ruleR ruleIts
  rw [List.map_append, List.map_cons, itemsR_cp, declR_cp, signR_cp (by decide) d123, List.map_cons, closeR_cp (.inr (.inr rfl))]
  rfl
theorem rule_final {ascii : Bool} {l v : List RN} (h : GoodTree ascii l) (hv : GoodTree ascii v) {key : List UInt8} (hn : isNameB key = true) (hl : lowB key ascii = true) {ts vs : List T} {cl vl : List Ch}
    (hp : Parse 0 ((setR true l).map RN.cp) ts []) (hpr : Prints ascii ts (headBefore ts) cl) (hpv : Parse 0 ((setR true v).map RN.cp) vs []) (hprv : Prints ascii vs (headBefore vs) vl) (mini has : Bool) :
    ReadAs true (flat (ruleCh ascii mini cl has (dec key) vl)) ((ruleR (setR true l) key (setR true v) mini).map RIt.cp) ∧ PlainTxt ascii (flat (ruleCh ascii mini cl has (dec key) vl)) ∧ ∀ x ∈ ruleR (setR true l) key (setR true v) mini, ItOk x := by
  have hok := set_okl h hp
  have hs := h.set true
  have hvok := set_okl hv hpv
  have hvs := hv.set true
  obtain ⟨h1, h2⟩ := dec_nil_iff hn
  have hg := low_good h2 hl
  refine ⟨?_, rule_plain hg hpr hok hprv hvok has, ?_⟩
  · rw [ruleR_cp, parse_items hp hs.tree hs.unit, parse_items hpv hvs.tree hvs.unit]
    exact chain_readAs true (rule_chain h1 hg hpr hok (all_after (by rw [setR_cp] at hp; exact hp) _) hprv hvok has) rfl (rule_fits hpr hok hprv hvok has)
  · intro x hx
    simp only [ruleR, List.mem_append, List.mem_cons] at hx
    rcases hx with hx | rfl | hx
    · exact itemsR_ok hs.node hs.low x hx
    · exact signR_ok (by decide) d123 (by decide)
    · exact declR_ok hvs h2 (by intro x hx; simp at hx; subst hx; exact closeR_ok 6 (.inr (.inr rfl))) x hx
def nameLikeK (k : Int) : Prop := k = 29 ∨ k = 27 ∨ k = 1 ∨ k = 28 ∨ k = 36
end Css
end Go.Proofs.YtkfdcbdlcipmfaaGreatFmt
/- PLAIN: how much is printed of a tree. No program in sight. -/
namespace Go.Proofs.YtkfdcbdlcipmfaaGreatFmt
namespace Css
theorem escOut_len {E : Nat} {c : Int} {t : List Int} {may : Bool} (hv : Valid c) : (enc (escOut E c t may)).length ≤ 16 := by
  have hl : (hexs c).length ≤ 6 := hexsN_len 5 c.toNat (by unfold Valid at hv; omega)
  have he : (enc (hexs c)).length = (hexs c).length := enc_ascii_len fun d hd => by
    have := hexsN_hex c.toNat d hd; unfold isHex at this; omega
  have hw := wd_pos c
  unfold escOut
  split
  · rw [enc_length_cons]; simp [enc]; omega
  · split
    · rw [enc_length_cons, enc_length_cons]; have := wd_pos 92; simp [enc]; omega
    · rw [enc_length_cons, enc_append, List.length_append, he]
      have := wd_pos 92
      split
      · rw [enc_length_cons]; have := wd_pos 32; simp [enc]; omega
      · simp [enc]; omega
theorem identTail_len {asc may : Bool} {cs : List Int} (hv : ∀ c ∈ cs, Valid c) : (enc (identTail asc may cs)).length ≤ 16 * cs.length := by
  induction cs with
  | nil => simp [identTail, enc]
  | cons c t ih =>
    have h1 := ih fun d hd => hv d (by simp [hd])
    simp only [identTail, enc_append, List.length_append, List.length_cons]
    have := escOut_len (E := charEsc asc 0 c) (t := t) (may := may) (hv c (by simp))
    omega
theorem ident_len {asc may : Bool} {m : Nat} {cs : List Int} (hv : ∀ c ∈ cs, Valid c) : (enc (ident asc may m cs)).length ≤ 16 * cs.length := by
  unfold ident
  cases cs with
  | nil => simp [identOut, enc]
  | cons c t =>
    simp only [identOut, enc_append, List.length_append, List.length_cons]
    have h1 := identTail_len (asc := asc) (may := may) fun d hd => hv d (List.mem_cons_of_mem c hd)
    have := escOut_len (E := charEsc asc (initEsc m (c :: t)) c) (t := t) (may := may) (hv c (by simp))
    omega
theorem enc_len_le (cs : List Int) : (enc cs).length ≤ 4 * cs.length := by
  induction cs with
  | nil => simp [enc]
  | cons c t ih => rw [enc_length_cons, List.length_cons]; have := wd_pos c; omega
theorem len_le_enc (cs : List Int) : cs.length ≤ (enc cs).length := by
  induction cs with
  | nil => simp
  | cons c t ih => rw [enc_length_cons, List.length_cons]; have := wd_pos c; omega
/-- A bound of what is printed of trees. -/
def cost : List T → Nat
  | [] => 0
  | .mk k u x b a kids :: ts => 16 * x.length + 8192 + cost kids + cost ts
theorem cost_cons (t : T) (ts : List T) : cost (t :: ts) = 16 * t.text.length + 8192 + cost t.kids + cost ts := by
  obtain ⟨k, u, x, b, a, kids⟩ := t
  rw [cost]; rfl
def costN (l : List N) : Nat := (l.map fun n => 16 * n.text.length + 8192).sum
theorem parse_cost {d : Int} {l : List N} {ts : List T} {rest : List N} (h : Parse d l ts rest) : cost ts + costN rest ≤ costN l := by
  induction h with
  | nil => simp [cost, costN]
  | stop => simp [cost]
  | leaf d n r ts rest hd ho hp ih =>
    rw [cost_cons]
    simp only [T.text, T.kids, cost]
    unfold costN at ih ⊢
    simp only [List.map_cons, List.sum_cons]
    omega
  | node d n r kids r1 ts rest hd ho hp1 hp2 ih1 ih2 =>
    rw [cost_cons]
    simp only [T.text, T.kids]
    unfold costN at ih1 ih2 ⊢
    simp only [List.map_cons, List.sum_cons]
    omega
end Css
end Go.Proofs.YtkfdcbdlcipmfaaGreatFmt
/- PLAIN: the guards of the statements' trees, as they are reckoned. No program in sight. -/
namespace Go.Proofs.YtkfdcbdlcipmfaaGreatFmt
namespace Css
def treeGo : Int → List RN → Bool
  | _, [] => true
  | most, n :: l => !decide (n.depth < 0) && !decide (most < n.depth) && isNodeB n && treeGo (if opens n.kind then n.depth + 1 else n.depth) l
theorem treeGo_iff (l : List RN) : ∀ most, treeGo most l = true ↔ Tree most (l.map RN.cp) ∧ ∀ n ∈ l, isNodeB n = true := by
  induction l with
  | nil => intro most; simp [treeGo, Tree]
  | cons n l ih =>
    intro most
    simp only [treeGo, Bool.and_eq_true, Bool.not_eq_true', decide_eq_false_iff_not, ih, List.map_cons, Tree, List.mem_cons, forall_eq_or_imp]
    show _ ↔ (0 ≤ n.depth ∧ n.depth ≤ most ∧ Tree (if opens n.kind then n.depth + 1 else n.depth) (List.map RN.cp l)) ∧ _
    constructor
    · rintro ⟨⟨⟨h1, h2⟩, h3⟩, h4, h5⟩
      exact ⟨⟨by omega, by omega, h4⟩, h3, h5⟩
    · rintro ⟨⟨h1, h2, h3⟩, h4, h5⟩
      exact ⟨⟨⟨by omega, by omega⟩, h4⟩, h3, h5⟩
def sizeGo (ascii : Bool) : Nat → List RN → Bool
  | _, [] => true
  | s, n :: l => !decide (64 < n.depth) && !decide (1048576 < s + n.text.length) && lowB n.text ascii && sizeGo ascii (s + n.text.length) l
def texts (l : List RN) : Nat := (l.map fun n => n.text.length).sum
theorem sizeGo_iff (ascii : Bool) (l : List RN) : ∀ s, sizeGo ascii s l = true → (∀ n ∈ l, n.depth ≤ 64 ∧ lowB n.text ascii = true) ∧ (l ≠ [] → s + texts l ≤ 1048576) := by
  induction l with
  | nil => intro s _; exact ⟨fun n hn => by simp at hn, fun h => absurd rfl h⟩
  | cons n l ih =>
    intro s h
    simp only [sizeGo, Bool.and_eq_true, Bool.not_eq_true', decide_eq_false_iff_not] at h
    obtain ⟨⟨⟨h1, h2⟩, h3⟩, h4⟩ := h
    obtain ⟨i1, i2⟩ := ih _ h4
    refine ⟨fun m hm => ?_, fun _ => ?_⟩
    · rw [List.mem_cons] at hm
      rcases hm with rfl | hm
      · exact ⟨by omega, h3⟩
      · exact i1 m hm
    · cases l with
      | nil => simp [texts]; omega
      | cons m r => have := i2 (by simp); simp only [texts, List.map_cons, List.sum_cons] at this ⊢; omega
def treeOk (ascii : Bool) (l : List RN) : Bool := decide (l.length ≤ 1000) && (treeGo 0 l && sizeGo ascii 0 l)
structure InTree (ascii : Bool) (l : List RN) : Prop where
  good : GoodTree ascii l
  many : l.length ≤ 1000
  size : texts l ≤ 1048576
  deep : ∀ n ∈ l, n.depth ≤ 64
theorem treeOk_in {ascii : Bool} {l : List RN} (h : treeOk ascii l = true) : InTree ascii l := by
  simp only [treeOk, Bool.and_eq_true, decide_eq_true_eq] at h
  obtain ⟨h1, h2, h3⟩ := h
  obtain ⟨t1, t2⟩ := (treeGo_iff l 0).1 h2
  obtain ⟨s1, s2⟩ := sizeGo_iff ascii l 0 h3
  refine ⟨⟨t1, t2, fun n hn => (s1 n hn).2⟩, h1, ?_, fun n hn => (s1 n hn).1⟩
  cases l with
  | nil => decide
  | cons m r => have := s2 (by simp); omega
theorem texts_setR (all : Bool) (l : List RN) : texts (setR all l) = texts l := by
  induction l with
  | nil => rfl
  | cons n r ih => simp only [setR, texts, List.map_cons, List.sum_cons] at ih ⊢; rw [ih]
theorem InTree.set {ascii : Bool} {l : List RN} (h : InTree ascii l) (all : Bool) : InTree ascii (setR all l) := by
  refine ⟨h.good.set all, by rw [setR_len]; exact h.many, by rw [texts_setR]; exact h.size, fun x hx => ?_⟩
  obtain ⟨n, hn, a, rfl⟩ := setR_mem hx
  exact h.deep n hn
theorem dec_len_le (l : List UInt8) (h : okDec l = true) : (dec l).length ≤ l.length := by
  have := len_le_enc (dec l)
  rw [(okDec_val h).1] at this
  exact this
/-- How much is printed of a tree of the statements. -/
theorem in_cost {ascii : Bool} {l : List RN} (h : InTree ascii l) {d : Int} {ts : List T} {rest : List N} (hp : Parse d (l.map RN.cp) ts rest) : cost ts ≤ 134217728 := by
  have h1 := parse_cost hp
  have h2 : costN (l.map RN.cp) ≤ 16 * texts l + 8192 * l.length := by
    have hg := h.good.node
    clear h hp h1
    induction l with
    | nil => simp [costN, texts]
    | cons n r ih =>
      have := ih (fun m hm => hg m (by simp [hm]))
      have ho := (isNode_ok (ascii := false) (hg n (by simp)) rfl).2
      have hl := dec_len_le _ ho
      simp only [costN, texts, List.map_cons, List.sum_cons, List.length_cons] at this ⊢
      have e : n.cp.text.length = (dec n.text).length := rfl
      omega
  have := h.many
  have := h.size
  omega
end Css
end Go.Proofs.YtkfdcbdlcipmfaaGreatFmt
/- PLAIN: what is left of a text is a part at its end; the bytes of what is read. No program in sight. -/
namespace Go.Proofs.YtkfdcbdlcipmfaaGreatFmt
namespace Css
def Sx (a b : List Int) : Prop := ∃ X, b = X ++ a
theorem Sx.refl (a : List Int) : Sx a a := ⟨[], rfl⟩
theorem Sx.trans {a b c : List Int} (h : Sx a b) (k : Sx b c) : Sx a c := by
  obtain ⟨X, rfl⟩ := h; obtain ⟨Y, rfl⟩ := k; exact ⟨Y ++ X, by simp⟩
theorem sx_tail (a : List Int) : Sx a.tail a := by cases a with | nil => exact .refl _ | cons x t => exact ⟨[x], rfl⟩
theorem Sx.t {a b : List Int} (h : Sx a b.tail) : Sx a b := h.trans (sx_tail b)
theorem Sx.len {a b : List Int} (h : Sx a b) : a.length ≤ b.length := by obtain ⟨X, rfl⟩ := h; simp
theorem hexRun_sx (n : Nat) : ∀ (v : Int) (ds : List Int), Sx (hexRun n v ds).2 ds := by
  induction n with
  | zero => intro v ds; exact .refl _
  | succ n ih =>
    intro v ds
    unfold hexRun
    split
    · exact (ih _ _).t
    · exact .refl _
theorem newline_sx (ds : List Int) : Sx (newline ds) ds := by
  unfold newline; split
  · exact (sx_tail _).t
  · exact sx_tail _
theorem escape_sx (ds : List Int) : Sx (escape ds).2.2 ds := by
  unfold escape
  repeat' split
  · exact sx_tail _
  · exact sx_tail _
  · exact (newline_sx _).trans (hexRun_sx _ _ _)
  · exact (sx_tail _).trans (hexRun_sx _ _ _)
  · exact hexRun_sx _ _ _
theorem name_sx (ds : List Int) : Sx (name ds).2.2 ds := by
  fun_induction name ds with
  | case1 ds h ih => exact ih.t
  | case2 ds h h2 ih => exact (ih.trans (escape_sx _)).t
  | case3 => exact .refl _
theorem spaces_sx (ds : List Int) : Sx (spaces ds) ds := by
  induction ds with
  | nil => exact .refl _
  | cons d t ih =>
    unfold spaces; split
    · exact Sx.t (b := d :: t) ih
    · exact .refl _
theorem badURL_sx (ds : List Int) : Sx (badURL ds).2 ds := by
  fun_induction badURL ds with
  | case1 ds h => exact sx_tail _
  | case2 ds h h2 => exact sx_tail _
  | case3 ds h h2 h3 ih => exact (ih.trans (escape_sx _)).t
  | case4 ds h h2 h3 ih => exact ih.t
theorem url_sx (ds : List Int) : Sx (url ds).2.2.2 ds := by
  fun_induction url ds with
  | case1 ds h => exact sx_tail _
  | case2 ds h h2 => exact .refl _
  | case3 ds h h2 h3 h4 => exact (badURL_sx _).trans (spaces_sx _)
  | case4 ds h h2 h3 h4 ih => exact ih.trans (spaces_sx _)
  | case5 ds h h2 h3 h4 => exact badURL_sx _
  | case6 ds h h2 h3 h4 h5 r ih => exact (ih.trans (escape_sx _)).t
  | case7 ds h h2 h3 h4 h5 r ih => exact ih.t
theorem quotedRun_sx (q : Int) (ds : List Int) : Sx (quotedRun q ds).2.2.2 ds := by
  fun_induction quotedRun q ds with
  | case1 ds h => exact sx_tail _
  | case2 ds h h2 => exact .refl _
  | case3 ds h h2 h3 => exact .refl _
  | case4 ds h h2 h3 h4 ih => exact ih.t
  | case5 ds h h2 h3 h4 h5 ih => exact (ih.trans (newline_sx _)).t
  | case6 ds h h2 h3 h4 h5 h6 r ih => exact (ih.trans (escape_sx _)).t
  | case7 ds h h2 h3 h4 h5 h6 r ih => exact ih.t
theorem digits_sx (ds : List Int) : Sx (digits ds) ds := by
  induction ds with
  | nil => exact .refl _
  | cons d t ih =>
    unfold digits; split
    · exact Sx.t (b := d :: t) ih
    · exact .refl _
theorem numEnd_sx (ds : List Int) : Sx (numEnd ds).2 ds := by
  unfold numEnd
  simp only []
  have hS : Sx (numSign ds) ds := by unfold numSign; split; exact sx_tail _; exact .refl _
  have hD : Sx (digits (numSign ds)) ds := (digits_sx _).trans hS
  have hP : Sx (numDot (digits (numSign ds))) ds := by
    unfold numDot; split
    · exact ((digits_sx _).t).trans hD
    · exact hD
  unfold numExp; split
  · exact ((digits_sx _).t.t).trans hP
  · exact hP
theorem numeric_sx (ds : List Int) : Sx (numeric ds).2.2 ds := by
  unfold numeric
  simp only []
  repeat' split
  · exact (name_sx _).trans (numEnd_sx ds)
  · exact (sx_tail _).trans (numEnd_sx ds)
  · exact numEnd_sx ds
theorem named_sx (ds : List Int) : Sx (named ds).2.2 ds := by
  unfold named
  simp only []
  repeat' split
  · exact name_sx ds
  · exact (((url_sx _).trans (spaces_sx _)).t).trans (name_sx ds)
  · exact (sx_tail _).trans (name_sx ds)
theorem next_sx (ds : List Int) : Sx (next ds).2.2 ds := by
  unfold next
  split
  · exact .refl _
  split
  · exact spaces_sx ds
  split
  · exact (quotedRun_sx _ _).t
  split
  · exact (name_sx _).t
  split
  · exact numeric_sx ds
  split
  · exact (sx_tail _).t.t
  split
  · exact named_sx ds
  split
  · exact (sx_tail _).t.t.t
  split
  · exact (name_sx _).t
  · exact sx_tail _
theorem comEnd_sx (ds : List Int) : Sx (comEnd ds).2 ds := by
  induction ds with
  | nil => unfold comEnd; split; exact (sx_tail _).t; exact .refl _
  | cons d t ih =>
    unfold comEnd; split
    · exact (sx_tail _).t
    · exact Sx.t (b := d :: t) ih
theorem comments_sx (ds : List Int) : Sx (comments ds).2.2 ds := by
  fun_induction comments ds with
  | case1 ds h h2 => exact (comEnd_sx _).t.t
  | case2 ds h h2 ih => exact (ih.trans (comEnd_sx _)).t.t
  | case3 => exact .refl _
theorem tokens_sx (ds : List Int) : ∀ x ∈ (tokens ds).1, Sx x.2.1 ds ∧ Sx x.2.2 x.2.1 := by
  fun_induction tokens ds with
  | case1 => intro x hx; simp at hx
  | case2 ds h D ih =>
    intro x hx
    have hD : Sx D ds := comments_sx ds
    rw [List.mem_cons] at hx
    rcases hx with rfl | hx
    · exact ⟨hD, next_sx _⟩
    · obtain ⟨h1, h2⟩ := ih x hx
      exact ⟨(h1.trans (next_sx _)).trans hD, h2⟩
end Css
end Go.Proofs.YtkfdcbdlcipmfaaGreatFmt
/- PLAIN: what is read of a text, over bytes. No program in sight. -/
namespace Go.Proofs.YtkfdcbdlcipmfaaGreatFmt
namespace Css
theorem part_sx {a b : List Int} (h : Sx b a) : a = part a b ++ b := by
  obtain ⟨X, rfl⟩ := h
  rw [part_append]
theorem raw_bytes {s : ByteArray} {ds a b : List Int} (hs : s.data.toList = enc ds) (ha : Sx a ds) (hb : Sx b a) :
    (s.extract (s.size - bw a) (s.size - bw b)).data.toList = enc (part a b) ∧ s.size - bw a ≤ s.size - bw b := by
  obtain ⟨X, rfl⟩ := ha
  have e := part_sx hb
  generalize part a b = p at e ⊢
  subst e
  have hsz : s.size = (enc X).length + ((enc p).length + (enc b).length) := by
    have e : s.data.toList.length = s.size := rfl
    rw [← e, hs, enc_append, enc_append, List.length_append, List.length_append]
  have hb1 : bw (p ++ b) = (enc p).length + (enc b).length := by rw [bw_enc, enc_append, List.length_append]
  have hb2 : bw b = (enc b).length := bw_enc b
  rw [hb1, hb2, hsz]
  refine ⟨?_, by omega⟩
  have h1 : (enc X).length + ((enc p).length + (enc b).length) - ((enc p).length + (enc b).length) = (enc X).length := by omega
  have h2 : (enc X).length + ((enc p).length + (enc b).length) - (enc b).length = (enc X).length + (enc p).length := by omega
  rw [h1, h2]
  have h3 : (s.extract (enc X).length ((enc X).length + (enc p).length)).data.toList = (s.data.toList.take ((enc X).length + (enc p).length)).drop (enc X).length := by
    rw [ByteArray.data_extract, Array.toList_extract]
    simp only [List.extract_eq_take_drop]
    rw [List.drop_take]
  rw [h3, hs, enc_append, enc_append, ← List.append_assoc, List.take_append_of_le_length (by simp), ← List.length_append, List.take_length, List.drop_left]
/-- What is read, each with where it stands. -/
def rdP : List (Tk × List Int × List Int) → Bool → List ((Tk × List Int × List Int) × Bool)
  | [], _ => []
  | x :: l, sp => if x.1.kind = 38 then rdP l true else (x, sp) :: rdP l false
theorem rdP_map (l : List (Tk × List Int × List Int)) : ∀ sp, (rdP l sp).map (fun y => (y.1.1, part y.1.2.1 y.1.2.2, y.2)) = rd l sp := by
  induction l with
  | nil => intro sp; rfl
  | cons x l ih =>
    intro sp
    simp only [rdP, rd]
    split
    · exact ih true
    · rw [List.map_cons, ih]
theorem rdP_mem (l : List (Tk × List Int × List Int)) : ∀ sp, ∀ y ∈ rdP l sp, y.1 ∈ l := by
  induction l with
  | nil => intro sp y hy; cases hy
  | cons x l ih =>
    intro sp y hy
    simp only [rdP] at hy
    split at hy
    · exact List.mem_cons_of_mem _ (ih true y hy)
    · rw [List.mem_cons] at hy
      rcases hy with rfl | hy
      · exact List.mem_cons_self
      · exact List.mem_cons_of_mem _ (ih false y hy)
theorem rdP_len (l : List (Tk × List Int × List Int)) : ∀ sp, (rdP l sp).length ≤ l.length := by
  induction l with
  | nil => intro sp; simp [rdP]
  | cons x l ih =>
    intro sp
    simp only [rdP]
    split
    · have := ih true; simp; omega
    · have := ih false; simp; omega
/-- A token that was read is an item: what the walk of `is` sees. -/
structure IsB (k : Int) (u : Nat) (tx raw : List UInt8) (x : RIt) : Prop where
  kind : k = x.kind
  name : nameLikeK x.kind → tx = x.text
  dim : x.kind = 26 → (u : Int) = x.unit ∧ u ≤ raw.length ∧ u ≤ x.text.length ∧ raw.take u = x.text.take u ∧ enc (Css.name (dec (raw.drop u))).1 = x.text.drop u
  rest : ¬ nameLikeK x.kind → x.kind ≠ 26 → ¬ isClose x.kind → raw = x.text
theorem enc_take {cs : List Int} {u : Nat} (hu : u ≤ cs.length) (h : ∀ c ∈ cs.take u, c < 128) : (enc cs).take u = enc (cs.take u) ∧ (enc cs).drop u = enc (cs.drop u) ∧ u ≤ (enc cs).length := by
  have e : enc cs = enc (cs.take u) ++ enc (cs.drop u) := by rw [← enc_append, List.take_append_drop]
  have hl : (enc (cs.take u)).length = u := by rw [enc_ascii_len h, List.length_take]; omega
  rw [e]
  refine ⟨?_, ?_, ?_⟩
  · rw [List.take_append_of_le_length (by omega), List.take_of_length_le (by omega)]
  · rw [List.drop_append_of_le_length (by omega), List.drop_of_length_le (by omega), List.nil_append]
  · rw [List.length_append]; omega
theorem isIt_bytes {tk : Tk} {raw : List Int} {sp : Bool} {x : RIt} (h : IsIt (tk, raw, sp) x.cp) (hx : ItOk x) (hr : ∀ c ∈ raw, Valid c) : IsB tk.kind tk.unit (enc tk.text) (enc raw) x := by
  obtain ⟨h1, h2, h3, h4⟩ := h
  have hex : enc (dec x.text) = x.text := (okDec_val hx.ok).1
  refine ⟨h1, fun hn => ?_, fun h26 => ?_, fun n1 n2 n3 => ?_⟩
  · have := h2 hn
    rw [show tk.text = dec x.text from this]; exact hex
  · obtain ⟨a1, a2, a3, a4, a5⟩ := h3 h26
    have hu : x.cp.unit = x.unit := by show (if x.kind = 26 then x.unit else 0) = x.unit; rw [if_pos h26]
    rw [hu] at a1
    simp only [] at a1 a2 a3 a4 a5
    have a5' : tk.unit ≤ (dec x.text).length := a5
    have hut : x.unit.toNat = tk.unit := by omega
    have hlow := hx.low h26
    rw [hut] at hlow
    have e2 : raw.take tk.unit = (dec x.text).take tk.unit := a2
    obtain ⟨b1, b2, b3⟩ := enc_take a5' hlow
    obtain ⟨c1, c2, c3⟩ := enc_take a4 (by rw [e2]; exact hlow)
    rw [hex] at b1 b2 b3
    refine ⟨a1, c3, b3, ?_, ?_⟩
    · rw [c1, b1, e2]
    · rw [c2, dec_enc_v (fun c hc => hr c (List.mem_of_mem_drop hc)), a3, b2]; rfl
  · have := h4 (by
      show ¬ (x.kind = 29 ∨ x.kind = 27 ∨ x.kind = 1 ∨ x.kind = 28 ∨ x.kind = 36 ∨ x.kind = 26 ∨ x.kind = 8 ∨ x.kind = 7 ∨ x.kind = 6)
      unfold nameLikeK at n1; unfold isClose at n3; omega)
    rw [show raw = dec x.text from this]; exact hex
end Css
end Go.Proofs.YtkfdcbdlcipmfaaGreatFmt
/- Words for the walks: what is returned; flat nodes in memory. -/
namespace Go.Proofs.YtkfdcbdlcipmfaaGreatFmt
open Go.RowKit Css
def RetBW (b : Bool) (w : World) (e : Ending) (w' : World) : Prop := e = .returned (.bool b) ∧ Below w.heap.size w w'
theorem RetBW.mk' {a b : Bool} {w w' : World} (h : a = b) (hb : Below w.heap.size w w') : RetBW b w (.returned (.bool a)) w' := ⟨retB_eq h, hb⟩
def RetVW (v : Value) (w : World) (e : Ending) (w' : World) : Prop := e = .returned v ∧ Below w.heap.size w w'
theorem RetVW.mk' {a b : Value} {w w' : World} (h : a = b) (hb : Below w.heap.size w w') : RetVW b w (.returned a) w' := ⟨by rw [h], hb⟩
theorem below_drewN {B : Nat} (w : World) (n : Nat) : Below B w (w.drewN n) := by
  cases n with
  | zero => exact ⟨rfl, rfl, rfl, Nat.le_refl _, fun _ _ => rfl⟩
  | succ n => exact ⟨rfl, rfl, rfl, Nat.le_refl _, fun _ _ => rfl⟩
def RetIW (i : Int) (w : World) (e : Ending) (w' : World) : Prop := e = .returned (.int .i64 i) ∧ Below w.heap.size w w'
theorem RetIW.mk' {a b : Int} {w w' : World} (h : a = b) (hb : Below w.heap.size w w') : RetIW b w (.returned (.int .i64 a)) w' := ⟨by rw [h], hb⟩
def nCells (n : RN) : List Value := [.int .i64 n.kind, .int .i64 n.unit, .int .i64 n.depth, .string ⟨⟨n.text⟩⟩, .bool n.before, .bool n.after]
def nRow (l : List RN) : List Value := l.flatMap nCells
theorem nRow_get {l : List RN} {i : Nat} {n : RN} (h : l[i]? = some n) (j : Nat) (hj : j < 6) : (nRow l)[i * 6 + j]? = (nCells n)[j]? := by
  induction l generalizing i with
  | nil => simp at h
  | cons a t ih =>
    have hl : (nCells a).length = 6 := rfl
    show (nCells a ++ nRow t)[i * 6 + j]? = _
    cases i with
    | zero =>
      simp at h
      subst h
      rw [List.getElem?_append_left (by omega)]; simp
    | succ i =>
      rw [List.getElem?_append_right (by omega), hl]
      have : (i + 1) * 6 + j - 6 = i * 6 + j := by omega
      rw [this]
      exact ih (by simpa using h)
/-- Nodes that lie in a slice. -/
structure NodesAt (v : Value) (l : List RN) (w : World) : Prop where
  form : l ≠ [] → ∃ q c, v = .slice (some ⟨q, 0, none⟩) l.length c ∧ q < w.heap.size ∧ ∀ i x, (nRow l)[i]? = some x → w.cell? ⟨q, i, none⟩ = some x
  empty : l = [] → v = .slice none 0 0 ∨ ∃ a c, v = .slice (some a) 0 c
theorem NodesAt.below {v : Value} {l : List RN} {w w' : World} (h : NodesAt v l w) (hb : Below w.heap.size w w') : NodesAt v l w' := by
  refine ⟨fun hl => ?_, h.empty⟩
  obtain ⟨q, c, e, hq, hc⟩ := h.form hl
  refine ⟨q, c, e, Nat.lt_of_lt_of_le hq hb.size, fun i x hx => ?_⟩
  rw [← hc i x hx]
  unfold World.cell?
  rw [hb.block q hq]
/-- A node's cells. -/
structure NodeC (w : World) (q o : Nat) (n : RN) : Prop where
  c0 : w.cell? ⟨q, o, none⟩ = some (.int .i64 n.kind)
  c1 : w.cell? ⟨q, o + 1, none⟩ = some (.int .i64 n.unit)
  c2 : w.cell? ⟨q, o + 2, none⟩ = some (.int .i64 n.depth)
  c3 : w.cell? ⟨q, o + 3, none⟩ = some (.string ⟨⟨n.text⟩⟩)
  c4 : w.cell? ⟨q, o + 4, none⟩ = some (.bool n.before)
  c5 : w.cell? ⟨q, o + 5, none⟩ = some (.bool n.after)
theorem NodesAt.slice {v : Value} {l : List RN} {w : World} (h : NodesAt v l w) : ∃ A c, v = .slice A l.length c := by
  cases l with
  | nil =>
    rcases h.empty rfl with e | ⟨a, c, e⟩
    · exact ⟨_, _, e⟩
    · exact ⟨_, _, e⟩
  | cons n r => obtain ⟨q, c, e, _⟩ := h.form (by simp); exact ⟨_, c, e⟩
theorem NodesAt.node {A : Option Addr} {k c : Nat} {l : List RN} {w : World} (h : NodesAt (.slice A k c) l w) {i : Nat} {n : RN} (hn : l[i]? = some n) : ∃ q, A = some ⟨q, 0, none⟩ ∧ q < w.heap.size ∧ NodeC w q (i * 6) n := by
  obtain ⟨q, c', e, hq, hc⟩ := h.form (by intro e; subst e; simp at hn)
  injection e with e _ _
  refine ⟨q, e, hq, ?_, ?_, ?_, ?_, ?_, ?_⟩
  · exact hc _ _ (by have := nRow_get hn 0 (by decide); simpa [nCells] using this)
  · exact hc _ _ (by have := nRow_get hn 1 (by decide); simpa [nCells] using this)
  · exact hc _ _ (by have := nRow_get hn 2 (by decide); simpa [nCells] using this)
  · exact hc _ _ (by have := nRow_get hn 3 (by decide); simpa [nCells] using this)
  · exact hc _ _ (by have := nRow_get hn 4 (by decide); simpa [nCells] using this)
  · exact hc _ _ (by have := nRow_get hn 5 (by decide); simpa [nCells] using this)
theorem NodesAt.none_len {A : Option Addr} {k c : Nat} {l : List RN} {w : World} (h : NodesAt (.slice A k c) l w) (hA : A = Option.none) : k = 0 ∧ c = 0 := by
  subst hA
  cases l with
  | nil =>
    rcases h.empty rfl with e | ⟨a, c', e⟩
    · injection e with _ e1 e2; exact ⟨e1, e2⟩
    · injection e with e _ _; cases e
  | cons n r =>
    obtain ⟨q, c', e, _⟩ := h.form (by simp)
    injection e with e _ _; cases e
theorem NodesAt.cellsOf {a : Addr} {k c : Nat} {l : List RN} {w : World} (h : NodesAt (.slice (some a) k c) l w) : ∀ j u, (nRow l)[j]? = some u → w.cell? (a.add j) = some u := by
  intro j u hj
  cases l with
  | nil => simp [nRow] at hj
  | cons n r =>
    obtain ⟨q, c', e, _, hc⟩ := h.form (by simp)
    injection e with e _ _
    injection e with e
    subst e
    have : (⟨q, 0, none⟩ : Addr).add j = ⟨q, j, none⟩ := by
      unfold Addr.add; split
      · rename_i h; subst h; rfl
      · simp
    rw [this]; exact hc j u hj
theorem nRow_len (l : List RN) : (nRow l).length = l.length * 6 := by
  induction l with
  | nil => rfl
  | cons n r ih => show (nCells n ++ nRow r).length = _; rw [List.length_append, ih]; simp [nCells]; omega
theorem nRow_set : ∀ (l : List RN) (i : Nat) (n : RN) (x : Bool), l[i]? = some n → (nRow l).set (i * 6 + 5) (.bool x) = nRow (l.set i { n with after := x })
  | [], i, n, x, h => by simp at h
  | a :: r, 0, n, x, h => by
    simp only [List.getElem?_cons_zero, Option.some.injEq] at h
    subst h
    rfl
  | a :: r, i + 1, n, x, h => by
    have ih := nRow_set r i n x (by simpa using h)
    show (nCells a ++ nRow r).set ((i + 1) * 6 + 5) (.bool x) = nCells a ++ nRow (r.set i { n with after := x })
    have hl : (nCells a).length = 6 := rfl
    rw [List.set_append_right _ _ (by omega), hl, ← ih]
    congr 2
    omega
theorem nRow_one (l : List RN) : ∀ u ∈ nRow l, u.oneCell' = true := by
  intro u hu
  obtain ⟨n, _, hn⟩ := List.mem_flatMap.1 hu
  simp only [nCells, List.mem_cons, List.not_mem_nil, or_false] at hn
  rcases hn with rfl | rfl | rfl | rfl | rfl | rfl <;> rfl
theorem NodeC.below {w w' : World} {q o : Nat} {n : RN} (h : NodeC w q o n) (hb : w'.heap[q]? = w.heap[q]?) : NodeC w' q o n := by
  have hc : ∀ o, w'.cell? ⟨q, o, none⟩ = w.cell? ⟨q, o, none⟩ := fun o => World.cell?_of_block (w := w) (a := ⟨q, o, none⟩) hb
  exact ⟨(hc _).trans h.c0, (hc _).trans h.c1, (hc _).trans h.c2, (hc _).trans h.c3, (hc _).trans h.c4, (hc _).trans h.c5⟩
abbrev rV (n : RN) : Value := .agg #[.int .i64 n.kind, .int .i64 n.unit, .int .i64 n.depth, .string ⟨⟨n.text⟩⟩, .bool n.before, .bool n.after]
theorem ba_size (l : List UInt8) : (⟨⟨l⟩⟩ : ByteArray).size = l.length := rfl
theorem box_below (o : Obj) (w : World) : Below w.heap.size w (w.alloc o) := (Below.refl _ _).alloc (Nat.le_refl _) _
theorem below_box {w0 wr w1 : World} {o : Obj} (h : Below w0.heap.size w0 wr) (h1 : Below (wr.alloc o).heap.size (wr.alloc o) w1) : Below w0.heap.size w0 w1 :=
  (h.alloc h.size o).trans (h1.mono (by have := h.size; show _ ≤ (wr.heap.push o).size; rw [Array.size_push]; omega))
end Go.Proofs.YtkfdcbdlcipmfaaGreatFmt
/- Words for the walks: rows that a call owns; one element more. -/
namespace Go.Proofs.YtkfdcbdlcipmfaaGreatFmt
open Go.RowKit
theorem parts_of {i0 : Option TypeInfo} {z : Option Value} {a b : Nat} (h : i0.map (fun i => (i.zero, i.size, i.bytes)) = some (z, a, b)) : ∃ i, i0 = some i ∧ i.zero = z ∧ i.size = a ∧ i.bytes = b := by
  obtain ⟨i, hi, hz⟩ := Option.map_eq_some_iff.1 h
  simp only [Prod.mk.injEq] at hz
  exact ⟨i, hi, hz.1, hz.2.1, hz.2.2⟩
/-- A block of elements of a type. -/
def IsTy (T : TypeId) (o : Option Obj) : Prop := ∃ cs fr, o = some (.cells cs T fr)
section
variable {w w' : World}
theorem own_keep {base n : Nat} {e : TypeId} {size : Nat} {x : Value} {xs : List Value} (h : w.ownsRow base e size x n xs) (hk : ∀ q, x.ownBlock = some q → w'.heap[q]? = w.heap[q]?) : w'.ownsRow base e size x n xs := by
  obtain ⟨h1, h2⟩ := h
  refine ⟨h1, ?_⟩
  rcases h2 with h2 | ⟨q, cap, cur, hv, hq, hh, r⟩
  · exact Or.inl h2
  · exact Or.inr ⟨q, cap, cur, hv, hq, (hk q (by rw [hv]; rfl)).trans hh, r⟩
theorem own_lt {base n : Nat} {e : TypeId} {size : Nat} {x : Value} {xs : List Value} (h : w.ownsRow base e size x n xs) {q : Nat} (hq : x.ownBlock = some q) : q < w.heap.size ∧ base ≤ q ∧ IsTy e w.heap[q]? := by
  rcases h.2 with ⟨rfl, _⟩ | ⟨q', cap, cur, rfl, hb, hh, _⟩
  · simp [Value.ownBlock] at hq
  · have : q' = q := by simpa [Value.ownBlock] using hq
    subst this
    exact ⟨(Array.getElem?_eq_some_iff.1 hh).1, hb, cur, (0, 0), hh⟩
end
theorem addr_add0 (q j : Nat) : (⟨q, 0, none⟩ : Addr).add j = ⟨q, j, none⟩ := by
  unfold Addr.add; split
  · rename_i h; subst h; rfl
  · simp
section
variable {ops : Array Oper} {rest : List Oper} {o : Oper} {a : Act} {Q : Exit → Act → World → Prop}
/-- ONE ELEMENT MORE in a row of the call's own. -/
theorem wpList_app1 (hgd : o.guard = none) (s x : Operand) (ST ET : TypeId) (ho : o.op = .call { callee := .builtin .append, args := #[s, x], argTypes := #[ST, ST] }) (hST : Tryz.prog.underlying ST = some (.slice ET))
    {z : Value} {size bytes : Nat} (info : (Tryz.prog.info? ET).map (fun i => (i.zero, i.size, i.bytes)) = some (some z, size, bytes)) (hzs : z.cells.size = size) (hsz : 0 < size)
    {B n : Nat} {v : Value} {xs : List Value} {w : World} (H : w.ownsRow B ET size v n xs) (hB : B ≤ w.heap.size) (cs : Array Value) (hcs : cs.size = size) (h1 : ∀ u ∈ cs.toList, u.oneCell' = true)
    (hn : (n + 1) * bytes ≤ 140737488355328) (hn2 : n + 1 ≤ maxLen) (hs : a.eval s = v) (bk : Nat) (hbk : bk = w.heap.size) (hx : a.eval x = .slice (some ⟨bk, 0, none⟩) 1 1)
    (h : ∀ v' w', w'.ownsRow B ET size v' (n + 1) (xs ++ cs.toList) → (w.alloc (.cells cs ET)).grownBy w' v.ownBlock → Below B w w' → (v'.ownBlock = v.ownBlock ∨ v'.ownBlock = some (w.heap.size + 1)) → wpList Tryz.prog ops Q rest (a.put o.dst v') w') :
    wpList Tryz.prog ops Q (o :: rest) a (w.alloc (.cells cs ET)) := by
  subst hbk
  obtain ⟨i, hi, hz0, hz1, hz2⟩ := parts_of info
  have H1 : (w.alloc (.cells cs ET)).ownsRow B ET size v n xs := H.alloc _
  have hsize : (w.alloc (.cells cs ET)).heap.size = w.heap.size + 1 := by simp
  obtain ⟨v', w', hr, h2, h3, _, h5⟩ := run_append_own_at (P := Tryz.prog) (w.alloc (.cells cs ET)) B ST o.type ET i z size bytes hST hi hz0 hz1 hz2 hzs hsz v n xs H1 ⟨w.heap.size, 0, none⟩ 1 1 cs.toList (by simp [hcs]) (by
    intro j u hj
    rw [addr_add0, World.cell?_alloc_mark w _ _ _ j]
    simpa using hj) h1 hn2 hn (by omega)
  have hla : Below B w (w.alloc (.cells cs ET)) := (Below.refl _ _).alloc hB _
  refine wpList_plain hgd fun K hK => ?_
  unfold Oper.wp execOp
  simp only [ho, resolve, invoke, builtin, Sem.run_bind, Sem.run_pure, Result.andThen_ok, List.map_toArray, List.map_cons, List.map_nil, hs, hx, hr]
  refine hK _ _ (h v' w' h2 h3 (hla.grown h3 (by omega) fun k hk => (own_lt H hk).2.1) (by rw [hsize] at h5; exact h5))
/-- ELEMENTS OF ANOTHER SLICE behind a row of the call's own. -/
theorem wpList_appN (hgd : o.guard = none) (s x : Operand) (ST ET : TypeId) (ho : o.op = .call { callee := .builtin .append, args := #[s, x], argTypes := #[ST, ST] }) (hST : Tryz.prog.underlying ST = some (.slice ET))
    {z : Value} {size bytes : Nat} (info : (Tryz.prog.info? ET).map (fun i => (i.zero, i.size, i.bytes)) = some (some z, size, bytes)) (hzs : z.cells.size = size) (hsz : 0 < size)
    {B n : Nat} {v : Value} {xs : List Value} {w : World} (H : w.ownsRow B ET size v n xs) (hB : B ≤ w.heap.size) (A : Option Addr) (m c : Nat) (news : List Value) (hl : news.length = m * size) (hA : A = Option.none → m = 0 ∧ c = 0)
    (hnews : ∀ ad, A = some ad → ∀ j u, news[j]? = some u → w.cell? (ad.add j) = some u) (h1 : ∀ u ∈ news, u.oneCell' = true)
    (hn : (n + m) * bytes ≤ 140737488355328) (hn2 : n + m ≤ maxLen) (hs : a.eval s = v) (hx : a.eval x = .slice A m c)
    (h : ∀ v' w', w'.ownsRow B ET size v' (n + m) (xs ++ news) → w.grownBy w' v.ownBlock → Below B w w' → wpList Tryz.prog ops Q rest (a.put o.dst v') w') :
    wpList Tryz.prog ops Q (o :: rest) a w := by
  obtain ⟨i, hi, hz0, hz1, hz2⟩ := parts_of info
  cases A with
  | none =>
    obtain ⟨rfl, rfl⟩ := hA rfl
    have hnil : news = [] := List.eq_nil_of_length_eq_zero (by omega)
    subst hnil
    have hr := run_append_owned_none (P := Tryz.prog) (w := w) B ST o.type ET i size hST hi v n xs H
    refine wpList_plain hgd fun K hK => ?_
    unfold Oper.wp execOp
    simp only [ho, resolve, invoke, builtin, Sem.run_bind, Sem.run_pure, Result.andThen_ok, List.map_toArray, List.map_cons, List.map_nil, hs, hx, hr]
    exact hK _ _ (h v w (by simpa using H) (World.grownBy.refl _ _) (Below.refl _ _))
  | some ad =>
    obtain ⟨v', w', hr, h2, h3, _, h5⟩ := run_append_own_at (P := Tryz.prog) w B ST o.type ET i z size bytes hST hi hz0 hz1 hz2 hzs hsz v n xs H ad m c news hl (hnews ad rfl) h1 hn2 hn hB
    refine wpList_plain hgd fun K hK => ?_
    unfold Oper.wp execOp
    simp only [ho, resolve, invoke, builtin, Sem.run_bind, Sem.run_pure, Result.andThen_ok, List.map_toArray, List.map_cons, List.map_nil, hs, hx, hr]
    exact hK _ _ (h v' w' h2 h3 ((Below.refl _ _).grown h3 hB fun k hk => (own_lt H hk).2.1))
end
end Go.Proofs.YtkfdcbdlcipmfaaGreatFmt
/- Walks: the statements: nodes copied. Printed by genL2.py. -/
namespace Go.Proofs.YtkfdcbdlcipmfaaGreatFmt
open Go.RowKit Css
theorem info50 : (Tryz.prog.info? 50).map (fun i => (i.zero, i.size, i.bytes)) = some (some (.agg #[.int .i64 0, .int .i64 0, .int .i64 0, .string ⟨#[]⟩, .bool false, .bool false]), 6, 48) := by kernel_rfl
theorem info45 : (Tryz.prog.info? 45).map (fun i => (i.zero, i.size, i.bytes)) = some (some (.agg #[.int .i64 0, .int .i64 0, .int .i64 0, .string ⟨#[]⟩, .bool false, .bool false]), 6, 48) := by kernel_rfl
/-- What is returned: a row of nodes of the call's own. -/
def RetN (T : TypeId) (l : List RN) (w : World) (e : Ending) (w' : World) : Prop := ∃ v, e = .returned v ∧ w'.ownsRow w.heap.size T 6 v l.length (nRow l) ∧ Below w.heap.size w w'
theorem nRow_snoc (l : List RN) (n : RN) : nRow (l ++ [n]) = nRow l ++ nCells n := by unfold nRow; simp
theorem node_one (n : RN) : ∀ u ∈ (#[Value.int .i64 n.kind, .int .i64 n.unit, .int .i64 n.depth, .string ⟨⟨n.text⟩⟩, .bool n.before, .bool n.after] : Array Value).toList, u.oneCell' = true := by simp [Value.oneCell']
theorem own_row_nil (w : World) (B : Nat) (T : TypeId) (size : Nat) : w.ownsRow B T size (.slice none 0 0) 0 [] := ⟨by simp, .inl ⟨rfl, rfl⟩⟩
theorem own_nodes {w : World} {B : Nat} {T : TypeId} {v : Value} {l : List RN} (h : w.ownsRow B T 6 v l.length (nRow l)) : NodesAt v l w := by
  refine ⟨fun hl => ?_, fun hl => ?_⟩
  · obtain ⟨q, cap, hv, hq, hlt⟩ := h.form (List.length_pos_iff.2 hl)
    refine ⟨q, cap, hv, ?_, fun i x hx => ?_⟩
    · exact (own_lt h (by rw [hv]; rfl)).1
    · have := h.cells (g := q) (by rw [hv]; rfl) i x hx
      rw [addr_add0] at this; exact this
  · subst hl
    rcases h.2 with ⟨rfl, _⟩ | ⟨q, cap, cur, rfl, _⟩
    · exact .inl rfl
    · exact .inr ⟨_, _, rfl⟩

set_option maxHeartbeats 1600000 in
set_option maxRecDepth 100000 in
theorem nodes_any (v : Value) (l : List RN) (hl : l.length ≤ 2147483647) (w : World) (h : NodesAt v l w) : Calls Tryz.prog 16 #[v] w (RetN 50 l w) := by
  obtain ⟨A, c, rfl⟩ := h.slice
  have HN := Lib.hid h
  rename World => w0
  clear h
  go_enter Tryz.func16, Tryz.ntmps16
  go_wp2_with fail
  go_loopg [3, 8] l.length (fun k p3 p8 wr => ∃ i : Nat, p8 = .int .i64 i ∧ i + k = l.length ∧ Hid (Below w0.heap.size w0 wr) ∧ Hid (wr.ownsRow w0.heap.size 50 6 p3 i (nRow (l.take i))))
  case atStart => exact ⟨0, rfl, by omega, Below.refl _ _, own_row_nil _ _ _ _⟩
  case round =>
    obtain ⟨i, rfl, hik, HB, HO⟩ := hrel
    have hi0 : (0 : Int) ≤ (i : Int) := by omega
    have hi1 : (i : Int) ≤ 2147483647 := by omega
    by_cases hlt : i < l.length
    · have hlti : (i : Int) < (l.length : Int) := by omega
      obtain ⟨n, hn⟩ : ∃ n, l[i]? = some n := ⟨l[i], List.getElem?_eq_getElem hlt⟩
      have HT : Hid (nRow (l.take (i + 1)) = nRow (l.take i) ++ nCells n) := by
        show _ = _; rw [← nRow_snoc, List.take_add_one, hn]; rfl
      obtain ⟨q, rfl, hq, hc⟩ := (HN.out.below HB.out).node hn
      have hc0 := hc.c0
      have hc1 := hc.c1
      have hc2 := hc.c2
      have hc3 := hc.c3
      have hc4 := hc.c4
      have hc5 := hc.c5
      have HB1 := Lib.hid (HB.out.alloc HB.out.size (.cells #[.int .i64 n.kind, .int .i64 n.unit, .int .i64 n.depth, .string ⟨⟨n.text⟩⟩, .bool n.before, .bool n.after] 45))
      have HO1 := Lib.hid (HO.out.alloc (.cells #[.int .i64 n.kind, .int .i64 n.unit, .int .i64 n.depth, .string ⟨⟨n.text⟩⟩, .bool n.before, .bool n.after] 45))
      clear hc hn HB HO
      go_wp2_with (at_builtin; go_must (refine wpList_app1 rfl _ _ 31 50 rfl Tryz.underlying31 info50 rfl (by decide) HO1.out HB1.out.size #[.int .i64 n.kind, .int .i64 n.unit, .int .i64 n.depth, .string ⟨⟨n.text⟩⟩, .bool n.before, .bool n.after] rfl (node_one n) (by omega) (by unfold maxLen; omega) rfl (wr.heap.size + 1) (by simp) rfl ?_; intro v' w9 hw9 hg9 hb9 _; have HW9 := Lib.hid hw9; have HB9 := Lib.hid hb9; clear hw9 hg9 hb9))
      go_roundg (l.length - (i + 1))
      case measure => omega
      case rel => exact ⟨i + 1, by go_num, by omega, HB1.out.trans HB9.out, by show World.ownsRow _ _ _ _ _ _ _; rw [HT.out]; exact HW9.out⟩
    · have hle : (l.length : Int) ≤ (i : Int) := by omega
      have hil : i = l.length := by omega
      go_wp2_with fail
      go_ret
      subst hil
      have := HO.out
      rw [List.take_length] at this
      exact ⟨_, rfl, this, HB.out⟩

set_option maxHeartbeats 1600000 in
set_option maxRecDepth 100000 in
theorem back_any (v : Value) (l : List RN) (hl : l.length ≤ 2147483647) (w : World) (h : NodesAt v l w) : Calls Tryz.prog 27 #[v] w (RetN 45 l w) := by
  obtain ⟨A, c, rfl⟩ := h.slice
  have HN := Lib.hid h
  rename World => w0
  clear h
  go_enter Tryz.func27, Tryz.ntmps27
  go_wp2_with fail
  go_loopg [3, 8] l.length (fun k p3 p8 wr => ∃ i : Nat, p8 = .int .i64 i ∧ i + k = l.length ∧ Hid (Below w0.heap.size w0 wr) ∧ Hid (wr.ownsRow w0.heap.size 45 6 p3 i (nRow (l.take i))))
  case atStart => exact ⟨0, rfl, by omega, Below.refl _ _, own_row_nil _ _ _ _⟩
  case round =>
    obtain ⟨i, rfl, hik, HB, HO⟩ := hrel
    have hi0 : (0 : Int) ≤ (i : Int) := by omega
    have hi1 : (i : Int) ≤ 2147483647 := by omega
    by_cases hlt : i < l.length
    · have hlti : (i : Int) < (l.length : Int) := by omega
      obtain ⟨n, hn⟩ : ∃ n, l[i]? = some n := ⟨l[i], List.getElem?_eq_getElem hlt⟩
      have HT : Hid (nRow (l.take (i + 1)) = nRow (l.take i) ++ nCells n) := by
        show _ = _; rw [← nRow_snoc, List.take_add_one, hn]; rfl
      obtain ⟨q, rfl, hq, hc⟩ := (HN.out.below HB.out).node hn
      have hc0 := hc.c0
      have hc1 := hc.c1
      have hc2 := hc.c2
      have hc3 := hc.c3
      have hc4 := hc.c4
      have hc5 := hc.c5
      have HB1 := Lib.hid (HB.out.alloc HB.out.size (.cells #[.int .i64 n.kind, .int .i64 n.unit, .int .i64 n.depth, .string ⟨⟨n.text⟩⟩, .bool n.before, .bool n.after] 50))
      have HO1 := Lib.hid (HO.out.alloc (.cells #[.int .i64 n.kind, .int .i64 n.unit, .int .i64 n.depth, .string ⟨⟨n.text⟩⟩, .bool n.before, .bool n.after] 50))
      clear hc hn HB HO
      go_wp2_with (at_builtin; go_must (refine wpList_app1 rfl _ _ 22 45 rfl Tryz.underlying22 info45 rfl (by decide) HO1.out HB1.out.size #[.int .i64 n.kind, .int .i64 n.unit, .int .i64 n.depth, .string ⟨⟨n.text⟩⟩, .bool n.before, .bool n.after] rfl (node_one n) (by omega) (by unfold maxLen; omega) rfl (wr.heap.size + 1) (by simp) rfl ?_; intro v' w9 hw9 hg9 hb9 _; have HW9 := Lib.hid hw9; have HB9 := Lib.hid hb9; clear hw9 hg9 hb9))
      go_roundg (l.length - (i + 1))
      case measure => omega
      case rel => exact ⟨i + 1, by go_num, by omega, HB1.out.trans HB9.out, by show World.ownsRow _ _ _ _ _ _ _; rw [HT.out]; exact HW9.out⟩
    · have hle : (l.length : Int) ≤ (i : Int) := by omega
      have hil : i = l.length := by omega
      go_wp2_with fail
      go_ret
      subst hil
      have := HO.out
      rw [List.take_length] at this
      exact ⟨_, rfl, this, HB.out⟩
end Go.Proofs.YtkfdcbdlcipmfaaGreatFmt
