/- PLAIN: trees of the statements over bytes; what is printed of them is read as it should be. No program in sight. -/
import Derived.Test.YtkfdcbdlcipmfaaGreatFmtG05
set_option linter.unusedVariables false
set_option linter.unusedSimpArgs false
namespace Go.Proofs.YtkfdcbdlcipmfaaGreatFmt
namespace Css

def setR (all : Bool) : List RN → List RN
  | [] => []
  | n :: r => { n with after := n.after || all || needs n.cp (r.map RN.cp) } :: setR all r
theorem setR_cp (all : Bool) (l : List RN) : (setR all l).map RN.cp = setL all (l.map RN.cp) := by
  induction l with
  | nil => rfl
  | cons n r ih => simp only [setR, setL, List.map_cons, ih]; rfl
theorem setR_len (all : Bool) (l : List RN) : (setR all l).length = l.length := by
  induction l with
  | nil => rfl
  | cons n r ih => simp [setR, ih]
/-- A tree that the statements let in. -/
structure GoodTree (ascii : Bool) (l : List RN) : Prop where
  tree : Tree 0 (l.map RN.cp)
  node : ∀ n ∈ l, isNodeB n = true
  low : ∀ n ∈ l, lowB n.text ascii = true
theorem isNodeB_after (n : RN) (a : Bool) : isNodeB { n with after := a } = isNodeB n := rfl
theorem tree_setL (all : Bool) (l : List N) : ∀ m, Tree m l → Tree m (setL all l) := by
  induction l with
  | nil => intro m h; exact h
  | cons n r ih => intro m h; exact ⟨h.1, h.2.1, ih _ h.2.2⟩
theorem setR_mem {all : Bool} {l : List RN} {x : RN} (h : x ∈ setR all l) : ∃ n ∈ l, ∃ a, x = { n with after := a } := by
  induction l with
  | nil => simp [setR] at h
  | cons n r ih =>
    simp only [setR, List.mem_cons] at h
    rcases h with rfl | h
    · exact ⟨n, by simp, _, rfl⟩
    · obtain ⟨m, hm, a, e⟩ := ih h
      exact ⟨m, by simp [hm], a, e⟩
theorem GoodTree.set {ascii : Bool} {l : List RN} (h : GoodTree ascii l) (all : Bool) : GoodTree ascii (setR all l) := by
  refine ⟨?_, ?_, ?_⟩
  · rw [setR_cp]; exact tree_setL all _ _ h.tree
  · intro x hx
    obtain ⟨n, hn, a, rfl⟩ := setR_mem hx
    rw [isNodeB_after]; exact h.node n hn
  · intro x hx
    obtain ⟨n, hn, a, rfl⟩ := setR_mem hx
    exact h.low n hn
theorem node_unit {n : RN} (h : isNodeB n = true) : 0 ≤ n.cp.unit := by
  obtain ⟨hk, _⟩ := isNode_ok (ascii := false) h rfl
  show 0 ≤ (if n.kind = 26 then n.unit else 0)
  split
  · rename_i h26
    unfold isNodeB at h
    have h1 : ¬ nameKind n.kind := by unfold nameKind; omega
    rw [if_neg h1, if_neg (by omega), if_neg (by omega), if_neg (by omega), if_pos h26] at h
    simp only [Bool.and_eq_true, decide_eq_true_eq] at h
    omega
  · omega
theorem GoodTree.unit {ascii : Bool} {l : List RN} (h : GoodTree ascii l) : UnitOk (l.map RN.cp) := by
  intro x hx
  obtain ⟨n, hn, rfl⟩ := List.mem_map.1 hx
  exact node_unit (h.node n hn)
theorem GoodTree.ok {ascii : Bool} {l : List RN} (h : GoodTree ascii l) : AllOK ascii (l.map RN.cp) := by
  intro x hx
  obtain ⟨n, hn, rfl⟩ := List.mem_map.1 hx
  exact (isNode_ok (h.node n hn) (h.low n hn)).1
theorem parse_items {l : List N} {ts : List T} (hp : Parse 0 l ts []) (ht : Tree 0 l) (hu : UnitOk l) : items l = itemsF ts true false := by
  obtain ⟨la, fr, he, _⟩ := itemsGo_parse hp (Int.le_refl _) hu [] (fun _ => false) (fun i => decide (i = 0)) ht rfl
  unfold items
  rw [he]
  simp [itemsGo]
theorem set_okl {ascii all : Bool} {l : List RN} (h : GoodTree ascii l) {ts : List T} (hp : Parse 0 ((setR all l).map RN.cp) ts []) : OKl ascii ts := by
  have hs := h.set all
  exact okl_parse hp hs.tree (by rw [setR_cp]; exact gaps_set all _) hs.ok
theorem dec_low {c : Int} (h : 1 ≤ c ∧ c < 128) : dec [by8 c] = [c] := by
  have h1 := dec_enc (cs := [c]) (by intro d hd; simp at hd; subst hd; unfold Val0; omega)
  have h2 : enc [c] = [by8 c] := by simp [enc, enc1]; omega
  rw [h2] at h1; exact h1

def signR (k : Int) (c : UInt8) : RIt := ⟨k, 0, [c], -1⟩
theorem signR_cp {k : Int} {c : UInt8} {d : Int} (hk : k ≠ 26) (h : dec [c] = [d]) : (signR k c).cp = ⟨k, 0, [d], -1⟩ := by
  unfold signR RIt.cp
  simp only [It.mk.injEq, true_and, and_true]
  exact ⟨if_neg hk, h⟩
theorem signR_ok {k : Int} {c : UInt8} {d : Int} (hk : k ≠ 26) (h : dec [c] = [d]) (hd : okC d = true) : ItOk (signR k c) := ⟨by show okDec [c] = true; unfold okDec; rw [h]; simp [hd], fun h26 => absurd h26 hk⟩
def nameR (k : Int) (nm : List UInt8) : RIt := ⟨k, 0, nm, -1⟩
theorem nameR_cp {k : Int} {nm : List UInt8} (hk : k ≠ 26) : (nameR k nm).cp = ⟨k, 0, dec nm, -1⟩ := by
  unfold nameR RIt.cp
  simp only [It.mk.injEq, true_and, and_true]
  exact if_neg hk
theorem nameR_ok {k : Int} {nm : List UInt8} (hk : k ≠ 26) (h : okDec nm = true) : ItOk (nameR k nm) := ⟨h, fun h26 => absurd h26 hk⟩
theorem d59 : dec [59] = [59] := dec_low (c := 59) (by omega)
theorem d58 : dec [58] = [58] := dec_low (c := 58) (by omega)
theorem d123 : dec [123] = [123] := dec_low (c := 123) (by omega)
theorem d33 : dec [33] = [33] := dec_low (c := 33) (by omega)

/-! ### At-rules -/
def atR (nm : List UInt8) (l : List RN) : List RIt := nameR 1 nm :: (itemsR l ++ [signR 35 59])
theorem atR_cp (nm : List UInt8) (l : List RN) : (atR nm l).map RIt.cp = atIts (dec nm) (items (l.map RN.cp)) := by
  unfold atR atIts
  rw [List.map_cons, List.map_append, itemsR_cp, nameR_cp (by decide), List.map_cons, List.map_nil, signR_cp (by decide) d59]
theorem atR_ok {ascii : Bool} {nm : List UInt8} {l : List RN} (h : GoodTree ascii l) (hn : okDec nm = true) : ∀ x ∈ atR nm l, ItOk x := by
  intro x hx
  simp only [atR, List.mem_cons, List.mem_append, List.not_mem_nil, or_false] at hx
  rcases hx with rfl | hx | rfl
  · exact nameR_ok (by decide) hn
  · exact itemsR_ok h.node h.low x hx
  · exact signR_ok (by decide) d59 (by decide)
theorem dec_nil_iff {l : List UInt8} (h : isNameB l = true) : dec l ≠ [] ∧ okDec l = true := by
  unfold isNameB at h
  simp only [Bool.and_eq_true, Bool.not_eq_true', List.isEmpty_eq_false_iff] at h
  refine ⟨fun h0 => ?_, h.2⟩
  have := (okDec_val h.2).1
  rw [h0] at this
  exact h.1 this.symm
theorem at_final {ascii mini all : Bool} {l : List RN} (h : GoodTree ascii l) {nm : List UInt8} (hn : isNameB nm = true) (hl : lowB nm ascii = true) {ts : List T} {cl : List Ch}
    (hp : Parse 0 ((setR all l).map RN.cp) ts []) (hpr : Prints ascii ts (headBefore ts) cl) :
    ReadAs true (flat (atCh ascii mini (dec nm) ts cl)) ((atR nm (setR all l)).map RIt.cp) ∧ PlainTxt ascii (flat (atCh ascii mini (dec nm) ts cl)) ∧ ∀ x ∈ atR nm (setR all l), ItOk x := by
  have hok := set_okl h hp
  have hs := h.set all
  obtain ⟨h1, h2⟩ := dec_nil_iff hn
  have hg := low_good h2 hl
  refine ⟨?_, at_plain hg hpr hok, atR_ok hs h2⟩
  rw [atR_cp, parse_items hp hs.tree hs.unit]
  exact chain_readAs true (at_chain h1 hg hpr hok) rfl (at_fits hpr hok)

/-! ### Declarations -/
def declR (key : List UInt8) (l : List RN) (imp semi : Bool) (rest : List RIt) : List RIt :=
  nameR 29 key :: signR 9 58 :: (itemsR l ++ ((if imp then [signR 19 33, nameR 29 [105, 109, 112, 111, 114, 116, 97, 110, 116]] else []) ++ ((if semi then [signR 35 59] else []) ++ rest)))
theorem dec_important : dec [105, 109, 112, 111, 114, 116, 97, 110, 116] = important := by
  have h1 := dec_enc (cs := important) (by intro d hd; simp [important] at hd; unfold Val0; omega)
  have h2 : enc important = [105, 109, 112, 111, 114, 116, 97, 110, 116] := by decide
  rw [h2] at h1; exact h1
theorem declR_cp (key : List UInt8) (l : List RN) (imp semi : Bool) (rest : List RIt) : (declR key l imp semi rest).map RIt.cp = declIts (dec key) (items (l.map RN.cp)) imp semi (rest.map RIt.cp) := by
  unfold declR declIts
  rw [List.map_cons, List.map_cons, List.map_append, List.map_append, List.map_append, itemsR_cp, nameR_cp (by decide), signR_cp (by decide) d58]
  congr 3
  congr 1
  · cases imp
    · rfl
    · simp only [if_true, List.map_cons, List.map_nil, signR_cp (k := 19) (by decide) d33, nameR_cp (k := 29) (by decide), dec_important]
  · congr 1
    cases semi
    · rfl
    · simp only [if_true, List.map_cons, List.map_nil, signR_cp (k := 35) (by decide) d59]
theorem declR_ok {ascii : Bool} {key : List UInt8} {l : List RN} {imp semi : Bool} {rest : List RIt} (h : GoodTree ascii l) (hn : okDec key = true) (hr : ∀ x ∈ rest, ItOk x) : ∀ x ∈ declR key l imp semi rest, ItOk x := by
  intro x hx
  simp only [declR, List.mem_cons, List.mem_append] at hx
  rcases hx with rfl | rfl | hx | hx | hx | hx
  · exact nameR_ok (by decide) hn
  · exact signR_ok (by decide) d58 (by decide)
  · exact itemsR_ok h.node h.low x hx
  · cases imp
    · simp at hx
    · simp only [if_true, List.mem_cons, List.not_mem_nil, or_false] at hx
      rcases hx with rfl | rfl
      · exact signR_ok (by decide) d33 (by decide)
      · exact nameR_ok (by decide) (by unfold okDec; rw [dec_important]; decide)
  · cases semi
    · simp at hx
    · simp only [if_true, List.mem_cons, List.not_mem_nil, or_false] at hx
      subst hx
      exact signR_ok (by decide) d59 (by decide)
  · exact hr x hx
theorem decl_final {ascii all : Bool} {l : List RN} (h : GoodTree ascii l) {key : List UInt8} (hn : isNameB key = true) (hl : lowB key ascii = true) {ts : List T} {cl : List Ch}
    (hp : Parse 0 ((setR all l).map RN.cp) ts []) (hpr : Prints ascii ts (headBefore ts) cl) (mini : Bool) :
    ReadAs true (flat (declCh ascii (dec key) cl false false true (wsIf (!mini) [10]))) ((declR key (setR all l) false true []).map RIt.cp) ∧ PlainTxt ascii (flat (declCh ascii (dec key) cl false false true (wsIf (!mini) [10]))) ∧ ∀ x ∈ declR key (setR all l) false true [], ItOk x := by
  have hok := set_okl h hp
  have hs := h.set all
  obtain ⟨h1, h2⟩ := dec_nil_iff hn
  have hg := low_good h2 hl
  refine ⟨?_, ⟨decl_plain _ _ _ hg hpr hok (wsIf_pv _ blank10), decl_no_bom _ _ _ h1⟩, declR_ok hs h2 (by simp)⟩
  rw [declR_cp, parse_items hp hs.tree hs.unit]
  refine chain_readAs true (decl_chain false false true h1 hg hpr hok (fun _ => rfl) (fun h => by cases h) (fun h => by cases h) ?_) rfl (decl_fits false false true hpr hok (fun s => ?_) _)
  · have := chain_wsIf (b := !mini) blank10 (Chain.nil [])
    simpa using this
  · have : exp (wsIf (!mini) [10]) s = [] := by unfold wsIf; cases mini <;> simp [exp]
    rw [this]; exact .nil
theorem all_after {l : List N} : ∀ {d : Int} {ts : List T} {rest : List N}, Parse d (setL true l) ts rest → ∀ has, ts = [] ∨ endHas ts has = true := by
  intro d ts rest hp
  generalize hL : setL true l = L at hp
  have hall : ∀ n ∈ L, n.after = true := by
    subst hL
    intro n hn
    have : ∀ (l : List N), ∀ n ∈ setL true l, n.after = true := by
      intro l
      induction l with
      | nil => simp [setL]
      | cons a r ih =>
        intro n hn
        simp only [setL, List.mem_cons] at hn
        rcases hn with rfl | hn
        · simp [setAfter]
        · exact ih n hn
    exact this l n hn
  clear hL
  have hmem : ∀ {d : Int} {l : List N} {ts : List T} {rest : List N}, Parse d l ts rest → ∀ x ∈ rest, x ∈ l := by
    intro d l ts rest h
    induction h with
    | nil => exact fun x h => h
    | stop => exact fun x h => h
    | leaf _ _ _ _ _ _ _ _ ih => exact fun x h => List.mem_cons_of_mem _ (ih x h)
    | node _ _ _ _ _ _ _ _ _ _ _ ih1 ih2 => exact fun x h => List.mem_cons_of_mem _ (ih1 x (ih2 x h))
  induction hp with
  | nil => exact fun _ => .inl rfl
  | stop => exact fun _ => .inl rfl
  | leaf d n r ts rest hd ho hp ih =>
    intro has
    right
    have ha := hall n (by simp)
    rcases ts with _ | ⟨t, ts⟩
    · exact ha
    · have := ih (fun x hx => hall x (by simp [hx])) has
      rcases this with h | h
      · cases h
      · exact h
  | node d n r kids r1 ts rest hd ho hp1 hp2 ih1 ih2 =>
    intro has
    right
    have ha := hall n (by simp)
    rcases ts with _ | ⟨t, ts⟩
    · exact ha
    · have := ih2 (fun x hx => hall x (by simp [hmem hp1 x hx])) has
      rcases this with h | h
      · cases h
      · exact h
theorem imp_final {ascii : Bool} {l : List RN} (h : GoodTree ascii l) {key : List UInt8} (hn : isNameB key = true) (hl : lowB key ascii = true) {ts : List T} {cl : List Ch}
    (hp : Parse 0 ((setR true l).map RN.cp) ts []) (hpr : Prints ascii ts (headBefore ts) cl) (mini sp : Bool) :
    ReadAs true (flat (declCh ascii (dec key) cl sp true true (wsIf (!mini) [10]))) ((declR key (setR true l) true true []).map RIt.cp) ∧ PlainTxt ascii (flat (declCh ascii (dec key) cl sp true true (wsIf (!mini) [10]))) ∧ ∀ x ∈ declR key (setR true l) true true [], ItOk x := by
  have hok := set_okl h hp
  have hs := h.set true
  obtain ⟨h1, h2⟩ := dec_nil_iff hn
  have hg := low_good h2 hl
  refine ⟨?_, ⟨decl_plain _ _ _ hg hpr hok (wsIf_pv _ blank10), decl_no_bom _ _ _ h1⟩, declR_ok hs h2 (by simp)⟩
  rw [declR_cp, parse_items hp hs.tree hs.unit]
  have hend := all_after (by rw [setR_cp] at hp; exact hp) (headBefore ts)
  refine chain_readAs true (decl_chain sp true true h1 hg hpr hok (fun h => by cases h) (fun _ => ⟨rfl, hend⟩) (fun h => by cases h) ?_) rfl (decl_fits sp true true hpr hok (fun s => ?_) _)
  · have := chain_wsIf (b := !mini) blank10 (Chain.nil [])
    simpa using this
  · have : exp (wsIf (!mini) [10]) s = [] := by unfold wsIf; cases mini <;> simp [exp]
    rw [this]; exact .nil

/-! ### Rules -/
def ruleR (l : List RN) (key : List UInt8) (v : List RN) (mini : Bool) : List RIt := itemsR l ++ (signR 31 123 :: declR key v false (!mini) [closeR 6])
theorem ruleR_cp (l : List RN) (key : List UInt8) (v : List RN) (mini : Bool) : (ruleR l key v mini).map RIt.cp = ruleIts (items (l.map RN.cp)) (dec key) (items (v.map RN.cp)) mini := by
  unfold ruleR ruleIts
  rw [List.map_append, List.map_cons, itemsR_cp, declR_cp, signR_cp (by decide) d123, List.map_cons, closeR_cp (.inr (.inr rfl))]
  rfl
theorem rule_final {ascii : Bool} {l v : List RN} (h : GoodTree ascii l) (hv : GoodTree ascii v) {key : List UInt8} (hn : isNameB key = true) (hl : lowB key ascii = true) {ts vs : List T} {cl vl : List Ch}
    (hp : Parse 0 ((setR true l).map RN.cp) ts []) (hpr : Prints ascii ts (headBefore ts) cl) (hpv : Parse 0 ((setR true v).map RN.cp) vs []) (hprv : Prints ascii vs (headBefore vs) vl) (mini has : Bool) :
    ReadAs true (flat (ruleCh ascii mini cl has (dec key) vl)) ((ruleR (setR true l) key (setR true v) mini).map RIt.cp) ∧ PlainTxt ascii (flat (ruleCh ascii mini cl has (dec key) vl)) ∧ ∀ x ∈ ruleR (setR true l) key (setR true v) mini, ItOk x := by
  have hok := set_okl h hp
  have hs := h.set true
  have hvok := set_okl hv hpv
  have hvs := hv.set true
  obtain ⟨h1, h2⟩ := dec_nil_iff hn
  have hg := low_good h2 hl
  refine ⟨?_, rule_plain hg hpr hok hprv hvok has, ?_⟩
  · rw [ruleR_cp, parse_items hp hs.tree hs.unit, parse_items hpv hvs.tree hvs.unit]
    exact chain_readAs true (rule_chain h1 hg hpr hok (all_after (by rw [setR_cp] at hp; exact hp) _) hprv hvok has) rfl (rule_fits hpr hok hprv hvok has)
  · intro x hx
    simp only [ruleR, List.mem_append, List.mem_cons] at hx
    rcases hx with hx | rfl | hx
    · exact itemsR_ok hs.node hs.low x hx
    · exact signR_ok (by decide) d123 (by decide)
    · exact declR_ok hvs h2 (by intro x hx; simp at hx; subst hx; exact closeR_ok 6 (.inr (.inr rfl))) x hx
end Css
end Go.Proofs.YtkfdcbdlcipmfaaGreatFmt
/- PLAIN: two prints of one tree have the same tokens. No program in sight. -/
namespace Go.Proofs.YtkfdcbdlcipmfaaGreatFmt
namespace Css

/-- A piece of a tree: a token of it, or what closes one. -/
inductive Pc where
  | tok (t : T)
  | close (k : Int)
def pcs : List T → List Pc
  | [] => []
  | .mk k u x b a kids :: ts => .tok (.mk k u x b a kids) :: ((if opens k then pcs kids ++ [.close k] else []) ++ pcs ts)
def nameLikeK (k : Int) : Prop := k = 29 ∨ k = 27 ∨ k = 1 ∨ k = 28 ∨ k = 36
def FitP (r : Tk × List Int × Bool) : Pc → Prop
  | .tok t => r.1 = tkOf t ∧ IsIt r ⟨t.kind, (t.unit : Int), t.text, -1⟩ ∧ (t.kind = 26 → ∀ c ∈ t.text.take t.unit, c < 128) ∧ ¬ isClose t.kind
  | .close k => r.1 = ⟨closeKind k, 0, []⟩ ∧ r.2.1 = [closer k]
theorem ok1_low {ascii : Bool} {t : T} (h : OK1 ascii t) (h26 : t.kind = 26) : ∀ c ∈ t.text.take t.unit, c < 128 := by
  cases h with
  | name h1 => omega
  | func h1 => omega
  | str h1 => omega
  | num h1 => omega
  | sign h1 => unfold signLike at h1; omega
  | dim h1 hg h2 h3 hl => exact lone_ascii (fun c hc => good_ne hg c (List.mem_of_mem_take hc)) hl (.inl rfl)
theorem ok1_not_close {ascii : Bool} {t : T} (h : OK1 ascii t) : ¬ isClose t.kind := by
  unfold isClose
  cases h with
  | name h1 => omega
  | func h1 => omega
  | str h1 => omega
  | num h1 => omega
  | sign h1 => unfold signLike at h1; omega
  | dim h1 => omega
theorem prints_pcs {ascii : Bool} {ts : List T} {has : Bool} {cl : List Ch} (h : Prints ascii ts has cl) : OKl ascii ts → ∀ sp, All2 FitP (exp cl sp) (pcs ts) := by
  induction h with
  | nil => intro _ sp; simp [exp, pcs]; exact .nil
  | last w hw => intro _ sp; simp [exp, pcs]; exact .nil
  | plain t ts has ws out rest h1 h2 h3 h4 h5 ih =>
    intro hok sp
    cases hok with
    | cons _ _ ht hk hts hadj =>
      obtain ⟨k, u, x, b, a, kids⟩ := t
      have hrest := ih hts false
      have e : exp (ws ++ ⟨some (tkOf (.mk k u x b a kids)), out⟩ :: rest) sp = (tkOf (.mk k u x b a kids), out, sp || has) :: exp rest false := by
        cases has with
        | true => obtain ⟨w, hw, rfl⟩ := h1 rfl; simp [exp]
        | false => rw [h2 rfl]; simp [exp]
      rw [e]
      simp only [pcs]
      rw [if_neg (by exact h3), List.nil_append]
      exact .cons ⟨rfl, isIt_own ht h4 _ _, ok1_low ht, ok1_not_close ht⟩ hrest
  | opened t ts has ws nl out kc rest h1 h2 h3 h4 h5 h6 h7 ih1 ih2 =>
    intro hok sp
    cases hok with
    | cons _ _ ht hk hts hadj =>
      obtain ⟨k, u, x, b, a, kids⟩ := t
      have hrest := ih2 hts false
      have hnl : ∃ sp2, exp (nl ++ (kc ++ ⟨some ⟨closeKind k, 0, []⟩, [closer k]⟩ :: rest)) false = exp kc sp2 ++ (⟨closeKind k, 0, []⟩, [closer k], expSp kc sp2) :: exp rest false := by
        rcases h5 with rfl | ⟨w, hw, rfl⟩
        · exact ⟨false, by rw [List.nil_append, exp_append]; simp [exp]⟩
        · exact ⟨true, by simp only [List.cons_append, List.nil_append, exp]; rw [exp_append]; simp [exp]⟩
      obtain ⟨sp2, hsp2⟩ := hnl
      have hkids := ih1 hk sp2
      have e : exp (ws ++ ⟨some (tkOf (.mk k u x b a kids)), out⟩ :: (nl ++ (kc ++ ⟨some ⟨closeKind k, 0, []⟩, [closer k]⟩ :: rest))) sp = (tkOf (.mk k u x b a kids), out, sp || has) :: (exp kc sp2 ++ (⟨closeKind k, 0, []⟩, [closer k], expSp kc sp2) :: exp rest false) := by
        cases has with
        | true => obtain ⟨w, hw, rfl⟩ := h1 rfl; simp [exp, hsp2]
        | false => rw [h2 rfl]; simp [exp, hsp2]
      show All2 FitP (exp (ws ++ ⟨some (tkOf (.mk k u x b a kids)), out⟩ :: (nl ++ (kc ++ ⟨some ⟨closeKind k, 0, []⟩, [closer k]⟩ :: rest))) sp) _
      rw [e]
      simp only [pcs]
      rw [if_pos (by exact h3)]
      refine .cons ⟨rfl, isIt_own ht h4 _ _, ok1_low ht, ok1_not_close ht⟩ ?_
      rw [List.append_assoc]
      exact hkids.append (.cons ⟨rfl, rfl⟩ hrest)

/-- Two tokens that were read are the same. -/
structure SameTk (r q : Tk × List Int × Bool) : Prop where
  tk : r.1 = q.1
  dim : r.1.kind = 26 → r.1.unit ≤ r.2.1.length ∧ r.1.unit ≤ q.2.1.length ∧ r.2.1.take r.1.unit = q.2.1.take r.1.unit ∧ (∀ c ∈ r.2.1.take r.1.unit, c < 128) ∧ name (r.2.1.drop r.1.unit) = name (q.2.1.drop r.1.unit) ∧ (name (r.2.1.drop r.1.unit)).2 = (false, [])
  rest : ¬ nameLikeK r.1.kind → r.1.kind ≠ 26 → r.2.1 = q.2.1
theorem fitP_same {r q : Tk × List Int × Bool} {p : Pc} (h1 : FitP r p) (h2 : FitP q p) : SameTk r q := by
  cases p with
  | close k =>
    refine ⟨h1.1.trans h2.1.symm, fun h => ?_, fun _ _ => h1.2.trans h2.2.symm⟩
    rw [h1.1] at h
    have := closeKind_close k
    unfold isClose at this
    simp only [] at h; omega
  | tok t =>
    obtain ⟨a1, ⟨b1, b2, b3, b4⟩, c1, n1⟩ := h1
    obtain ⟨a2, ⟨d1, d2, d3, d4⟩, _⟩ := h2
    have e := a1.trans a2.symm
    simp only [] at b1 b2 b3 b4 d1 d2 d3 d4
    refine ⟨e, fun h => ?_, fun h3 h26 => ?_⟩
    · have hk : t.kind = 26 := by rw [← b1]; exact h
      obtain ⟨u1, u2, u3, u4, u5⟩ := b3 hk
      obtain ⟨v1, v2, v3, v4, v5⟩ := d3 hk
      rw [← e] at v1 v2 v3 v4 v5
      have hu : r.1.unit = t.unit := by omega
      refine ⟨u4, v4, u2.trans v2.symm, ?_, u3.trans v3.symm, by rw [u3]⟩
      rw [u2, hu]; exact c1 hk
    · rw [b1] at h3 h26
      unfold nameLikeK at h3
      unfold isClose at n1
      rw [b4 (by omega), d4 (by omega)]
theorem All2.same {α β : Type} {R : α → β → Prop} {S : α → α → Prop} (hS : ∀ x y z, R x z → R y z → S x y) {a b : List α} {c : List β} (h1 : All2 R a c) (h2 : All2 R b c) : All2 S a b := by
  induction h1 generalizing b with
  | nil => cases h2; exact .nil
  | cons h _ ih => cases h2 with | cons h' h2' => exact .cons (hS _ _ _ h h') (ih h2')
/-- The tokens of an at-rule, whatever its form. -/
theorem at_same {a1 a2 m1 m2 : Bool} {nm : List Int} {ts : List T} {cl1 cl2 : List Ch} (h1 : Prints a1 ts (headBefore ts) cl1) (h2 : Prints a2 ts (headBefore ts) cl2) (k1 : OKl a1 ts) (k2 : OKl a2 ts) (hne : nm ≠ []) (g1 : Good a1 nm) (g2 : Good a2 nm) :
    ∃ x y, reads (flat (atCh a1 m1 nm ts cl1)) false = (x, 0, false) ∧ reads (flat (atCh a2 m2 nm ts cl2)) false = (y, 0, false) ∧ All2 SameTk x y := by
  refine ⟨_, _, chain_read (at_chain hne g1 h1 k1), chain_read (at_chain hne g2 h2 k2), ?_⟩
  unfold atCh
  simp only [exp]
  refine .cons ⟨rfl, fun h => by simp at h, fun h => absurd (by simp [nameLikeK]) h⟩ ?_
  rw [exp_wsIf, exp_wsIf, exp_append, exp_append]
  refine (All2.same (R := FitP) (S := SameTk) (fun _ _ _ h h' => fitP_same h h') (prints_pcs h1 k1 _) (prints_pcs h2 k2 _)).append ?_
  simp only [exp]
  have e1 : exp (wsIf (!m1) [10]) false = [] := by unfold wsIf; cases m1 <;> simp [exp]
  have e2 : exp (wsIf (!m2) [10]) false = [] := by unfold wsIf; cases m2 <;> simp [exp]
  rw [e1, e2]
  exact .cons ⟨rfl, fun h => by simp at h, fun _ _ => rfl⟩ .nil
end Css
end Go.Proofs.YtkfdcbdlcipmfaaGreatFmt
/- PLAIN: how much is printed of a tree. No program in sight. -/
namespace Go.Proofs.YtkfdcbdlcipmfaaGreatFmt
namespace Css
theorem escOut_len {E : Nat} {c : Int} {t : List Int} {may : Bool} (hv : Valid c) : (enc (escOut E c t may)).length ≤ 16 := by
  have hl : (hexs c).length ≤ 6 := hexsN_len 5 c.toNat (by unfold Valid at hv; omega)
  have he : (enc (hexs c)).length = (hexs c).length := enc_ascii_len fun d hd => by
    have := hexsN_hex c.toNat d hd; unfold isHex at this; omega
  have hw := wd_pos c
  unfold escOut
  split
  · rw [enc_length_cons]; simp [enc]; omega
  · split
    · rw [enc_length_cons, enc_length_cons]; have := wd_pos 92; simp [enc]; omega
    · rw [enc_length_cons, enc_append, List.length_append, he]
      have := wd_pos 92
      split
      · rw [enc_length_cons]; have := wd_pos 32; simp [enc]; omega
      · simp [enc]; omega
theorem identTail_len {asc may : Bool} {cs : List Int} (hv : ∀ c ∈ cs, Valid c) : (enc (identTail asc may cs)).length ≤ 16 * cs.length := by
  induction cs with
  | nil => simp [identTail, enc]
  | cons c t ih =>
    have h1 := ih fun d hd => hv d (by simp [hd])
    simp only [identTail, enc_append, List.length_append, List.length_cons]
    have := escOut_len (E := charEsc asc 0 c) (t := t) (may := may) (hv c (by simp))
    omega
theorem ident_len {asc may : Bool} {m : Nat} {cs : List Int} (hv : ∀ c ∈ cs, Valid c) : (enc (ident asc may m cs)).length ≤ 16 * cs.length := by
  unfold ident
  cases cs with
  | nil => simp [identOut, enc]
  | cons c t =>
    simp only [identOut, enc_append, List.length_append, List.length_cons]
    have h1 := identTail_len (asc := asc) (may := may) fun d hd => hv d (List.mem_cons_of_mem c hd)
    have := escOut_len (E := charEsc asc (initEsc m (c :: t)) c) (t := t) (may := may) (hv c (by simp))
    omega
theorem enc_len_le (cs : List Int) : (enc cs).length ≤ 4 * cs.length := by
  induction cs with
  | nil => simp [enc]
  | cons c t ih => rw [enc_length_cons, List.length_cons]; have := wd_pos c; omega
theorem len_le_enc (cs : List Int) : cs.length ≤ (enc cs).length := by
  induction cs with
  | nil => simp
  | cons c t ih => rw [enc_length_cons, List.length_cons]; have := wd_pos c; omega
/-- A bound of what is printed of trees. -/
def cost : List T → Nat
  | [] => 0
  | .mk k u x b a kids :: ts => 16 * x.length + 8192 + cost kids + cost ts
theorem cost_cons (t : T) (ts : List T) : cost (t :: ts) = 16 * t.text.length + 8192 + cost t.kids + cost ts := by
  obtain ⟨k, u, x, b, a, kids⟩ := t
  rw [cost]; rfl
def costN (l : List N) : Nat := (l.map fun n => 16 * n.text.length + 8192).sum
theorem parse_cost {d : Int} {l : List N} {ts : List T} {rest : List N} (h : Parse d l ts rest) : cost ts + costN rest ≤ costN l := by
  induction h with
  | nil => simp [cost, costN]
  | stop => simp [cost]
  | leaf d n r ts rest hd ho hp ih =>
    rw [cost_cons]
    simp only [T.text, T.kids, cost]
    unfold costN at ih ⊢
    simp only [List.map_cons, List.sum_cons]
    omega
  | node d n r kids r1 ts rest hd ho hp1 hp2 ih1 ih2 =>
    rw [cost_cons]
    simp only [T.text, T.kids]
    unfold costN at ih1 ih2 ⊢
    simp only [List.map_cons, List.sum_cons]
    omega
end Css
end Go.Proofs.YtkfdcbdlcipmfaaGreatFmt
/- PLAIN: two prints of trees with two blanks between are a print of both. No program in sight. -/
namespace Go.Proofs.YtkfdcbdlcipmfaaGreatFmt
namespace Css
def Sp01 (s : List Int) : Prop := s = [] ∨ s = [32]
theorem escOut_may (E : Nat) (c : Int) (t : List Int) : ∃ s, Sp01 s ∧ escOut E c t true = escOut E c t false ++ s ∧ (t ≠ [] → s = []) := by
  cases t with
  | cons d t => exact ⟨[], .inl rfl, by simp [escOut, wantSp], fun _ => rfl⟩
  | nil =>
    unfold escOut
    simp only [wantSp, Bool.and_true, Bool.and_false, Bool.false_eq_true, if_false]
    split
    · exact ⟨[], .inl rfl, by simp, fun _ => rfl⟩
    split
    · exact ⟨[], .inl rfl, by simp, fun _ => rfl⟩
    · split
      · exact ⟨[32], .inr rfl, by simp, fun h => absurd rfl h⟩
      · exact ⟨[], .inl rfl, by simp, fun _ => rfl⟩
theorem identTail_may (asc : Bool) (cs : List Int) : ∃ s, Sp01 s ∧ identTail asc true cs = identTail asc false cs ++ s := by
  induction cs with
  | nil => exact ⟨[], .inl rfl, rfl⟩
  | cons c t ih =>
    obtain ⟨s, h1, h2⟩ := ih
    obtain ⟨s', h3, h4, h5⟩ := escOut_may (charEsc asc 0 c) c t
    simp only [identTail, h2, h4]
    cases t with
    | nil =>
      simp only [identTail, List.nil_append, List.append_nil] at h2 ⊢
      exact ⟨s' ++ s, by rw [← h2]; simpa using h3, by simp⟩
    | cons d t => rw [h5 (by simp)]; exact ⟨s, h1, by simp⟩
theorem ident_may (asc : Bool) (m : Nat) (cs : List Int) : ∃ s, Sp01 s ∧ ident asc true m cs = ident asc false m cs ++ s := by
  unfold ident
  cases cs with
  | nil => exact ⟨[], .inl rfl, rfl⟩
  | cons c t =>
    obtain ⟨s, h1, h2⟩ := identTail_may asc t
    obtain ⟨s', h3, h4, h5⟩ := escOut_may (charEsc asc (initEsc m (c :: t)) c) c t
    simp only [identOut, h2, h4]
    cases t with
    | nil =>
      simp only [identTail, List.nil_append, List.append_nil] at h2 ⊢
      exact ⟨s' ++ s, by rw [← h2]; simpa using h3, by simp⟩
    | cons d t => rw [h5 (by simp)]; exact ⟨s, h1, by simp⟩
def T.setA : T → T | .mk k u x b a kids => .mk k u x b true kids
theorem setA_kind (t : T) : t.setA.kind = t.kind := by cases t; rfl
theorem setA_before (t : T) : t.setA.before = t.before := by cases t; rfl
theorem setA_after (t : T) : t.setA.after = true := by cases t; rfl
theorem setA_kids (t : T) : t.setA.kids = t.kids := by cases t; rfl
theorem setA_tk (t : T) : tkOf t.setA = tkOf t := by cases t; rfl
theorem own_setA {asc : Bool} {t : T} {out : List Int} (h : Own asc false t out) : ∃ s, Sp01 s ∧ Own asc true t.setA (out ++ s) := by
  obtain ⟨k, u, x, b, a, kids⟩ := t
  cases h with
  | ident h => obtain ⟨s, h1, h2⟩ := ident_may asc 0 x; exact ⟨s, h1, by show Own asc true _ (ident asc false 0 x ++ s); rw [← h2]; exact .ident h⟩
  | func m h => exact ⟨[], .inl rfl, by rw [List.append_nil]; exact .func m h⟩
  | dim h =>
    obtain ⟨s, h1, h2⟩ := ident_may asc (unitMode (x.take u)) (x.drop u)
    refine ⟨s, h1, ?_⟩
    show Own asc true _ (x.take u ++ ident asc false (unitMode (x.take u)) (x.drop u) ++ s)
    rw [List.append_assoc, ← h2]; exact .dim h
  | atk h => obtain ⟨s, h1, h2⟩ := ident_may asc 0 x; exact ⟨s, h1, by show Own asc true _ (64 :: (ident asc false 0 x ++ s)); rw [← h2]; exact .atk h⟩
  | hash h => obtain ⟨s, h1, h2⟩ := ident_may asc 1 x; exact ⟨s, h1, by show Own asc true _ (35 :: (ident asc false 1 x ++ s)); rw [← h2]; exact .hash h⟩
  | str q o h1 h2 h3 => exact ⟨[], .inl rfl, by rw [List.append_nil]; exact .str q o h1 h2 h3⟩
  | plain h1 h2 h3 h4 h5 h6 => exact ⟨[], .inl rfl, by rw [List.append_nil]; exact .plain h1 h2 h3 h4 h5 h6⟩
/-- What a token that opens prints does not hang on what follows. -/
theorem own_opens {asc may : Bool} {t : T} {out : List Int} (h : Own asc may t out) (ho : opens t.kind) : Own asc true t.setA out := by
  obtain ⟨k, u, x, b, a, kids⟩ := t
  unfold opens at ho
  simp only [T.kind] at ho
  cases h with
  | ident h | dim h | atk h | hash h => simp only [T.kind] at h; omega
  | str q o h => simp only [T.kind] at h; omega
  | func m h => exact .func m h
  | plain h1 h2 h3 h4 h5 h6 => exact .plain h1 h2 h3 h4 h5 h6
def joinA : List T → List T → List T
  | [], vs => vs
  | [t], vs => t.setA :: vs
  | t :: u :: ts, vs => t :: joinA (u :: ts) vs
theorem joinA_head (t : T) (ts vs : List T) : headBefore (joinA (t :: ts) vs) = t.before := by
  cases ts with
  | nil => exact setA_before t
  | cons u us => rfl
def lastA : List T → Bool
  | [] => true
  | [t] => t.after
  | _ :: u :: ts => lastA (u :: ts)
theorem prints_spaced {asc : Bool} {us : List T} {cl : List Ch} (h : Prints asc us false cl) {w : List Int} (hw : Blank w) : Prints asc us true (⟨none, w⟩ :: cl) := by
  cases h with
  | nil => exact .last w hw
  | plain t ts _ ws out rest h1 h2 h3 h4 h5 =>
    rw [h2 rfl]
    exact .plain t ts true [⟨none, w⟩] out rest (fun _ => ⟨w, hw, rfl⟩) (fun h => by cases h) h3 h4 h5
  | opened t ts _ ws nl out kc rest h1 h2 h3 h4 h5 h6 h7 =>
    rw [h2 rfl]
    exact .opened t ts true [⟨none, w⟩] nl out kc rest (fun _ => ⟨w, hw, rfl⟩) (fun h => by cases h) h3 h4 h5 h6 h7
theorem blank_rest {s : List Int} (h : Sp01 s) : ∃ w, Blank w ∧ s ++ w = [32, 32] := by
  rcases h with rfl | rfl
  · exact ⟨[32, 32], ⟨by simp, by simp⟩, rfl⟩
  · exact ⟨[32], ⟨by simp, by simp⟩, rfl⟩
theorem prints_join {asc : Bool} {ts : List T} {has : Bool} {cl : List Ch} (h : Prints asc ts has cl) {vs : List T} {vl : List Ch} (hv : Prints asc vs false vl) (hb : headBefore vs = false) :
    lastA ts = false → ∃ cl2, Prints asc (joinA ts vs) has cl2 ∧ flat cl2 = flat cl ++ (32 :: 32 :: flat vl) := by
  induction h with
  | nil => intro h; cases h
  | last w hw => intro h; cases h
  | plain t ts has ws out rest h1 h2 h3 h4 h5 ih =>
    intro hl
    cases ts with
    | nil =>
      have ha : t.after = false := hl
      rw [ha] at h4 h5
      have hr : rest = [] := by cases h5; rfl
      subst hr
      obtain ⟨s, hs, ho⟩ := own_setA h4
      obtain ⟨w, hw, hsw⟩ := blank_rest hs
      refine ⟨ws ++ ⟨some (tkOf t.setA), out ++ s⟩ :: (⟨none, w⟩ :: vl), ?_, ?_⟩
      · refine .plain t.setA vs has ws (out ++ s) _ h1 h2 (by rw [setA_kind]; exact h3) ?_ ?_
        · rw [setA_after, Bool.true_or]; exact ho
        · rw [setA_after, Bool.true_or]; exact prints_spaced hv hw
      · simp only [flat_append, flat_cons, List.append_assoc]
        congr 2
        have : flat ([] : List Ch) = [] := rfl
        rw [this, List.nil_append, ← List.append_assoc, hsw]; rfl
    | cons u us =>
      obtain ⟨cl2, hp, hf⟩ := ih hl
      refine ⟨ws ++ ⟨some (tkOf t), out⟩ :: cl2, ?_, ?_⟩
      · refine .plain t (joinA (u :: us) vs) has ws out cl2 h1 h2 h3 ?_ ?_
        · rw [joinA_head]; exact h4
        · rw [joinA_head]; exact hp
      · simp only [flat_append, flat_cons, List.append_assoc, hf]
  | opened t ts has ws nl out kc rest h1 h2 h3 h4 h5 h6 h7 ih1 ih2 =>
    intro hl
    cases ts with
    | nil =>
      have ha : t.after = false := hl
      rw [ha] at h4 h7
      have hr : rest = [] := by cases h7; rfl
      subst hr
      refine ⟨ws ++ ⟨some (tkOf t.setA), out⟩ :: (nl ++ (kc ++ ⟨some ⟨closeKind t.setA.kind, 0, []⟩, [closer t.setA.kind]⟩ :: (⟨none, [32, 32]⟩ :: vl))), ?_, ?_⟩
      · refine .opened t.setA vs has ws nl out kc _ h1 h2 (by rw [setA_kind]; exact h3) ?_ h5 (by rw [setA_kids]; exact h6) ?_
        · rw [setA_after, Bool.true_or]; exact own_opens h4 h3
        · rw [setA_after, Bool.true_or]; exact prints_spaced hv ⟨by simp, by simp⟩
      · rw [setA_kind]
        simp only [flat_append, flat_cons, List.append_assoc]
        have : flat ([] : List Ch) = [] := rfl
        rw [this]
        simp
    | cons u us =>
      obtain ⟨cl2, hp, hf⟩ := ih2 hl
      refine ⟨ws ++ ⟨some (tkOf t), out⟩ :: (nl ++ (kc ++ ⟨some ⟨closeKind t.kind, 0, []⟩, [closer t.kind]⟩ :: cl2)), ?_, ?_⟩
      · refine .opened t (joinA (u :: us) vs) has ws nl out kc cl2 h1 h2 h3 ?_ h5 h6 ?_
        · rw [joinA_head]; exact h4
        · rw [joinA_head]; exact hp
      · simp only [flat_append, flat_cons, List.append_assoc, hf]
end Css
end Go.Proofs.YtkfdcbdlcipmfaaGreatFmt
/- PLAIN: the trees of two lists of nodes, one behind the other. No program in sight. -/
namespace Go.Proofs.YtkfdcbdlcipmfaaGreatFmt
namespace Css
def Low (d : Int) (l : List N) : Prop := ∀ n r, l = n :: r → n.depth < d
/-- What a parse takes; what stands behind it is of no matter. -/
theorem parse_split {d : Int} {l : List N} {ts : List T} {rest : List N} (h : Parse d l ts rest) : ∃ k, l = k ++ rest ∧ (∀ n ∈ k, d ≤ n.depth) ∧ ∀ rest', Low d rest' → Parse d (k ++ rest') ts rest' := by
  induction h with
  | nil d =>
    refine ⟨[], rfl, by simp, fun rest' hl => ?_⟩
    cases rest' with
    | nil => exact .nil d
    | cons n r => exact .stop d n r (hl n r rfl)
  | stop d n r hd =>
    refine ⟨[], rfl, by simp, fun rest' hl => ?_⟩
    cases rest' with
    | nil => exact .nil d
    | cons n r => exact .stop d n r (hl n r rfl)
  | leaf d n r ts rest hd ho hp ih =>
    obtain ⟨k, e, hk, hf⟩ := ih
    refine ⟨n :: k, by rw [e]; rfl, ?_, fun rest' hl => .leaf d n (k ++ rest') ts rest' hd ho (hf rest' hl)⟩
    intro m hm
    rw [List.mem_cons] at hm
    rcases hm with rfl | hm
    · omega
    · exact hk m hm
  | node d n r kids r1 ts rest hd ho hp1 hp2 ih1 ih2 =>
    obtain ⟨k1, e1, hk1, hf1⟩ := ih1
    obtain ⟨k2, e2, hk2, hf2⟩ := ih2
    refine ⟨n :: (k1 ++ k2), by rw [e1, e2]; simp, ?_, fun rest' hl => ?_⟩
    · intro m hm
      rw [List.mem_cons, List.mem_append] at hm
      rcases hm with rfl | hm | hm
      · omega
      · have := hk1 m hm; omega
      · exact hk2 m hm
    · have h2 := hf2 rest' hl
      have hlow : Low (n.depth + 1) (k2 ++ rest') := by
        intro x y e
        have hr := (parse_rest hp1).1
        cases k2 with
        | nil =>
          have := hl x y (by simpa using e); omega
        | cons z zs =>
          have h3 := hr z (zs ++ rest) (by rw [e2]; rfl)
          simp only [List.cons_append, List.cons.injEq] at e
          rw [← e.1]; exact h3
      have h1 := hf1 (k2 ++ rest') hlow
      rw [← List.append_assoc] at h1
      exact .node d n (k1 ++ k2 ++ rest') kids (k2 ++ rest') ts rest' hd ho h1 h2
/-- Nodes behind nodes at the same depth. -/
theorem parse_append {d : Int} {a b : List N} {ts us : List T} (h : Parse d a ts []) (hb : Parse d b us []) (hlow : ∀ n r, b = n :: r → n.depth ≤ d) : Parse d (a ++ b) (ts ++ us) [] := by
  generalize e : ([] : List N) = rest at h
  induction h with
  | nil d => exact e ▸ hb
  | stop d n r hd => cases e
  | leaf d n r ts rest hd ho hp ih => subst e; exact .leaf d n (r ++ b) (ts ++ us) [] hd ho (ih hb hlow rfl)
  | node d n r kids r1 ts rest hd ho hp1 hp2 ih1 ih2 =>
    obtain ⟨k1, e1, hk1, hf1⟩ := parse_split hp1
    subst e1
    subst e
    have h2 := ih2 hb hlow rfl
    have hl : Low (n.depth + 1) (r1 ++ b) := by
      intro x y e'
      cases r1 with
      | nil => have := hlow x y (by simpa using e'); omega
      | cons z zs =>
        have := (parse_rest hp1).1 z zs rfl
        simp only [List.cons_append, List.cons.injEq] at e'
        rw [← e'.1]; exact this
    have h1 := hf1 (r1 ++ b) hl
    have := Parse.node d n (k1 ++ (r1 ++ b)) kids (r1 ++ b) (ts ++ us) [] hd ho h1 h2
    simpa using this
theorem parse_det {d : Int} {l : List N} {ts us : List T} {r1 r2 : List N} (h : Parse d l ts r1) (h' : Parse d l us r2) : ts = us ∧ r1 = r2 := by
  induction h generalizing us r2 with
  | nil => cases h'; exact ⟨rfl, rfl⟩
  | stop d n r hd =>
    cases h' with
    | stop => exact ⟨rfl, rfl⟩
    | leaf _ _ _ _ _ h => exact absurd hd h
    | node _ _ _ _ _ _ _ h => exact absurd hd h
  | leaf d n r ts rest hd ho hp ih =>
    cases h' with
    | stop _ _ _ h => exact absurd h hd
    | leaf _ _ _ ts' _ _ _ h => obtain ⟨rfl, rfl⟩ := ih h; exact ⟨rfl, rfl⟩
    | node _ _ _ _ _ _ _ _ h => exact absurd h ho
  | node d n r kids r1 ts rest hd ho hp1 hp2 ih1 ih2 =>
    cases h' with
    | stop _ _ _ h => exact absurd h hd
    | leaf _ _ _ _ _ _ h => exact absurd ho h
    | node _ _ _ kids' r1' ts' _ _ _ h1 h2 =>
      obtain ⟨rfl, rfl⟩ := ih1 h1
      obtain ⟨rfl, rfl⟩ := ih2 h2
      exact ⟨rfl, rfl⟩
def T.setB (x : Bool) : T → T | .mk k u t b _ kids => .mk k u t b x kids
def lastSet (x : Bool) : List T → List T
  | [] => []
  | [t] => [t.setB x]
  | t :: u :: ts => t :: lastSet x (u :: ts)
theorem joinA_eq (ts vs : List T) : joinA ts vs = lastSet true ts ++ vs := by
  induction ts with
  | nil => rfl
  | cons t ts ih =>
    cases ts with
    | nil => cases t; rfl
    | cons u us => simp only [joinA, lastSet, List.cons_append]; rw [ih]
theorem lastA_set (t : T) (ts : List T) (x : Bool) : lastA (lastSet x (t :: ts)) = x := by
  induction ts generalizing t with
  | nil => cases t; rfl
  | cons u us ih =>
    have := ih u
    cases us with
    | nil => cases u; rfl
    | cons v vs => exact this
/-- The last node at the top, with whitespace behind it or not. -/
def endSet (x : Bool) : List N → List N
  | [] => []
  | n :: r => if r.any (fun m => decide (m.depth ≤ 0)) then n :: endSet x r else if n.depth ≤ 0 then setAfter n x :: r else n :: r
theorem endSet_append (x : Bool) (k r : List N) (h : r.any (fun m => decide (m.depth ≤ 0)) = true) : endSet x (k ++ r) = k ++ endSet x r := by
  induction k with
  | nil => rfl
  | cons n k ih =>
    rw [List.cons_append, endSet, if_pos (by rw [List.any_append, h, Bool.or_true]), ih]; rfl
theorem endSet_low (x : Bool) {l : List N} (h : ∀ n r, l = n :: r → n.depth ≤ 0) : ∀ n r, endSet x l = n :: r → n.depth ≤ 0 := by
  intro n r e
  cases l with
  | nil => cases e
  | cons m s =>
    have hm := h m s rfl
    rw [endSet] at e
    split at e
    · injection e with e _; rw [← e]; exact hm
    · skip
      injection e with e _; rw [← e]; exact hm
theorem parse_endSet (x : Bool) {l : List N} {ts : List T} (h : Parse 0 l ts []) : (∃ m, Tree m l ∧ m ≤ 0) → Parse 0 (endSet x l) (lastSet x ts) [] := by
  generalize e : ([] : List N) = rest at h
  generalize e0 : (0 : Int) = d at h
  induction h with
  | nil d => intro _; subst e0; exact .nil 0
  | stop d n r hd => cases e
  | leaf d n r ts rest hd ho hp ih =>
    subst e0
    rintro ⟨m, ht, hm⟩
    have hd0 : n.depth ≤ 0 := by have := ht.2.1; omega
    have ht2 := ht.2.2
    rw [if_neg ho] at ht2
    have ih' := ih e rfl ⟨_, ht2, hd0⟩
    cases r with
    | nil =>
      cases hp
      simp only [endSet, lastSet]
      rw [if_neg (by simp), if_pos hd0]
      exact .leaf 0 (setAfter n x) [] [] [] hd ho (.nil 0)
    | cons p q =>
      have hp0 : p.depth ≤ 0 := by have := ht2.2.1; omega
      rw [endSet, if_pos (by simp [hp0])]
      cases ts with
      | nil =>
        cases hp with
        | stop _ _ _ h => have := ht2.1; omega
      | cons u us => exact .leaf 0 n _ _ _ hd ho ih'
  | node d n r kids r1 ts rest hd ho hp1 hp2 ih1 ih2 =>
    subst e0
    rintro ⟨m, ht, hm⟩
    have hd0 : n.depth ≤ 0 := by have := ht.2.1; omega
    have hn0 : n.depth = 0 := by have := ht.1; omega
    have ht2 := ht.2.2
    rw [if_pos ho] at ht2
    obtain ⟨k1, e1, hk1, hf1⟩ := parse_split hp1
    obtain ⟨hr, htr⟩ := parse_rest hp1
    obtain ⟨m', ht3⟩ := htr _ ht2
    subst e1
    have hno : ∀ l : List N, (∀ n ∈ l, 1 ≤ n.depth) → l.any (fun m => decide (m.depth ≤ 0)) = false := by
      intro l h
      rw [List.any_eq_false]
      intro y hy
      have := h y hy
      simp; omega
    have hk0 : ∀ y ∈ k1, 1 ≤ y.depth := fun y hy => by have := hk1 y hy; omega
    cases r1 with
    | nil =>
      cases hp2
      rw [endSet, if_neg (by rw [List.append_nil, hno k1 hk0]; simp), if_pos hd0]
      simp only [lastSet]
      exact .node 0 (setAfter n x) _ kids [] [] [] hd ho hp1 (.nil 0)
    | cons p q =>
      have hp0 : p.depth ≤ 0 := by have := hr p q rfl; omega
      have hany : (p :: q).any (fun m => decide (m.depth ≤ 0)) = true := by simp [hp0]
      rw [endSet, if_pos (by rw [List.any_append, hany, Bool.or_true]), endSet_append x k1 _ hany]
      have ht4 : Tree 0 (p :: q) := ht3.any (fun n r e => by cases e; exact hp0)
      have ih' := ih2 e rfl ⟨0, ht4, Int.le_refl _⟩
      cases ts with
      | nil =>
        cases hp2 with
        | stop _ _ _ h => have := ht4.1; omega
      | cons u us =>
        refine .node 0 n _ kids (endSet x (p :: q)) _ _ hd ho (hf1 _ ?_) ih'
        intro y z ey
        have := endSet_low x (l := p :: q) (fun n r e => by cases e; exact hp0) y z ey
        omega
end Css
end Go.Proofs.YtkfdcbdlcipmfaaGreatFmt
/- PLAIN: two trees of the statements, one behind the other. No program in sight. -/
namespace Go.Proofs.YtkfdcbdlcipmfaaGreatFmt
namespace Css
def afterR (x : Bool) (n : RN) : RN := { n with after := x }
def noBefore : List RN → List RN
  | [] => []
  | n :: r => { n with before := false } :: r
def endSetR (x : Bool) : List RN → List RN
  | [] => []
  | n :: r => if r.any (fun m => decide (m.depth ≤ 0)) then n :: endSetR x r else if n.depth ≤ 0 then afterR x n :: r else n :: r
theorem endSetR_cp (x : Bool) (l : List RN) : (endSetR x l).map RN.cp = endSet x (l.map RN.cp) := by
  induction l with
  | nil => rfl
  | cons n r ih =>
    have e : (r.map RN.cp).any (fun m => decide (m.depth ≤ 0)) = r.any (fun m => decide (m.depth ≤ 0)) := by rw [List.any_map]; rfl
    simp only [endSetR, List.map_cons, endSet, e]
    split
    · rw [List.map_cons, ih]
    · show List.map RN.cp (if n.depth ≤ 0 then _ else _) = if n.depth ≤ 0 then _ else _
      split <;> rfl
theorem endSetR_len (x : Bool) (l : List RN) : (endSetR x l).length = l.length := by
  induction l with
  | nil => rfl
  | cons n r ih => simp only [endSetR]; split; simp [ih]; split <;> simp
theorem endSetR_at (x : Bool) : ∀ (l : List RN) (e : Nat) (n : RN), l[e]? = some n → n.depth ≤ 0 → (∀ j m, e < j → l[j]? = some m → ¬ m.depth ≤ 0) → endSetR x l = l.set e (afterR x n) := by
  intro l
  induction l with
  | nil => intro e n h; simp at h
  | cons a r ih =>
    intro e n h hn hr
    cases e with
    | zero =>
      simp only [List.getElem?_cons_zero, Option.some.injEq] at h
      subst h
      rw [endSetR, if_neg, if_pos hn]; rfl
      rw [Bool.not_eq_true, List.any_eq_false]
      intro m hm
      obtain ⟨j, hj, rfl⟩ := List.getElem_of_mem hm
      have := hr (j + 1) r[j] (by omega) (by simp [hj])
      simp; omega
    | succ e =>
      rw [List.getElem?_cons_succ] at h
      rw [endSetR, if_pos, ih e n h hn (fun j m hj hm => hr (j + 1) m (by omega) (by simpa using hm))]; rfl
      rw [List.any_eq_true]
      exact ⟨n, List.mem_of_getElem? h, by simpa using hn⟩
theorem endSetR_mem {x : Bool} {l : List RN} {y : RN} (h : y ∈ endSetR x l) : ∃ n ∈ l, y = n ∨ y = afterR x n := by
  induction l with
  | nil => cases h
  | cons a r ih =>
    rw [endSetR] at h
    split at h
    · rw [List.mem_cons] at h
      rcases h with rfl | h
      · exact ⟨_, by simp, .inl rfl⟩
      · obtain ⟨n, hn, e⟩ := ih h; exact ⟨n, by simp [hn], e⟩
    · split at h
      · rw [List.mem_cons] at h
        rcases h with rfl | h
        · exact ⟨a, by simp, .inr rfl⟩
        · exact ⟨y, by simp [h], .inl rfl⟩
      · exact ⟨y, h, .inl rfl⟩
theorem tree_endSet (x : Bool) (l : List N) : ∀ m, Tree m l → Tree m (endSet x l) := by
  induction l with
  | nil => intro m h; exact h
  | cons n r ih =>
    intro m h
    rw [endSet]
    split
    · exact ⟨h.1, h.2.1, ih _ h.2.2⟩
    · split
      · exact ⟨h.1, h.2.1, h.2.2⟩
      · exact h
theorem GoodTree.end {ascii : Bool} {l : List RN} (h : GoodTree ascii l) (x : Bool) : GoodTree ascii (endSetR x l) := by
  refine ⟨by rw [endSetR_cp]; exact tree_endSet x _ _ h.tree, fun y hy => ?_, fun y hy => ?_⟩
  · obtain ⟨n, hn, rfl | rfl⟩ := endSetR_mem hy
    · exact h.node _ hn
    · exact h.node n hn
  · obtain ⟨n, hn, rfl | rfl⟩ := endSetR_mem hy
    · exact h.low _ hn
    · exact h.low n hn
theorem noBefore_mem {l : List RN} {y : RN} (h : y ∈ noBefore l) : ∃ n ∈ l, y = n ∨ y = { n with before := false } := by
  cases l with
  | nil => cases h
  | cons a r =>
    simp only [noBefore, List.mem_cons] at h
    rcases h with rfl | h
    · exact ⟨a, by simp, .inr rfl⟩
    · exact ⟨y, by simp [h], .inl rfl⟩
theorem GoodTree.noBefore {ascii : Bool} {l : List RN} (h : GoodTree ascii l) : GoodTree ascii (noBefore l) := by
  refine ⟨?_, fun y hy => ?_, fun y hy => ?_⟩
  · cases l with
    | nil => exact h.tree
    | cons a r => exact h.tree
  · obtain ⟨n, hn, rfl | rfl⟩ := noBefore_mem hy
    · exact h.node _ hn
    · exact h.node n hn
  · obtain ⟨n, hn, rfl | rfl⟩ := noBefore_mem hy
    · exact h.low _ hn
    · exact h.low n hn
theorem tree_append {a b : List N} : ∀ m, Tree m a → (∀ n r, b = n :: r → n.depth ≤ 0) → Tree 0 b → 0 ≤ m → Tree m (a ++ b) := by
  induction a with
  | nil => intro m _ hb ht hm; exact ht.any fun n r e => by have := hb n r e; omega
  | cons n r ih =>
    intro m h hb ht hm
    refine ⟨h.1, h.2.1, ih _ h.2.2 hb ht ?_⟩
    have := h.1
    split <;> omega
theorem GoodTree.append {ascii : Bool} {a b : List RN} (h : GoodTree ascii a) (hb : GoodTree ascii b) : GoodTree ascii (a ++ b) := by
  refine ⟨?_, fun y hy => ?_, fun y hy => ?_⟩
  · rw [List.map_append]
    refine tree_append 0 h.tree (fun n r e => ?_) hb.tree (Int.le_refl _)
    have := hb.tree; rw [e] at this; exact this.2.1
  · rw [List.mem_append] at hy
    exact hy.elim (h.node y) (hb.node y)
  · rw [List.mem_append] at hy
    exact hy.elim (h.low y) (hb.low y)
theorem gaps_join {l b : List N} : (∀ n r, b = n :: r → n.depth ≤ 0) → (∀ n ∈ l, 0 ≤ n.depth) → Gaps l → Gaps b → Gaps (endSet true l ++ b) := by
  intro hb
  induction l with
  | nil => intro _ _ h; exact h
  | cons n r ih =>
    intro h0 hl hgb
    have h0r : ∀ m ∈ r, 0 ≤ m.depth := fun m hm => h0 m (by simp [hm])
    rw [endSet]
    split
    · rename_i hany
      refine ⟨?_, ih h0r hl.2 hgb⟩
      intro m r' e ho hd ha
      cases r with
      | nil => simp at hany
      | cons p q =>
        have hp := hl.1 p q rfl ho
        have : m.depth = p.depth ∧ m.kind = p.kind ∧ m.text = p.text ∧ m.before = p.before := by
          rw [endSet] at e
          by_cases c1 : (q.any fun m => decide (m.depth ≤ 0)) = true
          · rw [if_pos c1] at e
            injection (show p :: (endSet true q ++ b) = m :: r' from e) with e _
            rw [← e]; exact ⟨rfl, rfl, rfl, rfl⟩
          · rw [if_neg c1] at e
            by_cases c2 : p.depth ≤ 0
            · rw [if_pos c2] at e
              injection (show setAfter p true :: (q ++ b) = m :: r' from e) with e _
              rw [← e]; exact ⟨rfl, rfl, rfl, rfl⟩
            · rw [if_neg c2] at e
              injection (show p :: (q ++ b) = m :: r' from e) with e _
              rw [← e]; exact ⟨rfl, rfl, rfl, rfl⟩
        obtain ⟨e1, e2, e3, e4⟩ := this
        rw [e4]
        exact hp (by omega) (apart_texts (a := tOf n) (a' := tOf n) (b := tOf m) (b' := tOf p) rfl rfl e2 e3 ha)
    · rename_i hany
      have htail : ∀ m ∈ r, ¬ m.depth ≤ 0 := by
        intro m hm h
        exact hany (List.any_eq_true.2 ⟨m, hm, by simpa using h⟩)
      have hrest : ∀ (s : List N), (∀ m ∈ s, ¬ m.depth ≤ 0) → Gaps s → Gaps (s ++ b) := by
        intro s
        induction s with
        | nil => intro _ _; exact hgb
        | cons x s ih2 =>
          intro hx hs
          refine ⟨?_, ih2 (fun m hm => hx m (by simp [hm])) hs.2⟩
          intro m r' e ho hd ha
          cases s with
          | nil =>
            have h1 := hb m r' e
            have h2 := hx x (by simp)
            omega
          | cons y s =>
            injection (show y :: (s ++ b) = m :: r' from e) with e _
            exact hs.1 m s (by rw [e]) ho hd ha
      split
      · refine ⟨fun m r' e ho hd ha => by simp [setAfter], hrest r htail hl.2⟩
      · rename_i hn
        exact hrest (n :: r) (by intro m hm; rw [List.mem_cons] at hm; rcases hm with rfl | hm; exact hn; exact htail m hm) hl
theorem gaps_noBefore {l : List RN} (h : Gaps (l.map RN.cp)) : Gaps ((noBefore l).map RN.cp) := by
  cases l with
  | nil => exact h
  | cons n r => exact ⟨fun m r' e ho hd ha => h.1 m r' e ho hd (apart_texts rfl rfl rfl rfl ha), h.2⟩
theorem tree_nonneg {l : List N} : ∀ {m : Int}, Tree m l → ∀ n ∈ l, 0 ≤ n.depth := by
  induction l with
  | nil => intro m _ n hn; cases hn
  | cons a r ih =>
    intro m h n hn
    rw [List.mem_cons] at hn
    rcases hn with rfl | hn
    · exact h.1
    · exact ih h.2.2 n hn
theorem endSet_twice (x y : Bool) (l : List N) : endSet x (endSet y l) = endSet x l := by
  induction l with
  | nil => rfl
  | cons n r ih =>
    have hany : ∀ (l : List N), (endSet y l).any (fun m => decide (m.depth ≤ 0)) = l.any (fun m => decide (m.depth ≤ 0)) := by
      intro l
      induction l with
      | nil => rfl
      | cons n r ih =>
        rw [endSet]
        split
        · simp [ih]
        · split
          · simp [setAfter]
          · rfl
    rw [endSet]
    split
    · rename_i h
      rw [endSet, hany, if_pos h, ih, endSet, if_pos h]
    · rename_i h
      split
      · rename_i hn
        rw [endSet, if_neg h, if_pos (by exact hn), endSet, if_neg h, if_pos hn]; rfl
      · rfl
theorem head_noBefore (l : List RN) {us : List T} (h : Parse 0 ((noBefore l).map RN.cp) us []) : headBefore us = false := by
  cases us with
  | nil => rfl
  | cons u us =>
    obtain ⟨n, r, e, _, _, _, h3⟩ := parse_head h rfl
    show u.before = false
    rw [h3]
    cases l with
    | nil => simp [noBefore] at e
    | cons a s => simp only [noBefore, List.map_cons, List.cons.injEq] at e; rw [← e.1]; rfl
/-- THE PIECES: a print of the one, two blanks, a print of the other are a print of both. -/
theorem pieces {ascii : Bool} {A B : List RN} (hA : GoodTree ascii A) (hB : GoodTree ascii B) (hne : A ≠ []) {ta tb tz : List T} {ca cb cz : List Ch}
    (ha : Parse 0 ((endSetR false (setR false A)).map RN.cp) ta []) (hb : Parse 0 ((noBefore (setR false B)).map RN.cp) tb [])
    (hz : Parse 0 ((endSetR true (endSetR false (setR false A)) ++ noBefore (setR false B)).map RN.cp) tz [])
    (pa : Prints ascii ta (headBefore ta) ca) (pb : Prints ascii tb (headBefore tb) cb) (pz : Prints ascii tz (headBefore tz) cz) :
    OKl ascii tz ∧ ∃ c2, Prints ascii tz (headBefore tz) c2 ∧ flat c2 = flat ca ++ (32 :: 32 :: flat cb) := by
  have gA := hA.set false
  have gB := hB.set false
  have gz := ((gA.end false).end true).append gB.noBefore
  have hlow : ∀ n r, (noBefore (setR false B)).map RN.cp = n :: r → n.depth ≤ 0 := fun n r e => by have := gB.noBefore.tree; rw [e] at this; exact this.2.1
  have hgap : Gaps ((endSetR true (endSetR false (setR false A)) ++ noBefore (setR false B)).map RN.cp) := by
    rw [List.map_append, endSetR_cp, endSetR_cp, endSet_twice]
    exact gaps_join hlow (tree_nonneg gA.tree) (by rw [setR_cp]; exact gaps_set false _) (gaps_noBefore (by rw [setR_cp]; exact gaps_set false _))
  have hta : ta ≠ [] := by
    intro e
    subst e
    generalize hL : (endSetR false (setR false A)).map RN.cp = L at ha
    cases ha with
    | nil =>
      have h1 := congrArg List.length hL
      rw [List.length_map, endSetR_len, setR_len] at h1
      exact hne (List.eq_nil_of_length_eq_zero h1)
  have hz' : Parse 0 ((endSetR true (endSetR false (setR false A)) ++ noBefore (setR false B)).map RN.cp) (lastSet true ta ++ tb) [] := by
    rw [List.map_append]
    refine parse_append ?_ hb hlow
    rw [endSetR_cp]
    exact parse_endSet true ha ⟨0, (gA.end false).tree, Int.le_refl _⟩
  obtain ⟨rfl, _⟩ := parse_det hz hz'
  refine ⟨okl_parse hz gz.tree hgap gz.ok, ?_⟩
  have hl : lastA ta = false := by
    obtain ⟨t0, hp0⟩ : ∃ t0, Parse 0 ((setR false A).map RN.cp) t0 [] := by
      obtain ⟨t0, h0, _⟩ := items_parse gA.tree gA.unit; exact ⟨t0, h0⟩
    have h1 := parse_endSet false hp0 ⟨0, gA.tree, Int.le_refl _⟩
    rw [← endSetR_cp] at h1
    obtain ⟨e, _⟩ := parse_det ha h1
    cases t0 with
    | nil => exact absurd e (by simpa [lastSet] using hta)
    | cons t ts => rw [e]; exact lastA_set t ts false
  have hb0 := head_noBefore _ hb
  rw [hb0] at pb
  obtain ⟨c2, h1, h2⟩ := prints_join pa pb hb0 hl
  rw [joinA_eq] at h1
  refine ⟨c2, ?_, h2⟩
  have : headBefore (lastSet true ta ++ tb) = headBefore ta := by
    rw [← joinA_eq]
    cases ta with
    | nil => exact absurd rfl hta
    | cons t ts => exact joinA_head t ts tb
  rw [this]; exact h1
end Css
end Go.Proofs.YtkfdcbdlcipmfaaGreatFmt
/- PLAIN: the guards of the statements' trees, as they are reckoned. No program in sight. -/
namespace Go.Proofs.YtkfdcbdlcipmfaaGreatFmt
namespace Css
def treeGo : Int → List RN → Bool
  | _, [] => true
  | most, n :: l => !decide (n.depth < 0) && !decide (most < n.depth) && isNodeB n && treeGo (if opens n.kind then n.depth + 1 else n.depth) l
theorem treeGo_iff (l : List RN) : ∀ most, treeGo most l = true ↔ Tree most (l.map RN.cp) ∧ ∀ n ∈ l, isNodeB n = true := by
  induction l with
  | nil => intro most; simp [treeGo, Tree]
  | cons n l ih =>
    intro most
    simp only [treeGo, Bool.and_eq_true, Bool.not_eq_true', decide_eq_false_iff_not, ih, List.map_cons, Tree, List.mem_cons, forall_eq_or_imp]
    show _ ↔ (0 ≤ n.depth ∧ n.depth ≤ most ∧ Tree (if opens n.kind then n.depth + 1 else n.depth) (List.map RN.cp l)) ∧ _
    constructor
    · rintro ⟨⟨⟨h1, h2⟩, h3⟩, h4, h5⟩
      exact ⟨⟨by omega, by omega, h4⟩, h3, h5⟩
    · rintro ⟨⟨h1, h2, h3⟩, h4, h5⟩
      exact ⟨⟨⟨by omega, by omega⟩, h4⟩, h3, h5⟩
def sizeGo (ascii : Bool) : Nat → List RN → Bool
  | _, [] => true
  | s, n :: l => !decide (64 < n.depth) && !decide (1048576 < s + n.text.length) && lowB n.text ascii && sizeGo ascii (s + n.text.length) l
def texts (l : List RN) : Nat := (l.map fun n => n.text.length).sum
theorem sizeGo_iff (ascii : Bool) (l : List RN) : ∀ s, sizeGo ascii s l = true → (∀ n ∈ l, n.depth ≤ 64 ∧ lowB n.text ascii = true) ∧ (l ≠ [] → s + texts l ≤ 1048576) := by
  induction l with
  | nil => intro s _; exact ⟨fun n hn => by simp at hn, fun h => absurd rfl h⟩
  | cons n l ih =>
    intro s h
    simp only [sizeGo, Bool.and_eq_true, Bool.not_eq_true', decide_eq_false_iff_not] at h
    obtain ⟨⟨⟨h1, h2⟩, h3⟩, h4⟩ := h
    obtain ⟨i1, i2⟩ := ih _ h4
    refine ⟨fun m hm => ?_, fun _ => ?_⟩
    · rw [List.mem_cons] at hm
      rcases hm with rfl | hm
      · exact ⟨by omega, h3⟩
      · exact i1 m hm
    · cases l with
      | nil => simp [texts]; omega
      | cons m r => have := i2 (by simp); simp only [texts, List.map_cons, List.sum_cons] at this ⊢; omega
def treeOk (ascii : Bool) (l : List RN) : Bool := decide (l.length ≤ 1000) && (treeGo 0 l && sizeGo ascii 0 l)
structure InTree (ascii : Bool) (l : List RN) : Prop where
  good : GoodTree ascii l
  many : l.length ≤ 1000
  size : texts l ≤ 1048576
  deep : ∀ n ∈ l, n.depth ≤ 64
theorem treeOk_in {ascii : Bool} {l : List RN} (h : treeOk ascii l = true) : InTree ascii l := by
  simp only [treeOk, Bool.and_eq_true, decide_eq_true_eq] at h
  obtain ⟨h1, h2, h3⟩ := h
  obtain ⟨t1, t2⟩ := (treeGo_iff l 0).1 h2
  obtain ⟨s1, s2⟩ := sizeGo_iff ascii l 0 h3
  refine ⟨⟨t1, t2, fun n hn => (s1 n hn).2⟩, h1, ?_, fun n hn => (s1 n hn).1⟩
  cases l with
  | nil => decide
  | cons m r => have := s2 (by simp); omega
theorem texts_setR (all : Bool) (l : List RN) : texts (setR all l) = texts l := by
  induction l with
  | nil => rfl
  | cons n r ih => simp only [setR, texts, List.map_cons, List.sum_cons] at ih ⊢; rw [ih]
theorem InTree.set {ascii : Bool} {l : List RN} (h : InTree ascii l) (all : Bool) : InTree ascii (setR all l) := by
  refine ⟨h.good.set all, by rw [setR_len]; exact h.many, by rw [texts_setR]; exact h.size, fun x hx => ?_⟩
  obtain ⟨n, hn, a, rfl⟩ := setR_mem hx
  exact h.deep n hn
theorem dec_len_le (l : List UInt8) (h : okDec l = true) : (dec l).length ≤ l.length := by
  have := len_le_enc (dec l)
  rw [(okDec_val h).1] at this
  exact this
/-- How much is printed of a tree of the statements. -/
theorem in_cost {ascii : Bool} {l : List RN} (h : InTree ascii l) {d : Int} {ts : List T} {rest : List N} (hp : Parse d (l.map RN.cp) ts rest) : cost ts ≤ 134217728 := by
  have h1 := parse_cost hp
  have h2 : costN (l.map RN.cp) ≤ 16 * texts l + 8192 * l.length := by
    have hg := h.good.node
    clear h hp h1
    induction l with
    | nil => simp [costN, texts]
    | cons n r ih =>
      have := ih (fun m hm => hg m (by simp [hm]))
      have ho := (isNode_ok (ascii := false) (hg n (by simp)) rfl).2
      have hl := dec_len_le _ ho
      simp only [costN, texts, List.map_cons, List.sum_cons, List.length_cons] at this ⊢
      have e : n.cp.text.length = (dec n.text).length := rfl
      omega
  have := h.many
  have := h.size
  omega
end Css
end Go.Proofs.YtkfdcbdlcipmfaaGreatFmt
