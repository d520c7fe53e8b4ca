/- PLAIN: two prints of trees with two blanks between are a print of both. No program in sight. -/
import Derived.Test.YtkfdcbdlcipmfaaGreatFmtG08
set_option linter.unusedVariables false
set_option linter.unusedSimpArgs false
namespace Go.Proofs.YtkfdcbdlcipmfaaGreatFmt
namespace Css
def Sp01 (s : List Int) : Prop := s = [] ∨ s = [32]
theorem escOut_may (E : Nat) (c : Int) (t : List Int) : ∃ s, Sp01 s ∧ escOut E c t true = escOut E c t false ++ s ∧ (t ≠ [] → s = []) := by
  cases t with
  | cons d t => exact ⟨[], .inl rfl, by simp [escOut, wantSp], fun _ => rfl⟩
  | nil =>
    unfold escOut
    simp only [wantSp, Bool.and_true, Bool.and_false, Bool.false_eq_true, if_false]
    split
    · exact ⟨[], .inl rfl, by simp, fun _ => rfl⟩
    split
    · exact ⟨[], .inl rfl, by simp, fun _ => rfl⟩
    · split
      · exact ⟨[32], .inr rfl, by simp, fun h => absurd rfl h⟩
      · exact ⟨[], .inl rfl, by simp, fun _ => rfl⟩
theorem identTail_may (asc : Bool) (cs : List Int) : ∃ s, Sp01 s ∧ identTail asc true cs = identTail asc false cs ++ s := by
  induction cs with
  | nil => exact ⟨[], .inl rfl, rfl⟩
  | cons c t ih =>
    obtain ⟨s, h1, h2⟩ := ih
    obtain ⟨s', h3, h4, h5⟩ := escOut_may (charEsc asc 0 c) c t
    simp only [identTail, h2, h4]
    cases t with
    | nil =>
      simp only [identTail, List.nil_append, List.append_nil] at h2 ⊢
      exact ⟨s' ++ s, by rw [← h2]; simpa using h3, by simp⟩
    | cons d t => rw [h5 (by simp)]; exact ⟨s, h1, by simp⟩
theorem ident_may (asc : Bool) (m : Nat) (cs : List Int) : ∃ s, Sp01 s ∧ ident asc true m cs = ident asc false m cs ++ s := by
  unfold ident
  cases cs with
  | nil => exact ⟨[], .inl rfl, rfl⟩
  | cons c t =>
    obtain ⟨s, h1, h2⟩ := identTail_may asc t
    obtain ⟨s', h3, h4, h5⟩ := escOut_may (charEsc asc (initEsc m (c :: t)) c) c t
    simp only [identOut, h2, h4]
    cases t with
    | nil =>
      simp only [identTail, List.nil_append, List.append_nil] at h2 ⊢
      exact ⟨s' ++ s, by rw [← h2]; simpa using h3, by simp⟩
    | cons d t => rw [h5 (by simp)]; exact ⟨s, h1, by simp⟩
def T.setA : T → T | .mk k u x b a kids => .mk k u x b true kids
theorem setA_kind (t : T) : t.setA.kind = t.kind := by cases t; rfl
theorem setA_before (t : T) : t.setA.before = t.before := by cases t; rfl
theorem setA_after (t : T) : t.setA.after = true := by cases t; rfl
theorem setA_kids (t : T) : t.setA.kids = t.kids := by cases t; rfl
theorem own_setA {asc : Bool} {t : T} {out : List Int} (h : Own asc false t out) : ∃ s, Sp01 s ∧ Own asc true t.setA (out ++ s) := by
  obtain ⟨k, u, x, b, a, kids⟩ := t
  cases h with
  | ident h => obtain ⟨s, h1, h2⟩ := ident_may asc 0 x; exact ⟨s, h1, by show Own asc true _ (ident asc false 0 x ++ s); rw [← h2]; exact .ident h⟩
  | func m h => exact ⟨[], .inl rfl, by rw [List.append_nil]; exact .func m h⟩
  | dim h =>
    obtain ⟨s, h1, h2⟩ := ident_may asc (unitMode (x.take u)) (x.drop u)
    refine ⟨s, h1, ?_⟩
    show Own asc true _ (x.take u ++ ident asc false (unitMode (x.take u)) (x.drop u) ++ s)
    rw [List.append_assoc, ← h2]; exact .dim h
  | atk h => obtain ⟨s, h1, h2⟩ := ident_may asc 0 x; exact ⟨s, h1, by show Own asc true _ (64 :: (ident asc false 0 x ++ s)); rw [← h2]; exact .atk h⟩
  | hash h => obtain ⟨s, h1, h2⟩ := ident_may asc 1 x; exact ⟨s, h1, by show Own asc true _ (35 :: (ident asc false 1 x ++ s)); rw [← h2]; exact .hash h⟩
  | str q o h1 h2 h3 => exact ⟨[], .inl rfl, by rw [List.append_nil]; exact .str q o h1 h2 h3⟩
  | plain h1 h2 h3 h4 h5 h6 => exact ⟨[], .inl rfl, by rw [List.append_nil]; exact .plain h1 h2 h3 h4 h5 h6⟩
theorem own_opens {asc may : Bool} {t : T} {out : List Int} (h : Own asc may t out) (ho : opens t.kind) : Own asc true t.setA out := by
  obtain ⟨k, u, x, b, a, kids⟩ := t
  unfold opens at ho
  simp only [T.kind] at ho
  cases h with
  | ident h | dim h | atk h | hash h => simp only [T.kind] at h; omega
  | str q o h => simp only [T.kind] at h; omega
  | func m h => exact .func m h
  | plain h1 h2 h3 h4 h5 h6 => exact .plain h1 h2 h3 h4 h5 h6
def joinA : List T → List T → List T
  | [], vs => vs
  | [t], vs => t.setA :: vs
  | t :: u :: ts, vs => t :: joinA (u :: ts) vs
theorem joinA_head (t : T) (ts vs : List T) : headBefore (joinA (t :: ts) vs) = t.before := by
  cases ts with
  | nil => exact setA_before t
  | cons u us => rfl
def lastA : List T → Bool
  | [] => true
  | [t] => t.after
  | _ :: u :: ts => lastA (u :: ts)
theorem prints_spaced {asc : Bool} {us : List T} {cl : List Ch} (h : Prints asc us false cl) {w : List Int} (hw : Blank w) : Prints asc us true (⟨none, w⟩ :: cl) := by
  cases h with
  | nil => exact .last w hw
  | plain t ts _ ws out rest h1 h2 h3 h4 h5 =>
    rw [h2 rfl]
    exact .plain t ts true [⟨none, w⟩] out rest (fun _ => ⟨w, hw, rfl⟩) (fun h => by cases h) h3 h4 h5
  | opened t ts _ ws nl out kc rest h1 h2 h3 h4 h5 h6 h7 =>
    rw [h2 rfl]
    exact .opened t ts true [⟨none, w⟩] nl out kc rest (fun _ => ⟨w, hw, rfl⟩) (fun h => by cases h) h3 h4 h5 h6 h7
theorem blank_rest {s : List Int} (h : Sp01 s) : ∃ w, Blank w ∧ s ++ w = [32, 32] := by
  rcases h with rfl | rfl
  · exact ⟨[32, 32], ⟨by simp, by simp⟩, rfl⟩
  · exact ⟨[32], ⟨by simp, by simp⟩, rfl⟩
theorem prints_join {asc : Bool} {ts : List T} {has : Bool} {cl : List Ch} (h : Prints asc ts has cl) {vs : List T} {vl : List Ch} (hv : Prints asc vs false vl) (hb : headBefore vs = false) :
    lastA ts = false → ∃ cl2, Prints asc (joinA ts vs) has cl2 ∧ flat cl2 = flat cl ++ (32 :: 32 :: flat vl) := by
  induction h with
  | nil => intro h; cases h
  | last w hw => intro h; cases h
  | plain t ts has ws out rest h1 h2 h3 h4 h5 ih =>
    intro hl
    cases ts with
    | nil =>
      have ha : t.after = false := hl
      rw [ha] at h4 h5
      have hr : rest = [] := by cases h5; rfl
      subst hr
      obtain ⟨s, hs, ho⟩ := own_setA h4
      obtain ⟨w, hw, hsw⟩ := blank_rest hs
      refine ⟨ws ++ ⟨some (tkOf t.setA), out ++ s⟩ :: (⟨none, w⟩ :: vl), ?_, ?_⟩
      · refine .plain t.setA vs has ws (out ++ s) _ h1 h2 (by rw [setA_kind]; exact h3) ?_ ?_
        · rw [setA_after, Bool.true_or]; exact ho
        · rw [setA_after, Bool.true_or]; exact prints_spaced hv hw
      · simp only [flat_append, flat_cons, List.append_assoc]
        congr 2
        have : flat ([] : List Ch) = [] := rfl
        rw [this, List.nil_append, ← List.append_assoc, hsw]; rfl
    | cons u us =>
      obtain ⟨cl2, hp, hf⟩ := ih hl
      refine ⟨ws ++ ⟨some (tkOf t), out⟩ :: cl2, ?_, ?_⟩
      · refine .plain t (joinA (u :: us) vs) has ws out cl2 h1 h2 h3 ?_ ?_
        · rw [joinA_head]; exact h4
        · rw [joinA_head]; exact hp
      · simp only [flat_append, flat_cons, List.append_assoc, hf]
  | opened t ts has ws nl out kc rest h1 h2 h3 h4 h5 h6 h7 ih1 ih2 =>
    intro hl
    cases ts with
    | nil =>
      have ha : t.after = false := hl
      rw [ha] at h4 h7
      have hr : rest = [] := by cases h7; rfl
      subst hr
      refine ⟨ws ++ ⟨some (tkOf t.setA), out⟩ :: (nl ++ (kc ++ ⟨some ⟨closeKind t.setA.kind, 0, []⟩, [closer t.setA.kind]⟩ :: (⟨none, [32, 32]⟩ :: vl))), ?_, ?_⟩
      · refine .opened t.setA vs has ws nl out kc _ h1 h2 (by rw [setA_kind]; exact h3) ?_ h5 (by rw [setA_kids]; exact h6) ?_
        · rw [setA_after, Bool.true_or]; exact own_opens h4 h3
        · rw [setA_after, Bool.true_or]; exact prints_spaced hv ⟨by simp, by simp⟩
      · rw [setA_kind]
        simp only [flat_append, flat_cons, List.append_assoc]
        have : flat ([] : List Ch) = [] := rfl
        rw [this]
        simp
    | cons u us =>
      obtain ⟨cl2, hp, hf⟩ := ih2 hl
      refine ⟨ws ++ ⟨some (tkOf t), out⟩ :: (nl ++ (kc ++ ⟨some ⟨closeKind t.kind, 0, []⟩, [closer t.kind]⟩ :: cl2)), ?_, ?_⟩
      · refine .opened t (joinA (u :: us) vs) has ws nl out kc cl2 h1 h2 h3 ?_ h5 h6 ?_
        · rw [joinA_head]; exact h4
        · rw [joinA_head]; exact hp
      · simp only [flat_append, flat_cons, List.append_assoc, hf]
end Css
end Go.Proofs.YtkfdcbdlcipmfaaGreatFmt
namespace Go.Proofs.YtkfdcbdlcipmfaaGreatFmt
namespace Css
def Low (d : Int) (l : List N) : Prop := ∀ n r, l = n :: r → n.depth < d
theorem parse_split {d : Int} {l : List N} {ts : List T} {rest : List N} (h : Parse d l ts rest) : ∃ k, l = k ++ rest ∧ (∀ n ∈ k, d ≤ n.depth) ∧ ∀ rest', Low d rest' → Parse d (k ++ rest') ts rest' := by
  induction h with
  | nil d =>
    refine ⟨[], rfl, by simp, fun rest' hl => ?_⟩
    cases rest' with
    | nil => exact .nil d
    | cons n r => exact .stop d n r (hl n r rfl)
  | stop d n r hd =>
    refine ⟨[], rfl, by simp, fun rest' hl => ?_⟩
    cases rest' with
    | nil => exact .nil d
    | cons n r => exact .stop d n r (hl n r rfl)
  | leaf d n r ts rest hd ho hp ih =>
    obtain ⟨k, e, hk, hf⟩ := ih
    refine ⟨n :: k, by rw [e]; rfl, ?_, fun rest' hl => .leaf d n (k ++ rest') ts rest' hd ho (hf rest' hl)⟩
    intro m hm
    rw [List.mem_cons] at hm
    rcases hm with rfl | hm
    · omega
    · exact hk m hm
  | node d n r kids r1 ts rest hd ho hp1 hp2 ih1 ih2 =>
    obtain ⟨k1, e1, hk1, hf1⟩ := ih1
    obtain ⟨k2, e2, hk2, hf2⟩ := ih2
    refine ⟨n :: (k1 ++ k2), by rw [e1, e2]; simp, ?_, fun rest' hl => ?_⟩
    · intro m hm
      rw [List.mem_cons, List.mem_append] at hm
      rcases hm with rfl | hm | hm
      · omega
      · have := hk1 m hm; omega
      · exact hk2 m hm
    · have h2 := hf2 rest' hl
      have hlow : Low (n.depth + 1) (k2 ++ rest') := by
        intro x y e
        have hr := (parse_rest hp1).1
        cases k2 with
        | nil =>
          have := hl x y (by simpa using e); omega
        | cons z zs =>
          have h3 := hr z (zs ++ rest) (by rw [e2]; rfl)
          simp only [List.cons_append, List.cons.injEq] at e
          rw [← e.1]; exact h3
      have h1 := hf1 (k2 ++ rest') hlow
      rw [← List.append_assoc] at h1
      exact .node d n (k1 ++ k2 ++ rest') kids (k2 ++ rest') ts rest' hd ho h1 h2
theorem parse_append {d : Int} {a b : List N} {ts us : List T} (h : Parse d a ts []) (hb : Parse d b us []) (hlow : ∀ n r, b = n :: r → n.depth ≤ d) : Parse d (a ++ b) (ts ++ us) [] := by
  generalize e : ([] : List N) = rest at h
  induction h with
  | nil d => exact e ▸ hb
  | stop d n r hd => cases e
  | leaf d n r ts rest hd ho hp ih => subst e; exact .leaf d n (r ++ b) (ts ++ us) [] hd ho (ih hb hlow rfl)
  | node d n r kids r1 ts rest hd ho hp1 hp2 ih1 ih2 =>
    obtain ⟨k1, e1, hk1, hf1⟩ := parse_split hp1
    subst e1
    subst e
    have h2 := ih2 hb hlow rfl
    have hl : Low (n.depth + 1) (r1 ++ b) := by
      intro x y e'
      cases r1 with
      | nil => have := hlow x y (by simpa using e'); omega
      | cons z zs =>
        have := (parse_rest hp1).1 z zs rfl
        simp only [List.cons_append, List.cons.injEq] at e'
        rw [← e'.1]; exact this
    have h1 := hf1 (r1 ++ b) hl
    have := Parse.node d n (k1 ++ (r1 ++ b)) kids (r1 ++ b) (ts ++ us) [] hd ho h1 h2
    simpa using this
theorem parse_det {d : Int} {l : List N} {ts us : List T} {r1 r2 : List N} (h : Parse d l ts r1) (h' : Parse d l us r2) : ts = us ∧ r1 = r2 := by
  induction h generalizing us r2 with
  | nil => cases h'; exact ⟨rfl, rfl⟩
  | stop d n r hd =>
    cases h' with
    | stop => exact ⟨rfl, rfl⟩
    | leaf _ _ _ _ _ h => exact absurd hd h
    | node _ _ _ _ _ _ _ h => exact absurd hd h
  | leaf d n r ts rest hd ho hp ih =>
    cases h' with
    | stop _ _ _ h => exact absurd h hd
    | leaf _ _ _ ts' _ _ _ h => obtain ⟨rfl, rfl⟩ := ih h; exact ⟨rfl, rfl⟩
    | node _ _ _ _ _ _ _ _ h => exact absurd h ho
  | node d n r kids r1 ts rest hd ho hp1 hp2 ih1 ih2 =>
    cases h' with
    | stop _ _ _ h => exact absurd h hd
    | leaf _ _ _ _ _ _ h => exact absurd ho h
    | node _ _ _ kids' r1' ts' _ _ _ h1 h2 =>
      obtain ⟨rfl, rfl⟩ := ih1 h1
      obtain ⟨rfl, rfl⟩ := ih2 h2
      exact ⟨rfl, rfl⟩
def T.setB (x : Bool) : T → T | .mk k u t b _ kids => .mk k u t b x kids
def lastSet (x : Bool) : List T → List T
  | [] => []
  | [t] => [t.setB x]
  | t :: u :: ts => t :: lastSet x (u :: ts)
theorem joinA_eq (ts vs : List T) : joinA ts vs = lastSet true ts ++ vs := by
  induction ts with
  | nil => rfl
  | cons t ts ih =>
    cases ts with
    | nil => cases t; rfl
    | cons u us => simp only [joinA, lastSet, List.cons_append]; rw [ih]
theorem lastA_set (t : T) (ts : List T) (x : Bool) : lastA (lastSet x (t :: ts)) = x := by
  induction ts generalizing t with
  | nil => cases t; rfl
  | cons u us ih =>
    have := ih u
    cases us with
    | nil => cases u; rfl
    | cons v vs => exact this
def endSet (x : Bool) : List N → List N
  | [] => []
  | n :: r => if r.any (fun m => decide (m.depth ≤ 0)) then n :: endSet x r else if n.depth ≤ 0 then setAfter n x :: r else n :: r
theorem endSet_append (x : Bool) (k r : List N) (h : r.any (fun m => decide (m.depth ≤ 0)) = true) : endSet x (k ++ r) = k ++ endSet x r := by
  induction k with
  | nil => rfl
  | cons n k ih =>
    rw [List.cons_append, endSet, if_pos (by rw [List.any_append, h, Bool.or_true]), ih]; rfl
theorem endSet_low (x : Bool) {l : List N} (h : ∀ n r, l = n :: r → n.depth ≤ 0) : ∀ n r, endSet x l = n :: r → n.depth ≤ 0 := by
  intro n r e
  cases l with
  | nil => cases e
  | cons m s =>
    have hm := h m s rfl
    rw [endSet] at e
    split at e
    · injection e with e _; rw [← e]; exact hm
    · skip
      injection e with e _; rw [← e]; exact hm
theorem parse_endSet (x : Bool) {l : List N} {ts : List T} (h : Parse 0 l ts []) : (∃ m, Tree m l ∧ m ≤ 0) → Parse 0 (endSet x l) (lastSet x ts) [] := by
  generalize e : ([] : List N) = rest at h
  generalize e0 : (0 : Int) = d at h
  induction h with
  | nil d => intro _; subst e0; exact .nil 0
  | stop d n r hd => cases e
  | leaf d n r ts rest hd ho hp ih =>
    subst e0
    rintro ⟨m, ht, hm⟩
    have hd0 : n.depth ≤ 0 := by have := ht.2.1; omega
    have ht2 := ht.2.2
    rw [if_neg ho] at ht2
    have ih' := ih e rfl ⟨_, ht2, hd0⟩
    cases r with
    | nil =>
      cases hp
      simp only [endSet, lastSet]
      rw [if_neg (by simp), if_pos hd0]
      exact .leaf 0 (setAfter n x) [] [] [] hd ho (.nil 0)
    | cons p q =>
      have hp0 : p.depth ≤ 0 := by have := ht2.2.1; omega
      rw [endSet, if_pos (by simp [hp0])]
      cases ts with
      | nil =>
        cases hp with
        | stop _ _ _ h => have := ht2.1; omega
      | cons u us => exact .leaf 0 n _ _ _ hd ho ih'
  | node d n r kids r1 ts rest hd ho hp1 hp2 ih1 ih2 =>
    subst e0
    rintro ⟨m, ht, hm⟩
    have hd0 : n.depth ≤ 0 := by have := ht.2.1; omega
    have hn0 : n.depth = 0 := by have := ht.1; omega
    have ht2 := ht.2.2
    rw [if_pos ho] at ht2
    obtain ⟨k1, e1, hk1, hf1⟩ := parse_split hp1
    obtain ⟨hr, htr⟩ := parse_rest hp1
    obtain ⟨m', ht3⟩ := htr _ ht2
    subst e1
    have hno : ∀ l : List N, (∀ n ∈ l, 1 ≤ n.depth) → l.any (fun m => decide (m.depth ≤ 0)) = false := by
      intro l h
      rw [List.any_eq_false]
      intro y hy
      have := h y hy
      simp; omega
    have hk0 : ∀ y ∈ k1, 1 ≤ y.depth := fun y hy => by have := hk1 y hy; omega
    cases r1 with
    | nil =>
      cases hp2
      rw [endSet, if_neg (by rw [List.append_nil, hno k1 hk0]; simp), if_pos hd0]
      simp only [lastSet]
      exact .node 0 (setAfter n x) _ kids [] [] [] hd ho hp1 (.nil 0)
    | cons p q =>
      have hp0 : p.depth ≤ 0 := by have := hr p q rfl; omega
      have hany : (p :: q).any (fun m => decide (m.depth ≤ 0)) = true := by simp [hp0]
      rw [endSet, if_pos (by rw [List.any_append, hany, Bool.or_true]), endSet_append x k1 _ hany]
      have ht4 : Tree 0 (p :: q) := ht3.any (fun n r e => by cases e; exact hp0)
      have ih' := ih2 e rfl ⟨0, ht4, Int.le_refl _⟩
      cases ts with
      | nil =>
        cases hp2 with
        | stop _ _ _ h => have := ht4.1; omega
      | cons u us =>
        refine .node 0 n _ kids (endSet x (p :: q)) _ _ hd ho (hf1 _ ?_) ih'
        intro y z ey
        have := endSet_low x (l := p :: q) (fun n r e => by cases e; exact hp0) y z ey
        omega
end Css
end Go.Proofs.YtkfdcbdlcipmfaaGreatFmt
namespace Go.Proofs.YtkfdcbdlcipmfaaGreatFmt
namespace Css
def afterR (x : Bool) (n : RN) : RN := { n with after := x }
def noBefore : List RN → List RN
  | [] => []
  | n :: r => { n with before := false } :: r
def endSetR (x : Bool) : List RN → List RN
  | [] => []
  | n :: r => if r.any (fun m => decide (m.depth ≤ 0)) then n :: endSetR x r else if n.depth ≤ 0 then afterR x n :: r else n :: r
theorem endSetR_cp (x : Bool) (l : List RN) : (endSetR x l).map RN.cp = endSet x (l.map RN.cp) := by
  induction l with
  | nil => rfl
  | cons n r ih =>
    have e : (r.map RN.cp).any (fun m => decide (m.depth ≤ 0)) = r.any (fun m => decide (m.depth ≤ 0)) := by rw [List.any_map]; rfl
    simp only [endSetR, List.map_cons, endSet, e]
    split
    · rw [List.map_cons, ih]
    · show List.map RN.cp (if n.depth ≤ 0 then _ else _) = if n.depth ≤ 0 then _ else _
      split <;> rfl
theorem endSetR_len (x : Bool) (l : List RN) : (endSetR x l).length = l.length := by
  induction l with
  | nil => rfl
  | cons n r ih => simp only [endSetR]; split; simp [ih]; split <;> simp
theorem endSetR_at (x : Bool) : ∀ (l : List RN) (e : Nat) (n : RN), l[e]? = some n → n.depth ≤ 0 → (∀ j m, e < j → l[j]? = some m → ¬ m.depth ≤ 0) → endSetR x l = l.set e (afterR x n) := by
  intro l
  induction l with
  | nil => intro e n h; simp at h
  | cons a r ih =>
    intro e n h hn hr
    cases e with
    | zero =>
      simp only [List.getElem?_cons_zero, Option.some.injEq] at h
      subst h
      rw [endSetR, if_neg, if_pos hn]; rfl
      rw [Bool.not_eq_true, List.any_eq_false]
      intro m hm
      obtain ⟨j, hj, rfl⟩ := List.getElem_of_mem hm
      have := hr (j + 1) r[j] (by omega) (by simp [hj])
      simp; omega
    | succ e =>
      rw [List.getElem?_cons_succ] at h
      rw [endSetR, if_pos, ih e n h hn (fun j m hj hm => hr (j + 1) m (by omega) (by simpa using hm))]; rfl
      rw [List.any_eq_true]
      exact ⟨n, List.mem_of_getElem? h, by simpa using hn⟩
theorem endSetR_mem {x : Bool} {l : List RN} {y : RN} (h : y ∈ endSetR x l) : ∃ n ∈ l, y = n ∨ y = afterR x n := by
  induction l with
  | nil => cases h
  | cons a r ih =>
    rw [endSetR] at h
    split at h
    · rw [List.mem_cons] at h
      rcases h with rfl | h
      · exact ⟨_, by simp, .inl rfl⟩
      · obtain ⟨n, hn, e⟩ := ih h; exact ⟨n, by simp [hn], e⟩
    · split at h
      · rw [List.mem_cons] at h
        rcases h with rfl | h
        · exact ⟨a, by simp, .inr rfl⟩
        · exact ⟨y, by simp [h], .inl rfl⟩
      · exact ⟨y, h, .inl rfl⟩
theorem tree_endSet (x : Bool) (l : List N) : ∀ m, Tree m l → Tree m (endSet x l) := by
  induction l with
  | nil => intro m h; exact h
  | cons n r ih =>
    intro m h
    rw [endSet]
    split
    · exact ⟨h.1, h.2.1, ih _ h.2.2⟩
    · split
      · exact ⟨h.1, h.2.1, h.2.2⟩
      · exact h
theorem GoodTree.end {ascii : Bool} {l : List RN} (h : GoodTree ascii l) (x : Bool) : GoodTree ascii (endSetR x l) := by
  refine ⟨by rw [endSetR_cp]; exact tree_endSet x _ _ h.tree, fun y hy => ?_, fun y hy => ?_⟩
  · obtain ⟨n, hn, rfl | rfl⟩ := endSetR_mem hy
    · exact h.node _ hn
    · exact h.node n hn
  · obtain ⟨n, hn, rfl | rfl⟩ := endSetR_mem hy
    · exact h.low _ hn
    · exact h.low n hn
theorem noBefore_mem {l : List RN} {y : RN} (h : y ∈ noBefore l) : ∃ n ∈ l, y = n ∨ y = { n with before := false } := by
  cases l with
  | nil => cases h
  | cons a r =>
    simp only [noBefore, List.mem_cons] at h
    rcases h with rfl | h
    · exact ⟨a, by simp, .inr rfl⟩
    · exact ⟨y, by simp [h], .inl rfl⟩
theorem GoodTree.noBefore {ascii : Bool} {l : List RN} (h : GoodTree ascii l) : GoodTree ascii (noBefore l) := by
  refine ⟨?_, fun y hy => ?_, fun y hy => ?_⟩
  · cases l with
    | nil => exact h.tree
    | cons a r => exact h.tree
  · obtain ⟨n, hn, rfl | rfl⟩ := noBefore_mem hy
    · exact h.node _ hn
    · exact h.node n hn
  · obtain ⟨n, hn, rfl | rfl⟩ := noBefore_mem hy
    · exact h.low _ hn
    · exact h.low n hn
theorem tree_append {a b : List N} : ∀ m, Tree m a → (∀ n r, b = n :: r → n.depth ≤ 0) → Tree 0 b → 0 ≤ m → Tree m (a ++ b) := by
  induction a with
  | nil => intro m _ hb ht hm; exact ht.any fun n r e => by have := hb n r e; omega
  | cons n r ih =>
    intro m h hb ht hm
    refine ⟨h.1, h.2.1, ih _ h.2.2 hb ht ?_⟩
    have := h.1
    split <;> omega
theorem GoodTree.append {ascii : Bool} {a b : List RN} (h : GoodTree ascii a) (hb : GoodTree ascii b) : GoodTree ascii (a ++ b) := by
  refine ⟨?_, fun y hy => ?_, fun y hy => ?_⟩
  · rw [List.map_append]
    refine tree_append 0 h.tree (fun n r e => ?_) hb.tree (Int.le_refl _)
    have := hb.tree; rw [e] at this; exact this.2.1
  · rw [List.mem_append] at hy
    exact hy.elim (h.node y) (hb.node y)
  · rw [List.mem_append] at hy
    exact hy.elim (h.low y) (hb.low y)
theorem gaps_join {l b : List N} : (∀ n r, b = n :: r → n.depth ≤ 0) → (∀ n ∈ l, 0 ≤ n.depth) → Gaps l → Gaps b → Gaps (endSet true l ++ b) := by
  intro hb
  induction l with
  | nil => intro _ _ h; exact h
  | cons n r ih =>
    intro h0 hl hgb
    have h0r : ∀ m ∈ r, 0 ≤ m.depth := fun m hm => h0 m (by simp [hm])
    rw [endSet]
    split
    · rename_i hany
      refine ⟨?_, ih h0r hl.2 hgb⟩
      intro m r' e ho hd ha
      cases r with
      | nil => simp at hany
      | cons p q =>
        have hp := hl.1 p q rfl ho
        have : m.depth = p.depth ∧ m.kind = p.kind ∧ m.text = p.text ∧ m.before = p.before := by
          rw [endSet] at e
          by_cases c1 : (q.any fun m => decide (m.depth ≤ 0)) = true
          · rw [if_pos c1] at e
            injection (show p :: (endSet true q ++ b) = m :: r' from e) with e _
            rw [← e]; exact ⟨rfl, rfl, rfl, rfl⟩
          · rw [if_neg c1] at e
            by_cases c2 : p.depth ≤ 0
            · rw [if_pos c2] at e
              injection (show setAfter p true :: (q ++ b) = m :: r' from e) with e _
              rw [← e]; exact ⟨rfl, rfl, rfl, rfl⟩
            · rw [if_neg c2] at e
              injection (show p :: (q ++ b) = m :: r' from e) with e _
              rw [← e]; exact ⟨rfl, rfl, rfl, rfl⟩
        obtain ⟨e1, e2, e3, e4⟩ := this
        rw [e4]
        exact hp (by omega) (apart_texts (a := tOf n) (a' := tOf n) (b := tOf m) (b' := tOf p) rfl rfl e2 e3 ha)
    · rename_i hany
      have htail : ∀ m ∈ r, ¬ m.depth ≤ 0 := by
        intro m hm h
        exact hany (List.any_eq_true.2 ⟨m, hm, by simpa using h⟩)
      have hrest : ∀ (s : List N), (∀ m ∈ s, ¬ m.depth ≤ 0) → Gaps s → Gaps (s ++ b) := by
        intro s
        induction s with
        | nil => intro _ _; exact hgb
        | cons x s ih2 =>
          intro hx hs
          refine ⟨?_, ih2 (fun m hm => hx m (by simp [hm])) hs.2⟩
          intro m r' e ho hd ha
          cases s with
          | nil =>
            have h1 := hb m r' e
            have h2 := hx x (by simp)
            omega
          | cons y s =>
            injection (show y :: (s ++ b) = m :: r' from e) with e _
            exact hs.1 m s (by rw [e]) ho hd ha
      split
      · refine ⟨fun m r' e ho hd ha => by simp [setAfter], hrest r htail hl.2⟩
      · rename_i hn
        exact hrest (n :: r) (by intro m hm; rw [List.mem_cons] at hm; rcases hm with rfl | hm; exact hn; exact htail m hm) hl
theorem gaps_noBefore {l : List RN} (h : Gaps (l.map RN.cp)) : Gaps ((noBefore l).map RN.cp) := by
  cases l with
  | nil => exact h
  | cons n r => exact ⟨fun m r' e ho hd ha => h.1 m r' e ho hd (apart_texts rfl rfl rfl rfl ha), h.2⟩
theorem tree_nonneg {l : List N} : ∀ {m : Int}, Tree m l → ∀ n ∈ l, 0 ≤ n.depth := by
  induction l with
  | nil => intro m _ n hn; cases hn
  | cons a r ih =>
    intro m h n hn
    rw [List.mem_cons] at hn
    rcases hn with rfl | hn
    · exact h.1
    · exact ih h.2.2 n hn
theorem endSet_twice (x y : Bool) (l : List N) : endSet x (endSet y l) = endSet x l := by
  induction l with
  | nil => rfl
  | cons n r ih =>
    have hany : ∀ (l : List N), (endSet y l).any (fun m => decide (m.depth ≤ 0)) = l.any (fun m => decide (m.depth ≤ 0)) := by
      intro l
      induction l with
      | nil => rfl
      | cons n r ih =>
        rw [endSet]
        split
        · simp [ih]
        · split
          · simp [setAfter]
          · rfl
    rw [endSet]
    split
    · rename_i h
      rw [endSet, hany, if_pos h, ih, endSet, if_pos h]
    · rename_i h
      split
      · rename_i hn
        rw [endSet, if_neg h, if_pos (by exact hn), endSet, if_neg h, if_pos hn]; rfl
      · rfl
theorem head_noBefore (l : List RN) {us : List T} (h : Parse 0 ((noBefore l).map RN.cp) us []) : headBefore us = false := by
  cases us with
  | nil => rfl
  | cons u us =>
    obtain ⟨n, r, e, _, _, _, h3⟩ := parse_head h rfl
    show u.before = false
    rw [h3]
    cases l with
    | nil => simp [noBefore] at e
    | cons a s => simp only [noBefore, List.map_cons, List.cons.injEq] at e; rw [← e.1]; rfl
theorem pieces {ascii : Bool} {A B : List RN} (hA : GoodTree ascii A) (hB : GoodTree ascii B) (hne : A ≠ []) {ta tb tz : List T} {ca cb cz : List Ch}
    (ha : Parse 0 ((endSetR false (setR false A)).map RN.cp) ta []) (hb : Parse 0 ((noBefore (setR false B)).map RN.cp) tb [])
    (hz : Parse 0 ((endSetR true (endSetR false (setR false A)) ++ noBefore (setR false B)).map RN.cp) tz [])
    (pa : Prints ascii ta (headBefore ta) ca) (pb : Prints ascii tb (headBefore tb) cb) (pz : Prints ascii tz (headBefore tz) cz) :
    OKl ascii tz ∧ ∃ c2, Prints ascii tz (headBefore tz) c2 ∧ flat c2 = flat ca ++ (32 :: 32 :: flat cb) := by
  have gA := hA.set false
  have gB := hB.set false
  have gz := ((gA.end false).end true).append gB.noBefore
  have hlow : ∀ n r, (noBefore (setR false B)).map RN.cp = n :: r → n.depth ≤ 0 := fun n r e => by have := gB.noBefore.tree; rw [e] at this; exact this.2.1
  have hgap : Gaps ((endSetR true (endSetR false (setR false A)) ++ noBefore (setR false B)).map RN.cp) := by
    rw [List.map_append, endSetR_cp, endSetR_cp, endSet_twice]
    exact gaps_join hlow (tree_nonneg gA.tree) (by rw [setR_cp]; exact gaps_set false _) (gaps_noBefore (by rw [setR_cp]; exact gaps_set false _))
  have hta : ta ≠ [] := by
    intro e
    subst e
    generalize hL : (endSetR false (setR false A)).map RN.cp = L at ha
    cases ha with
    | nil =>
      have h1 := congrArg List.length hL
      rw [List.length_map, endSetR_len, setR_len] at h1
      exact hne (List.eq_nil_of_length_eq_zero h1)
  have hz' : Parse 0 ((endSetR true (endSetR false (setR false A)) ++ noBefore (setR false B)).map RN.cp) (lastSet true ta ++ tb) [] := by
    rw [List.map_append]
    refine parse_append ?_ hb hlow
    rw [endSetR_cp]
    exact parse_endSet true ha ⟨0, (gA.end false).tree, Int.le_refl _⟩
  obtain ⟨rfl, _⟩ := parse_det hz hz'
  refine ⟨okl_parse hz gz.tree hgap gz.ok, ?_⟩
  have hl : lastA ta = false := by
    obtain ⟨t0, hp0⟩ : ∃ t0, Parse 0 ((setR false A).map RN.cp) t0 [] := by
      obtain ⟨t0, h0, _⟩ := items_parse gA.tree gA.unit; exact ⟨t0, h0⟩
    have h1 := parse_endSet false hp0 ⟨0, gA.tree, Int.le_refl _⟩
    rw [← endSetR_cp] at h1
    obtain ⟨e, _⟩ := parse_det ha h1
    cases t0 with
    | nil => exact absurd e (by simpa [lastSet] using hta)
    | cons t ts => rw [e]; exact lastA_set t ts false
  have hb0 := head_noBefore _ hb
  rw [hb0] at pb
  obtain ⟨c2, h1, h2⟩ := prints_join pa pb hb0 hl
  rw [joinA_eq] at h1
  refine ⟨c2, ?_, h2⟩
  have : headBefore (lastSet true ta ++ tb) = headBefore ta := by
    rw [← joinA_eq]
    cases ta with
    | nil => exact absurd rfl hta
    | cons t ts => exact joinA_head t ts tb
  rw [this]; exact h1
end Css
end Go.Proofs.YtkfdcbdlcipmfaaGreatFmt
namespace Go.Proofs.YtkfdcbdlcipmfaaGreatFmt
namespace Css
theorem gaps_end (x : Bool) {l : List N} : Gaps l → Gaps (endSet x l) := by
  induction l with
  | nil => intro h; exact h
  | cons n r ih =>
    intro hl
    rw [endSet]
    split
    · rename_i hany
      refine ⟨?_, ih hl.2⟩
      intro m r' e ho hd ha
      cases r with
      | nil => simp at hany
      | cons p q =>
        have hp := hl.1 p q rfl ho
        have : m.depth = p.depth ∧ m.kind = p.kind ∧ m.text = p.text ∧ m.before = p.before := by
          rw [endSet] at e
          by_cases c1 : (q.any fun m => decide (m.depth ≤ 0)) = true
          · rw [if_pos c1] at e
            injection e with e _
            rw [← e]; exact ⟨rfl, rfl, rfl, rfl⟩
          · rw [if_neg c1] at e
            by_cases c2 : p.depth ≤ 0
            · rw [if_pos c2] at e
              injection e with e _
              rw [← e]; exact ⟨rfl, rfl, rfl, rfl⟩
            · rw [if_neg c2] at e
              injection e with e _
              rw [← e]; exact ⟨rfl, rfl, rfl, rfl⟩
        obtain ⟨e1, e2, e3, e4⟩ := this
        rw [e4]
        exact hp (by omega) (apart_texts (a := tOf n) (a' := tOf n) (b := tOf m) (b' := tOf p) rfl rfl e2 e3 ha)
    · rename_i hany
      split
      · rename_i hn
        refine ⟨fun m r' e ho hd ha => ?_, hl.2⟩
        exfalso
        apply hany
        rw [List.any_eq_true]
        refine ⟨m, by rw [e]; simp, ?_⟩
        have hd' : m.depth = n.depth := hd
        simp; omega
      · exact hl
theorem texts_end (x : Bool) (l : List RN) : texts (endSetR x l) = texts l := by
  induction l with
  | nil => rfl
  | cons n r ih =>
    rw [endSetR]
    split
    · simp only [texts, List.map_cons, List.sum_cons] at ih ⊢; rw [ih]
    · split <;> rfl
theorem texts_noBefore (l : List RN) : texts (noBefore l) = texts l := by cases l <;> rfl
theorem noBefore_len (l : List RN) : (noBefore l).length = l.length := by cases l <;> rfl
theorem texts_append (l u : List RN) : texts (l ++ u) = texts l + texts u := by simp [texts]
theorem InTree.end {ascii : Bool} {l : List RN} (h : InTree ascii l) (x : Bool) : InTree ascii (endSetR x l) := by
  refine ⟨h.good.end x, by rw [endSetR_len]; exact h.many, by rw [texts_end]; exact h.size, fun y hy => ?_⟩
  obtain ⟨n, hn, rfl | rfl⟩ := endSetR_mem hy
  · exact h.deep _ hn
  · exact h.deep n hn
theorem InTree.noBefore {ascii : Bool} {l : List RN} (h : InTree ascii l) : InTree ascii (noBefore l) := by
  refine ⟨h.good.noBefore, by rw [noBefore_len]; exact h.many, by rw [texts_noBefore]; exact h.size, fun y hy => ?_⟩
  obtain ⟨n, hn, rfl | rfl⟩ := noBefore_mem hy
  · exact h.deep _ hn
  · exact h.deep n hn
theorem costN_texts {l : List RN} (hg : ∀ n ∈ l, isNodeB n = true) : costN (l.map RN.cp) ≤ 16 * texts l + 8192 * l.length := by
  induction l with
  | nil => simp [costN, texts]
  | cons n r ih =>
    have := ih (fun m hm => hg m (by simp [hm]))
    have ho := (isNode_ok (ascii := false) (hg n (by simp)) rfl).2
    have hl := dec_len_le _ ho
    simp only [costN, texts, List.map_cons, List.sum_cons, List.length_cons] at this ⊢
    have e : n.cp.text.length = (dec n.text).length := rfl
    omega
theorem okl_one {asc : Bool} {A : List RN} (h : InTree asc A) : ∀ ts, Parse 0 ((endSetR false (setR false A)).map RN.cp) ts [] → OKl asc ts ∧ cost ts ≤ 134217728 := by
  intro ts hp
  have hs := (h.set false).end false
  exact ⟨okl_parse hp hs.good.tree (by rw [endSetR_cp]; exact gaps_end _ (by rw [setR_cp]; exact gaps_set false _)) hs.good.ok, in_cost hs hp⟩
theorem okl_two {asc : Bool} {B : List RN} (h : InTree asc B) : ∀ ts, Parse 0 ((noBefore (setR false B)).map RN.cp) ts [] → OKl asc ts ∧ cost ts ≤ 134217728 := by
  intro ts hp
  have hs := (h.set false).noBefore
  exact ⟨okl_parse hp hs.good.tree (gaps_noBefore (by rw [setR_cp]; exact gaps_set false _)) hs.good.ok, in_cost hs hp⟩
theorem okl_both {asc : Bool} {A B : List RN} (hA : InTree asc A) (hB : InTree asc B) (hm : A.length + B.length ≤ 1000) : ∀ ts, Parse 0 ((endSetR true (endSetR false (setR false A)) ++ noBefore (setR false B)).map RN.cp) ts [] → OKl asc ts ∧ cost ts ≤ 134217728 := by
  intro ts hp
  have ia := ((hA.set false).end false).end true
  have ib := (hB.set false).noBefore
  have gz := ia.good.append ib.good
  have gA := hA.good.set false
  have hlow : ∀ n r, (noBefore (setR false B)).map RN.cp = n :: r → n.depth ≤ 0 := fun n r e => by have := ib.good.tree; rw [e] at this; exact this.2.1
  have hgap : Gaps ((endSetR true (endSetR false (setR false A)) ++ noBefore (setR false B)).map RN.cp) := by
    rw [List.map_append, endSetR_cp, endSetR_cp, endSet_twice]
    exact gaps_join hlow (tree_nonneg gA.tree) (by rw [setR_cp]; exact gaps_set false _) (gaps_noBefore (by rw [setR_cp]; exact gaps_set false _))
  refine ⟨okl_parse hp gz.tree hgap gz.ok, ?_⟩
  have h1 := parse_cost hp
  have h2 := costN_texts gz.node
  rw [texts_append, List.length_append, endSetR_len, endSetR_len, setR_len, noBefore_len, setR_len, texts_noBefore, texts_setR, texts_end, texts_end, texts_setR] at h2
  have := hA.size
  have := hB.size
  omega
theorem tree_first {ascii : Bool} {l : List RN} (h : GoodTree ascii l) {n : RN} (hn : l[0]? = some n) : n.depth ≤ 0 := by
  cases l with
  | nil => simp at hn
  | cons a r =>
    simp only [List.getElem?_cons_zero, Option.some.injEq] at hn
    subst hn
    exact h.tree.2.1
theorem noBefore_set {l : List RN} {n : RN} (hn : l[0]? = some n) : noBefore l = l.set 0 { n with before := false } := by
  cases l with
  | nil => simp at hn
  | cons a r =>
    simp only [List.getElem?_cons_zero, Option.some.injEq] at hn
    subst hn
    rfl
theorem set_afterR_at {x y : Bool} {l : List RN} {e : Nat} {n : RN} (hn : l[e]? = some n) (hd : n.depth ≤ 0) (hr : ∀ j m, e < j → l[j]? = some m → ¬ m.depth ≤ 0) : endSetR x (endSetR y l) = (endSetR y l).set e (afterR x n) := by
  have he : e < l.length := (List.getElem?_eq_some_iff.1 hn).1
  rw [endSetR_at y l e n hn hd hr]
  rw [endSetR_at x (l.set e (afterR y n)) e (afterR y n) (by rw [List.getElem?_set_self he]) hd ?_]
  · rfl
  · intro j m hj hm
    rw [List.getElem?_set_ne (by omega)] at hm
    exact hr j m hj hm
end Css
end Go.Proofs.YtkfdcbdlcipmfaaGreatFmt
