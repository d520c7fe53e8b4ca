/- PLAIN: what a text that is one token, whole, looks like; and each such token is read as itself ahead of whatever may stand behind it. No program in sight. -/
import Derived.Test.YtkfdcbdlcipmfaaGreatFmtH01
import Derived.Lib.DecodeN
set_option linter.unusedVariables false
set_option linter.unusedSimpArgs false
namespace Go.Proofs.YtkfdcbdlcipmfaaGreatFmt
namespace Css
theorem quotedRun_kind (q : Int) (ds : List Int) : (quotedRun q ds).1 = 36 ∨ (quotedRun q ds).1 = 2 := by
  fun_induction quotedRun q ds with
  | case6 ds h h2 h3 h4 h5 h6 r ih => exact ih
  | case7 ds h h2 h3 h4 h5 h6 r ih => exact ih
  | _ => first | assumption | simp
theorem url_kind (ds : List Int) : (url ds).1 = 37 ∨ (url ds).1 = 3 := by
  fun_induction url ds with
  | case6 ds h h2 h3 h4 h5 r ih => exact ih
  | case7 ds h h2 h3 h4 h5 r ih => exact ih
  | _ => first | assumption | simp
theorem named_kind (ds : List Int) : (named ds).1.kind = 29 ∨ (named ds).1.kind = 27 ∨ (named ds).1.kind = 37 ∨ (named ds).1.kind = 3 := by
  unfold named; simp only []
  repeat' split
  · simp
  · have := url_kind (spaces (name ds).2.2.tail); simp only []; omega
  · simp
theorem numeric_kind (ds : List Int) : (numeric ds).1.kind = 26 ∨ (numeric ds).1.kind = 34 ∨ (numeric ds).1.kind = 30 := by
  unfold numeric; simp only []
  repeat' split
  all_goals simp
theorem ite_ok {P : Int → Prop} {c : Prop} [Decidable c] {a b : Int} (h1 : P a) (h2 : P b) : P (if c then a else b) := by split <;> assumption
structure NotSign (k : Int) : Prop where
  out : k ≠ 30 ∧ k ≠ 34 ∧ k ≠ 26 ∧ k ≠ 4 ∧ k ≠ 5 ∧ k ≠ 1 ∧ k ≠ 38 ∧ k ≠ 36 ∧ k ≠ 28 ∧ k ≠ 29 ∧ k ≠ 27
theorem signKind_ne (c : Int) : NotSign (signKind c) := by
  unfold signKind
  repeat (refine ite_ok ⟨by decide⟩ ?_)
  exact ⟨by decide⟩
inductive LoneIs (cs : List Int) (t : Tk) : Prop
  | num : counts (pk cs 0) (pk cs 1) (pk cs 2) → numEnd cs = (false, []) → t = ⟨30, 0, []⟩ → LoneIs cs t
  | pct : counts (pk cs 0) (pk cs 1) (pk cs 2) → numEnd cs = (false, [37]) → t = ⟨34, 0, []⟩ → LoneIs cs t
  | cdc : cs = [45, 45, 62] → t = ⟨4, 0, []⟩ → LoneIs cs t
  | cdo : cs = [60, 33, 45, 45] → t = ⟨5, 0, []⟩ → LoneIs cs t
  | sign (c : Int) : cs = [c] → t = ⟨signKind c, 0, []⟩ → c ≠ -1 → ¬ isSp c → c ≠ 34 → c ≠ 39 → ¬ isDg c → ¬ starts c → c ≠ 92 → LoneIs cs t
  | other : t.kind ≠ 30 → t.kind ≠ 34 → t.kind ≠ 4 → t.kind ≠ 5 → (t.kind = 26 ∨ t.kind = 38 ∨ t.kind = 36 ∨ t.kind = 2 ∨ t.kind = 28 ∨ t.kind = 29 ∨ t.kind = 27 ∨ t.kind = 37 ∨ t.kind = 3 ∨ t.kind = 1) → LoneIs cs t
theorem tail_nil {cs : List Int} (h0 : pk cs 0 ≠ -1) (h : cs.tail = []) : cs = [pk cs 0] := by
  cases cs with
  | nil => simp at h0
  | cons c t => simp at h; subst h; simp
theorem lone_is {cs : List Int} {t : Tk} (hm : ∀ c ∈ cs, c ≠ -1) (h : Lone cs t) : LoneIs cs t := by
  have hn := h.next
  have h0 := h.ne
  unfold next at hn
  rw [if_neg h0] at hn
  split at hn
  · rw [← (Prod.mk.inj hn).1]; exact .other (by simp) (by simp) (by simp) (by simp) (by simp)
  rename_i hsp
  split at hn
  · have hk := quotedRun_kind (pk cs 0) cs.tail
    rw [← (Prod.mk.inj hn).1]
    refine .other ?_ ?_ ?_ ?_ ?_ <;> simp only [] <;> omega
  rename_i hq
  split at hn
  · rw [← (Prod.mk.inj hn).1]; exact .other (by simp) (by simp) (by simp) (by simp) (by simp)
  split at hn
  · rename_i hc
    unfold numeric at hn
    simp only [] at hn
    split at hn
    · rw [← (Prod.mk.inj hn).1]; exact .other (by simp) (by simp) (by simp) (by simp) (by simp)
    · split at hn
      · rename_i hp
        simp only [Prod.mk.injEq] at hn
        refine .pct hc ?_ hn.1.symm
        have h2 : (numEnd cs).2 = [37] := by
          have := tail_nil (by rw [hp]; decide) hn.2.2
          rw [this, hp]
        rw [← h2, ← hn.2.1]
      · simp only [Prod.mk.injEq] at hn
        refine .num hc ?_ hn.1.symm
        rw [← hn.2.1, ← hn.2.2]
  rename_i hc
  split at hn
  · rename_i hx
    simp only [Prod.mk.injEq] at hn
    refine .cdc ?_ hn.1.symm
    match cs, hn.2.2, hx with
    | [a, b, c], _, hx => simp at hx; simp [hx]
    | [a, b], _, hx => simp at hx
    | [a], _, hx => simp at hx
    | [], _, hx => simp at hx
  split at hn
  · have hk := named_kind cs
    have ht : t = (named cs).1 := by rw [hn]
    rw [← ht] at hk
    exact .other (by omega) (by omega) (by omega) (by omega) (by omega)
  rename_i hi
  split at hn
  · rename_i hx
    simp only [Prod.mk.injEq] at hn
    refine .cdo ?_ hn.1.symm
    match cs, hn.2.2, hx with
    | [a, b, c, d], _, hx => simp at hx; simp [hx]
    | [a, b, c], _, hx => simp at hx
    | [a, b], _, hx => simp at hx
    | [a], _, hx => simp at hx
    | [], _, hx => simp at hx
  split at hn
  · rw [← (Prod.mk.inj hn).1]; exact .other (by simp) (by simp) (by simp) (by simp) (by simp)
  simp only [Prod.mk.injEq] at hn
  have he := tail_nil h0 hn.2.2
  refine .sign (pk cs 0) he hn.1.symm h0 hsp (fun hx => hq (.inl hx)) (fun hx => hq (.inr hx)) ?_ ?_ ?_
  · intro hd; apply hc; right
    unfold isDg at hd
    exact ⟨by omega, .inl hd⟩
  · intro hs; apply hi; right
    refine ⟨?_, .inl hs⟩
    unfold starts at hs; omega
  · intro hb; apply hi; right
    rw [hb]
    refine ⟨by decide, .inr ⟨rfl, ?_⟩⟩
    rw [he]; simp [isNl]
structure NumStop (r : List Int) : Prop where
  dg : ¬ isDg (pk r 0)
  dot : pk r 0 ≠ 46
  st : ¬ starts (pk r 0)
  hy : pk r 0 ≠ 45
  bs : pk r 0 ≠ 92
  pc : pk r 0 ≠ 37
theorem NumStop.power {r : List Int} (h : NumStop r) : ¬ power r := by
  intro hp
  have h1 : pk r 0 = 101 ∨ pk r 0 = 69 := hp.1
  apply h.st
  unfold starts; omega
theorem NumStop.ident {r : List Int} (h : NumStop r) : ¬ ident3 (pk r 0) (pk r 1) (pk r 2) := by
  intro hi
  rcases hi with ⟨hi, _⟩ | ⟨_, hi | hi⟩
  · exact h.hy hi
  · exact h.st hi
  · exact h.bs hi.1
theorem numeric_head {ds : List Int} (hc : counts (pk ds 0) (pk ds 1) (pk ds 2)) : ¬ (pk ds 0 = 47 ∧ pk ds 1 = 42) ∧ pk ds 0 ≠ -1 ∧ next ds = numeric ds := by
  have hf := counts_first hc
  have e : pk ds 0 ≠ 47 ∧ pk ds 0 ≠ -1 ∧ ¬ isSp (pk ds 0) ∧ ¬ (pk ds 0 = 34 ∨ pk ds 0 = 39) ∧ pk ds 0 ≠ 35 := by
    unfold isDg at hf; unfold isSp isNl; omega
  refine ⟨fun hx => e.1 hx.1, e.2.1, ?_⟩
  unfold next
  rw [if_neg e.2.1, if_neg e.2.2.1, if_neg e.2.2.2.1, if_neg (fun hx => e.2.2.2.2 hx.1), if_pos hc]
theorem step_num {cs : List Int} (hm : ∀ c ∈ cs, c ≠ -1) (hc : counts (pk cs 0) (pk cs 1) (pk cs 2)) (he : numEnd cs = (false, [])) (r : List Int) (hs : NumStop r) : Step ⟨30, 0, []⟩ cs r := by
  have hne : cs ≠ [] := by rintro rfl; simp [counts, num2, isDg] at hc
  obtain ⟨h1, h2, h3⟩ := numeric_head (counts_app r hc)
  refine ⟨h1, h2, ?_⟩
  rw [h3]
  have hx : numEnd (cs ++ r) = (false, r) := by
    rcases numEnd_app hne he hm with ⟨_, h⟩ | ⟨_, h⟩
    · exact h r hs.dg hs.dot hs.power
    · exact h r hs.dg
  unfold numeric
  simp only [hx]
  rw [if_neg hs.ident, if_neg hs.pc]
theorem step_pct {cs : List Int} (hm : ∀ c ∈ cs, c ≠ -1) (hc : counts (pk cs 0) (pk cs 1) (pk cs 2)) (he : numEnd cs = (false, [37])) (r : List Int) : Step ⟨34, 0, []⟩ cs r := by
  obtain ⟨h1, h2, h3⟩ := numeric_head (counts_app r hc)
  refine ⟨h1, h2, ?_⟩
  rw [h3]
  unfold numeric
  simp only [numEnd_pct he hm r, pk_cons_zero]
  rw [if_neg (by unfold ident3 starts esc; omega), if_pos trivial]
  rfl
def unitMode (cs : List Int) : Nat := if 101 ∈ cs ∨ 69 ∈ cs then 3 else 2
theorem step_dim (ascii may : Bool) {cs us : List Int} (hm : ∀ c ∈ cs, c ≠ -1) (hc : counts (pk cs 0) (pk cs 1) (pk cs 2)) (he : numEnd cs = (false, [])) (hg : Good ascii us) (hne : us ≠ []) (r : List Int) (hs : NameEnd may r) :
    Step ⟨26, cs.length, []⟩ (cs ++ ident ascii may (unitMode cs) us) r := by
  have hcs : cs ≠ [] := by rintro rfl; simp [counts, num2, isDg] at hc
  have e : cs ++ ident ascii may (unitMode cs) us ++ r = cs ++ (ident ascii may (unitMode cs) us ++ r) := by simp
  have hmode : unitMode cs ≠ 1 := by unfold unitMode; split <;> decide
  obtain ⟨i1, i2, i3, i4⟩ := ident_begins ascii may (unitMode cs) hmode us r hne hs
  obtain ⟨h1, h2, h3⟩ := numeric_head (counts_app (ident ascii may (unitMode cs) us ++ r) hc)
  have hdg : ¬ isDg (pk (ident ascii may (unitMode cs) us ++ r) 0) := by unfold starts at i4; unfold isDg; omega
  have hdot : pk (ident ascii may (unitMode cs) us ++ r) 0 ≠ 46 := by unfold starts at i4; omega
  have hx : numEnd (cs ++ (ident ascii may (unitMode cs) us ++ r)) = (false, ident ascii may (unitMode cs) us ++ r) := by
    rcases numEnd_app hcs he hm with ⟨h, h'⟩ | ⟨_, h⟩
    · have hmd : unitMode cs = 2 := by
        unfold unitMode
        rw [if_neg]
        rintro (hx | hx)
        · exact (h _ hx).1 rfl
        · exact (h _ hx).2 rfl
      refine h' _ hdg hdot ?_
      rw [hmd]
      exact unit_no_power ascii may us r hne hs
    · exact h _ hdg
  refine ⟨by rw [e]; exact h1, by rw [e]; exact h2, ?_⟩
  rw [e, h3]
  unfold numeric
  simp only [hx]
  rw [if_pos i1]
  simp only [name_ident ascii may _ us r hg hs.stop, Bool.or_false]
  simp
def SignEnd (c : Int) (r : List Int) : Prop :=
  (c = 35 ∨ c = 43 ∨ c = 45 ∨ c = 46 ∨ c = 60 ∨ c = 64 ∨ c = 47) → (¬ cont (pk r 0) ∧ pk r 0 ≠ 92 ∧ pk r 0 ≠ 46 ∧ pk r 0 ≠ 33 ∧ pk r 0 ≠ 42)
theorem step_sign (c : Int) (h1 : c ≠ -1) (h2 : ¬ isSp c) (h3 : c ≠ 34) (h4 : c ≠ 39) (h5 : ¬ isDg c) (h6 : ¬ starts c) (h7 : c ≠ 92) (r : List Int) (hs : SignEnd c r) : Step ⟨signKind c, 0, []⟩ [c] r := by
  refine ⟨?_, by simpa using h1, ?_⟩
  · simp only [List.cons_append, List.nil_append, pk_cons_zero, pk_cons_one]
    rintro ⟨hx, hy⟩
    exact (hs (by omega)).2.2.2.2 hy
  · simp only [List.cons_append, List.nil_append]
    unfold next
    simp only [pk_cons_zero, pk_cons_one, pk_cons_two, pk_cons_three, List.tail_cons]
    rw [if_neg h1, if_neg h2, if_neg (by omega), if_neg, if_neg, if_neg, if_neg, if_neg, if_neg]
    · rintro ⟨hx, hy⟩
      have := hs (by omega)
      rcases cont_of_ident3 hy with hy | hy
      · exact this.1 hy
      · exact this.2.1 hy.1
    · rintro ⟨hx, hy, _⟩; exact (hs (by omega)).2.2.2.1 hy
    · rintro (⟨hx, hy⟩ | ⟨hx, hy | hy⟩)
      · have := hs (by omega)
        have h45 : ¬ starts (pk r 0) ∧ pk r 0 ≠ 45 := ⟨fun hz => this.1 (.inl hz), fun hz => this.1 (.inr (.inr hz))⟩
        rcases hy with hy | hy | hy
        · exact h45.1 hy
        · exact h45.2 hy
        · exact this.2.1 hy.1
      · exact h6 hy
      · exact h7 hy.1
    · rintro ⟨hx, hy, _⟩; exact (hs (by omega)).1 (.inr (.inr hy))
    · rintro (⟨hx, hy⟩ | ⟨hx, hy⟩)
      · have := hs (by omega)
        rcases hy with hy | ⟨hy, _⟩
        · exact this.1 (.inr (.inl hy))
        · exact this.2.2.1 hy
      · rcases hy with hy | ⟨hy, hz⟩
        · exact h5 hy
        · exact (hs (by omega)).1 (.inr (.inl hz))
    · rintro ⟨hx, hy⟩
      have := hs (by omega)
      rcases hy with hy | hy
      · exact this.1 hy
      · exact this.2.1 hy.1
theorem step_cdc (r : List Int) : Step ⟨4, 0, []⟩ [45, 45, 62] r := by
  refine ⟨by simp, by simp, ?_⟩
  simp only [List.cons_append, List.nil_append]
  unfold next
  simp [isSp, isNl, counts, num2, isDg]
theorem step_cdo (r : List Int) : Step ⟨5, 0, []⟩ [60, 33, 45, 45] r := by
  refine ⟨by simp, by simp, ?_⟩
  simp only [List.cons_append, List.nil_append]
  unfold next
  simp [isSp, isNl, counts, num2, isDg, ident3, starts, esc]
end Css
end Go.Proofs.YtkfdcbdlcipmfaaGreatFmt
namespace Go.Proofs.YtkfdcbdlcipmfaaGreatFmt
namespace Css
structure Ch where
  tk : Option Tk
  out : List Int
def flat (cl : List Ch) : List Int := cl.flatMap (·.out)
@[simp] theorem flat_nil : flat [] = [] := rfl
@[simp] theorem flat_cons (c : Ch) (cl : List Ch) : flat (c :: cl) = c.out ++ flat cl := rfl
theorem flat_append (a b : List Ch) : flat (a ++ b) = flat a ++ flat b := by simp [flat]
def Blank (w : List Int) : Prop := w ≠ [] ∧ ∀ c ∈ w, c = 32 ∨ c = 10
def rd : List (Tk × List Int × List Int) → Bool → List (Tk × List Int × Bool)
  | [], _ => []
  | x :: l, sp => if x.1.kind = 38 then rd l true else (x.1, part x.2.1 x.2.2, sp) :: rd l false
def reads (ds : List Int) (sp : Bool) : List (Tk × List Int × Bool) × Nat × Bool := (rd (tokens ds).1 sp, (tokens ds).2.1, (tokens ds).2.2)
theorem reads_step {t : Tk} {out r : List Int} (h : Step t out r) (hk : t.kind ≠ 38) (sp : Bool) :
    reads (out ++ r) sp = ((t, out, sp) :: (reads r false).1, (reads r false).2.1, (reads r false).2.2) := by
  unfold reads
  rw [h.tokens]
  simp only [rd]
  rw [if_neg hk, part_append]
theorem next_blank {c : Int} (h : isSp c) (r : List Int) : next (c :: r) = (⟨38, 0, []⟩, false, spaces r) := by
  unfold next
  simp only [pk_cons_zero]
  rw [if_neg (by unfold isSp isNl at h; omega), if_pos h]
  have : spaces (c :: r) = spaces r := by rw [spaces, if_pos h]
  rw [this]
theorem tokens_blank {c : Int} (h : isSp c) (r : List Int) : tokens (c :: r) = ((⟨38, 0, []⟩, c :: r, spaces r) :: (tokens (spaces r)).1, (tokens (spaces r)).2.1, (tokens (spaces r)).2.2) := by
  have hc : comments (c :: r) = (0, false, c :: r) := comments_none (by rw [pk_cons_zero]; unfold isSp isNl at h; omega)
  rw [tokens]
  simp only [hc]
  rw [dif_neg (by rw [pk_cons_zero]; unfold isSp isNl at h; omega)]
  simp only [next_blank h, Bool.false_or, Nat.zero_add]
theorem reads_blank_one {c : Int} (h : isSp c) (r : List Int) (sp : Bool) : reads (c :: r) sp = reads (spaces r) true := by
  unfold reads
  rw [tokens_blank h]
  simp [rd]
theorem reads_spaces (r : List Int) : reads (spaces r) true = reads r true := by
  induction r with
  | nil => rfl
  | cons c t ih =>
    by_cases h : isSp c
    · have e : spaces (c :: t) = spaces t := by rw [spaces, if_pos h]
      rw [e, reads_blank_one h]
    · have e : spaces (c :: t) = c :: t := by rw [spaces, if_neg h]
      rw [e]
theorem reads_blank {w : List Int} (hw : Blank w) (r : List Int) (sp : Bool) : reads (w ++ r) sp = reads r true := by
  obtain ⟨hne, hall⟩ := hw
  induction w generalizing sp with
  | nil => exact absurd rfl hne
  | cons c t ih =>
    have hc : isSp c := by have := hall c (by simp); unfold isSp isNl; omega
    rw [List.cons_append, reads_blank_one hc, reads_spaces]
    cases t with
    | nil => rfl
    | cons d t => exact ih true (by simp) (fun x hx => hall x (List.mem_cons_of_mem _ hx))
inductive Chain : List Ch → List Int → Prop
  | nil (r : List Int) : Chain [] r
  | tok (t : Tk) (out : List Int) (cl : List Ch) (r : List Int) : t.kind ≠ 38 → Step t out (flat cl ++ r) → Chain cl r → Chain (⟨some t, out⟩ :: cl) r
  | blank (w : List Int) (cl : List Ch) (r : List Int) : Blank w → Chain cl r → Chain (⟨none, w⟩ :: cl) r
def exp : List Ch → Bool → List (Tk × List Int × Bool)
  | [], _ => []
  | ⟨some t, out⟩ :: cl, sp => (t, out, sp) :: exp cl false
  | ⟨none, _⟩ :: cl, _ => exp cl true
def expSp : List Ch → Bool → Bool
  | [], sp => sp
  | ⟨some _, _⟩ :: cl, _ => expSp cl false
  | ⟨none, _⟩ :: cl, _ => expSp cl true
theorem exp_append (a b : List Ch) : ∀ sp, exp (a ++ b) sp = exp a sp ++ exp b (expSp a sp) := by
  induction a with
  | nil => intro sp; rfl
  | cons c a ih =>
    intro sp
    obtain ⟨t, out⟩ := c
    cases t with
    | some t => simp [exp, expSp, ih]
    | none => simp [exp, expSp, ih]
theorem chain_reads {cl : List Ch} {r : List Int} (h : Chain cl r) : ∀ sp, reads (flat cl ++ r) sp = (exp cl sp ++ (reads r (expSp cl sp)).1, (reads r (expSp cl sp)).2.1, (reads r (expSp cl sp)).2.2) := by
  induction h with
  | nil r => intro sp; simp [exp, expSp]
  | tok t out cl r hk hs _ ih =>
    intro sp
    rw [flat_cons, List.append_assoc, reads_step hs hk, ih]
    simp [exp, expSp]
  | blank w cl r hw _ ih =>
    intro sp
    rw [flat_cons, List.append_assoc, reads_blank hw, ih]
    simp [exp, expSp]
theorem chain_append {a b : List Ch} {r : List Int} (h : Chain a (flat b ++ r)) (h2 : Chain b r) : Chain (a ++ b) r := by
  generalize e : flat b ++ r = x at h
  induction h with
  | nil => exact h2
  | tok t out cl r' hk hs _ ih =>
    subst e
    exact .tok t out _ _ hk (by show Step t out (flat (cl ++ b) ++ r); rw [flat_append, List.append_assoc]; exact hs) (ih rfl)
  | blank w cl r' hw _ ih =>
    subst e
    exact .blank w _ _ hw (ih rfl)
inductive T where
  | mk (kind : Int) (unit : Nat) (text : List Int) (before after : Bool) (kids : List T)
def T.kind : T → Int | .mk k _ _ _ _ _ => k
def T.unit : T → Nat | .mk _ u _ _ _ _ => u
def T.text : T → List Int | .mk _ _ x _ _ _ => x
def T.before : T → Bool | .mk _ _ _ b _ _ => b
def T.after : T → Bool | .mk _ _ _ _ a _ => a
def T.kids : T → List T | .mk _ _ _ _ _ l => l
def closer (k : Int) : Int := if k = 27 ∨ k = 33 then 41 else if k = 32 then 93 else if k = 31 then 125 else 0
def closeKind (k : Int) : Int := if k = 27 ∨ k = 33 then 8 else if k = 32 then 7 else 6
def opens (k : Int) : Prop := k = 27 ∨ k = 33 ∨ k = 32 ∨ k = 31
instance (k : Int) : Decidable (opens k) := by unfold opens; infer_instance
inductive Own (ascii may : Bool) (t : T) : List Int → Prop
  | ident : t.kind = 29 → Own ascii may t (ident ascii may 0 t.text)
  | func (m : Bool) : t.kind = 27 → Own ascii may t (ident ascii m 0 t.text ++ [40])
  | dim : t.kind = 26 → Own ascii may t (t.text.take t.unit ++ ident ascii may (unitMode (t.text.take t.unit)) (t.text.drop t.unit))
  | atk : t.kind = 1 → Own ascii may t (64 :: ident ascii may 0 t.text)
  | hash : t.kind = 28 → Own ascii may t (35 :: ident ascii may 1 t.text)
  | str (q : Int) (out : List Int) : t.kind = 36 → (q = 34 ∨ q = 39) → StrOut q ascii t.text out → Own ascii may t (q :: (out ++ [q]))
  | plain : t.kind ≠ 29 → t.kind ≠ 27 → t.kind ≠ 26 → t.kind ≠ 1 → t.kind ≠ 28 → t.kind ≠ 36 → Own ascii may t t.text
def tkOf (t : T) : Tk :=
  if t.kind = 26 then ⟨26, t.unit, []⟩
  else if t.kind = 29 ∨ t.kind = 27 ∨ t.kind = 1 ∨ t.kind = 28 ∨ t.kind = 36 then ⟨t.kind, 0, t.text⟩
  else ⟨t.kind, 0, []⟩
def headBefore : List T → Bool
  | [] => false
  | t :: _ => t.before
inductive Prints (ascii : Bool) : List T → Bool → List Ch → Prop
  | nil : Prints ascii [] false []
  | last (w : List Int) : Blank w → Prints ascii [] true [⟨none, w⟩]
  | plain (t : T) (ts : List T) (has : Bool) (ws : List Ch) (out : List Int) (rest : List Ch) :
      (has = true → ∃ w, Blank w ∧ ws = [⟨none, w⟩]) → (has = false → ws = []) →
      ¬ opens t.kind →
      Own ascii (t.after || headBefore ts) t out →
      Prints ascii ts (t.after || headBefore ts) rest →
      Prints ascii (t :: ts) has (ws ++ ⟨some (tkOf t), out⟩ :: rest)
  | opened (t : T) (ts : List T) (has : Bool) (ws nl : List Ch) (out : List Int) (kc rest : List Ch) :
      (has = true → ∃ w, Blank w ∧ ws = [⟨none, w⟩]) → (has = false → ws = []) →
      opens t.kind →
      Own ascii (t.after || headBefore ts) t out →
      (nl = [] ∨ ∃ w, Blank w ∧ nl = [⟨none, w⟩]) →
      Prints ascii t.kids (headBefore t.kids) kc →
      Prints ascii ts (t.after || headBefore ts) rest →
      Prints ascii (t :: ts) has (ws ++ ⟨some (tkOf t), out⟩ :: (nl ++ (kc ++ ⟨some ⟨closeKind t.kind, 0, []⟩, [closer t.kind]⟩ :: rest)))
def signLike (k : Int) : Prop := k = 31 ∨ k = 32 ∨ k = 33 ∨ k = 9 ∨ k = 10 ∨ k = 35 ∨ k = 4 ∨ k = 5 ∨ (11 ≤ k ∧ k ≤ 25)
instance (k : Int) : Decidable (signLike k) := by unfold signLike; infer_instance
inductive OK1 (ascii : Bool) (t : T) : Prop
  | name : (t.kind = 29 ∨ t.kind = 28 ∨ t.kind = 1) → t.text ≠ [] → Good ascii t.text → OK1 ascii t
  | func : t.kind = 27 → t.text ≠ [] → Good ascii t.text → isUrlB (enc t.text) = false → OK1 ascii t
  | str : t.kind = 36 → Good ascii t.text → OK1 ascii t
  | num : (t.kind = 30 ∨ t.kind = 34) → Good ascii t.text → Lone t.text ⟨t.kind, 0, []⟩ → OK1 ascii t
  | dim : t.kind = 26 → Good ascii t.text → 0 < t.unit → t.unit < t.text.length → Lone (t.text.take t.unit) ⟨30, 0, []⟩ → OK1 ascii t
  | sign : signLike t.kind → Good ascii t.text → Lone t.text ⟨t.kind, 0, []⟩ → OK1 ascii t
def cls (k : Int) : Nat := if k = 29 ∨ k = 1 ∨ k = 28 ∨ k = 26 ∨ k = 27 then 1 else if k = 30 ∨ k = 34 then 2 else 0
def signOf (k : Int) (x : List Int) : Int :=
  match x with
  | [c] => if cls k = 0 ∧ k ≠ 36 then c else 0
  | _ => 0
def apart (a b : T) : Prop :=
  if cls a.kind ≠ 0 ∧ a.kind ≠ 27 then
    cls b.kind ≠ 0 ∨ b.kind = 22 ∨ b.kind = 4 ∨ b.kind = 33 ∨ b.kind = 11 ∨ b.kind = 17 ∨ b.kind = 23 ∨ b.kind = 20
  else
    (signOf a.kind a.text = 35 ∨ signOf a.kind a.text = 45 ∨ signOf a.kind a.text = 64 ∨ signOf a.kind a.text = 43 ∨ signOf a.kind a.text = 46 ∨ signOf a.kind a.text = 60 ∨ signOf a.kind a.text = 47 ∨ signOf a.kind a.text = 33 ∨ signOf a.kind a.text = 37 ∨ signOf a.kind a.text = 63)
    ∧ (cls b.kind ≠ 0 ∨ b.kind = 4 ∨ b.kind = 5 ∨ (signOf b.kind b.text ≠ 0 ∧ signOf b.kind b.text ≠ 44 ∧ signOf b.kind b.text ≠ 59 ∧ signOf b.kind b.text ≠ 58 ∧ signOf b.kind b.text ≠ 123 ∧ signOf b.kind b.text ≠ 91 ∧ signOf b.kind b.text ≠ 40))
instance (a b : T) : Decidable (apart a b) := by unfold apart; infer_instance
def EndOk (may : Bool) (t : T) (r : List Int) : Prop :=
  ((t.kind = 29 ∨ t.kind = 28 ∨ t.kind = 1 ∨ t.kind = 26) → NameEnd may r ∧ pk r 0 ≠ 40)
  ∧ (t.kind = 30 → NumStop r)
  ∧ (∀ c, t.text = [c] → signLike t.kind → SignEnd c r)
theorem good_ne {ascii : Bool} {cs : List Int} (h : Good ascii cs) : ∀ c ∈ cs, c ≠ -1 := by
  intro c hc; have := (h c hc).1; unfold Valid at this; omega
theorem good_sub {ascii : Bool} {a b : List Int} (h : Good ascii b) (hs : ∀ c ∈ a, c ∈ b) : Good ascii a := fun c hc => h c (hs c hc)
theorem step_own {ascii may : Bool} {t : T} {out : List Int} (hok : OK1 ascii t) (ho : Own ascii may t out) {r : List Int} (he : EndOk may t r) : Step (tkOf t) out r := by
  cases ho with
  | ident hk =>
    have hx := he.1 (.inl hk)
    cases hok with
    | name _ hne hg =>
      have : tkOf t = ⟨29, 0, t.text⟩ := by simp [tkOf, hk]
      rw [this]; exact step_ident ascii may _ r hg hne hx.1 hx.2
    | func h | str h | dim h => omega
    | num h => omega
    | sign h => unfold signLike at h; omega
  | func m hk =>
    cases hok with
    | func _ hne hg hu =>
      have : tkOf t = ⟨27, 0, t.text⟩ := by simp [tkOf, hk]
      rw [this]; exact step_function ascii m _ r hg hne hu
    | name h | num h => omega
    | str h | dim h => omega
    | sign h => unfold signLike at h; omega
  | dim hk =>
    have hx := he.1 (.inr (.inr (.inr hk)))
    cases hok with
    | dim _ hg hu hl hlone =>
      have hm : ∀ c ∈ t.text.take t.unit, c ≠ -1 := fun c hc => good_ne hg c (List.mem_of_mem_take hc)
      have e : tkOf t = ⟨26, (t.text.take t.unit).length, []⟩ := by simp [tkOf, hk]; omega
      rw [e]
      have hnum := lone_is hm hlone
      cases hnum with
      | num hc hn _ =>
        exact step_dim ascii may hm hc hn (good_sub hg fun c hc => List.mem_of_mem_drop hc) (by intro h0; have := congrArg List.length h0; simp at this; omega) r hx.1
      | pct _ _ h | cdc _ h | cdo _ h => simp at h
      | sign c _ h => have := (signKind_ne c).out.1; simp at h; omega
      | other h => simp at h
    | name h | num h => omega
    | str h | func h => omega
    | sign h => unfold signLike at h; omega
  | atk hk =>
    have hx := he.1 (.inr (.inr (.inl hk)))
    cases hok with
    | name _ hne hg =>
      have : tkOf t = ⟨1, 0, t.text⟩ := by simp [tkOf, hk]
      rw [this]; exact step_at ascii may _ r hg hne hx.1
    | func h | str h | dim h => omega
    | num h => omega
    | sign h => unfold signLike at h; omega
  | hash hk =>
    have hx := he.1 (.inr (.inl hk))
    cases hok with
    | name _ hne hg =>
      have : tkOf t = ⟨28, 0, t.text⟩ := by simp [tkOf, hk]
      rw [this]; exact step_hash ascii may _ r hg hne hx.1
    | func h | str h | dim h => omega
    | num h => omega
    | sign h => unfold signLike at h; omega
  | str q body hk hq hb =>
    cases hok with
    | str _ hg =>
      have : tkOf t = ⟨36, 0, t.text⟩ := by simp [tkOf, hk]
      rw [this]; exact step_string q hq ascii _ _ r hb hg
    | name h | num h => omega
    | dim h | func h => omega
    | sign h => unfold signLike at h; omega
  | plain k1 k2 k3 k4 k5 k6 =>
    have e : tkOf t = ⟨t.kind, 0, []⟩ := by
      unfold tkOf; rw [if_neg k3, if_neg (by omega)]
    rw [e]
    cases hok with
    | name h => omega
    | func h | str h | dim h => omega
    | num hk hg hl =>
      have hm := good_ne hg
      rcases hk with hk | hk
      · rw [hk] at hl ⊢
        cases lone_is hm hl with
        | num hc hn _ => exact step_num hm hc hn r (he.2.1 hk)
        | pct _ _ h | cdc _ h | cdo _ h => simp at h
        | sign c _ h => have := (signKind_ne c).out.1; simp at h; omega
        | other h => simp at h
      · rw [hk] at hl ⊢
        cases lone_is hm hl with
        | pct hc hn _ => exact step_pct hm hc hn r
        | num _ _ h | cdc _ h | cdo _ h => simp at h
        | sign c _ h => have := (signKind_ne c).out.2.1; simp at h; omega
        | other h h2 => simp at h2
    | sign hk hg hl =>
      have hm := good_ne hg
      cases lone_is hm hl with
      | num _ _ h | pct _ _ h => simp at h; unfold signLike at hk; omega
      | cdc h h2 => rw [h2, h]; exact step_cdc r
      | cdo h h2 => rw [h2, h]; exact step_cdo r
      | sign c h h2 a1 a2 a3 a4 a5 a6 a7 =>
        rw [h2, h]
        exact step_sign c a1 a2 a3 a4 a5 a6 a7 r (he.2.2 c h hk)
      | other h1 h2 h3 h4 h5 => simp at h1 h2 h3 h4 h5; unfold signLike at hk; omega
theorem tkOf_kind {t : T} : (tkOf t).kind = t.kind := by
  unfold tkOf; split
  · simp [*]
  · split <;> rfl
end Css
end Go.Proofs.YtkfdcbdlcipmfaaGreatFmt
namespace Go.Proofs.YtkfdcbdlcipmfaaGreatFmt
namespace Css
inductive SignText (t : T) : Prop
  | one (c : Int) : t.text = [c] → signKind c = t.kind → 1 ≤ c → ¬ isSp c → c ≠ 34 → c ≠ 39 → ¬ isDg c → ¬ starts c → c ≠ 92 → SignText t
  | cdc : t.kind = 4 → t.text = [45, 45, 62] → SignText t
  | cdo : t.kind = 5 → t.text = [60, 33, 45, 45] → SignText t
theorem sign_text {ascii : Bool} {t : T} (hok : OK1 ascii t) (hk : signLike t.kind) : SignText t := by
  cases hok with
  | name h | num h => unfold signLike at hk; omega
  | func h | str h | dim h => unfold signLike at hk; omega
  | sign _ hg hl =>
    have hm := good_ne hg
    cases lone_is hm hl with
    | num _ _ h | pct _ _ h => simp at h; unfold signLike at hk; omega
    | cdc h h2 => simp at h2; exact .cdc h2 h
    | cdo h h2 => simp at h2; exact .cdo h2 h
    | sign c h h2 a1 a2 a3 a4 a5 a6 a7 =>
      simp at h2
      have hv := (hg c (by rw [h]; simp)).1
      exact .one c h h2.symm hv.1 a2 a3 a4 a5 a6 a7
    | other h1 h2 h3 h4 h5 => simp at h1 h2 h3 h4 h5; unfold signLike at hk; omega
def EndR (r : List Int) : Prop := pk r 0 = 41 ∨ pk r 0 = 93 ∨ pk r 0 = 125 ∨ pk r 0 = 59
theorem endOk_R {may : Bool} (t : T) {r : List Int} (h : EndR r) : EndOk may t r := by
  unfold EndR at h
  refine ⟨fun _ => ⟨⟨⟨?_, ?_, .inr ?_⟩, ?_, ?_⟩, ?_⟩, fun _ => ⟨?_, ?_, ?_, ?_, ?_, ?_⟩, fun c _ _ _ => ⟨?_, ?_, ?_, ?_, ?_⟩⟩
  all_goals (try unfold cont); (try unfold starts); (try unfold isDg); (try unfold isSp); (try unfold isNl); omega
theorem endOk_blank (t : T) {r : List Int} (h : pk r 0 = 32 ∨ pk r 0 = 10) : EndOk true t r := by
  refine ⟨fun _ => ⟨⟨⟨?_, ?_, .inl rfl⟩, ?_, ?_⟩, ?_⟩, fun _ => ⟨?_, ?_, ?_, ?_, ?_, ?_⟩, fun c _ _ _ => ⟨?_, ?_, ?_, ?_, ?_⟩⟩
  all_goals (try unfold cont); (try unfold starts); (try unfold isDg); omega
theorem signKind_of {c k : Int} (h : signKind c = k) (c0 k0 : Int) (e : signKind c0 = k0) (hne : k ≠ k0) : c ≠ c0 := by
  rintro rfl; rw [h] at e; exact hne e
theorem own_first {ascii may : Bool} {u : T} {out : List Int} (hok : OK1 ascii u) (hc : cls u.kind = 0) (ho : Own ascii may u out) (r : List Int) :
    (u.kind = 36 ∧ (pk (out ++ r) 0 = 34 ∨ pk (out ++ r) 0 = 39)) ∨ (signLike u.kind ∧ out = u.text) := by
  cases ho with
  | ident hk | func _ hk | dim hk | atk hk | hash hk => unfold cls at hc; rw [if_pos (by omega)] at hc; omega
  | str q body hk hq hb => left; exact ⟨hk, by simpa using hq⟩
  | plain k1 k2 k3 k4 k5 k6 =>
    right
    refine ⟨?_, rfl⟩
    cases hok with
    | name h => omega
    | num h => unfold cls at hc; rw [if_neg (by omega), if_pos h] at hc; omega
    | func h | str h | dim h => omega
    | sign h => exact h
theorem endOk_next {ascii may may2 : Bool} {t u : T} {out : List Int} (ht : OK1 ascii t) (hu : OK1 ascii u) (hn : ¬ apart t u) (ho : Own ascii may2 u out) (r : List Int) : EndOk may t (out ++ r) := by
  unfold apart at hn
  by_cases hc : cls t.kind ≠ 0 ∧ t.kind ≠ 27
  · rw [if_pos hc] at hn
    have hcu : cls u.kind = 0 := by omega
    have hno : ¬ signLike t.kind := by
      intro hs
      apply hc.1
      unfold signLike at hs; unfold cls; rw [if_neg (by omega), if_neg (by omega)]
    rcases own_first hu hcu ho r with ⟨_, h⟩ | ⟨hs, rfl⟩
    · refine ⟨fun _ => ⟨⟨⟨?_, ?_, .inr ?_⟩, ?_, ?_⟩, ?_⟩, fun _ => ⟨?_, ?_, ?_, ?_, ?_, ?_⟩, fun c _ hx => absurd hx hno⟩
      all_goals (try unfold cont); (try unfold starts); (try unfold isDg); (try unfold isSp); (try unfold isNl); omega
    · cases sign_text hu hs with
      | cdc h => omega
      | cdo h h2 =>
        rw [h2]
        refine ⟨fun _ => ⟨⟨⟨?_, ?_, .inr ?_⟩, ?_, ?_⟩, ?_⟩, fun _ => ⟨?_, ?_, ?_, ?_, ?_, ?_⟩, fun c _ hx => absurd hx hno⟩
        all_goals simp [cont, starts, isDg, isSp, isNl]
      | one c h h2 h3 h4 h5 h6 h7 h8 h9 =>
        rw [h]
        have e : pk ([c] ++ r) 0 = c := by simp
        have n1 : c ≠ 45 := signKind_of h2 45 22 (by decide) (by omega)
        have n2 : c ≠ 62 := signKind_of h2 62 20 (by decide) (by omega)
        have n3 : c ≠ 43 := signKind_of h2 43 23 (by decide) (by omega)
        have n4 : c ≠ 40 := signKind_of h2 40 33 (by decide) (by omega)
        have n5 : c ≠ 46 := signKind_of h2 46 17 (by decide) (by omega)
        have n6 : c ≠ 37 := signKind_of h2 37 11 (by decide) (by omega)
        have hcont : ¬ cont c := by rintro (h | h | h) <;> contradiction
        refine ⟨fun _ => ⟨⟨⟨?_, ?_, .inr ?_⟩, ?_, ?_⟩, ?_⟩, fun _ => ⟨?_, ?_, ?_, ?_, ?_, ?_⟩, fun c _ hx => absurd hx hno⟩
        all_goals (rw [e]; assumption)
  · rw [if_neg hc] at hn
    refine ⟨fun hk => ?_, fun hk => ?_, ?_⟩
    · exact absurd ⟨by unfold cls; rw [if_pos (by omega)]; omega, by omega⟩ hc
    · exact absurd ⟨by unfold cls; rw [if_neg (by omega), if_pos (by omega)]; omega, by omega⟩ hc
    · intro c hx hs hbad
      have hsig : signOf t.kind t.text = c := by
        have hcl : cls t.kind = 0 := by unfold signLike at hs; unfold cls; rw [if_neg (by omega), if_neg (by omega)]
        rw [hx]; unfold signOf; simp only []; rw [if_pos ⟨hcl, by unfold signLike at hs; omega⟩]
      rw [hsig] at hn
      have hn2 := fun h => hn ⟨by omega, h⟩
      have hcu : cls u.kind = 0 := by
        by_cases h0 : cls u.kind = 0
        · exact h0
        · exact absurd (.inl h0) hn2
      rcases own_first hu hcu ho r with ⟨_, h⟩ | ⟨hsu, rfl⟩
      · refine ⟨?_, ?_, ?_, ?_, ?_⟩
        all_goals (try unfold cont); (try unfold starts); (try unfold isDg); omega
      · cases sign_text hu hsu with
        | cdc h => exact absurd (.inr (.inl h)) hn2
        | cdo h => exact absurd (.inr (.inr (.inl h))) hn2
        | one d h h2 h3 h4 h5 h6 h7 h8 h9 =>
          rw [h]
          have e : pk ([d] ++ r) 0 = d := by simp
          have hsu2 : signOf u.kind u.text = d := by
            rw [h]; unfold signOf; simp only []; rw [if_pos ⟨hcu, by unfold signLike at hsu; omega⟩]
          rw [hsu2] at hn2
          have hd : d = 44 ∨ d = 59 ∨ d = 58 ∨ d = 123 ∨ d = 91 ∨ d = 40 := by
            by_cases hx : d = 44 ∨ d = 59 ∨ d = 58 ∨ d = 123 ∨ d = 91 ∨ d = 40
            · exact hx
            · exact absurd (.inr (.inr (.inr (by omega)))) hn2
          rw [e]
          refine ⟨?_, ?_, ?_, ?_, ?_⟩
          all_goals (try unfold cont); (try unfold starts); (try unfold isDg); omega
theorem endOk_opens {ascii may : Bool} {t : T} (ht : OK1 ascii t) (ho : opens t.kind) (r : List Int) : EndOk may t r := by
  refine ⟨fun h => by unfold opens at ho; omega, fun h => by unfold opens at ho; omega, ?_⟩
  intro c hx hs hbad
  exfalso
  cases sign_text ht hs with
  | cdc h => unfold opens at ho; omega
  | cdo h => unfold opens at ho; omega
  | one d h h2 =>
    rw [hx] at h
    simp at h
    subst h
    have : t.kind = 31 ∨ t.kind = 32 ∨ t.kind = 33 := by unfold signLike at hs; unfold opens at ho; omega
    rw [← h2] at this
    rcases hbad with rfl | rfl | rfl | rfl | rfl | rfl | rfl <;> simp [signKind] at this
inductive OKl (ascii : Bool) : List T → Prop
  | nil : OKl ascii []
  | cons (t : T) (ts : List T) : OK1 ascii t → OKl ascii t.kids → OKl ascii ts → (∀ u us, ts = u :: us → ¬ opens t.kind → apart t u → (t.after || u.before) = true) → OKl ascii (t :: ts)
def endHas : List T → Bool → Bool
  | [], has => has
  | [t], _ => t.after
  | _ :: t :: ts, has => endHas (t :: ts) has
theorem endHas_any (t : T) (ts : List T) : ∀ a b, endHas (t :: ts) a = endHas (t :: ts) b := by
  induction ts generalizing t with
  | nil => intro a b; rfl
  | cons u us ih => intro a b; exact ih u a b
theorem endHas_tail (t u : T) (us : List T) (a b : Bool) : endHas (t :: u :: us) a = endHas (u :: us) b := endHas_any u us a b
theorem blank_first {w : List Int} (hw : Blank w) (r : List Int) : pk (w ++ r) 0 = 32 ∨ pk (w ++ r) 0 = 10 := by
  obtain ⟨hne, hall⟩ := hw
  cases w with
  | nil => exact absurd rfl hne
  | cons c t => simpa using hall c (by simp)
theorem endOk_list {ascii : Bool} {t : T} {ts : List T} {rest : List Ch} (ht : OK1 ascii t) (hts : OKl ascii ts)
    (hadj : ∀ u us, ts = u :: us → ¬ opens t.kind → apart t u → (t.after || u.before) = true) (hno : ¬ opens t.kind)
    (hp : Prints ascii ts (t.after || headBefore ts) rest) {r : List Int} (hr : EndR r ∨ endHas (t :: ts) false = true) : EndOk (t.after || headBefore ts) t (flat rest ++ r) := by
  cases hh : (t.after || headBefore ts) with
  | true =>
    rw [hh] at hp
    refine endOk_blank t ?_
    cases hp with
    | last w hw => simp only [flat_cons, flat_nil, List.append_nil]; exact blank_first hw r
    | plain u us has ws out rest h1 h2 h3 h4 h5 =>
      obtain ⟨w, hw, rfl⟩ := h1 rfl
      rw [flat_append]; simp only [flat_cons, flat_nil, List.append_nil, List.append_assoc]; exact blank_first hw _
    | opened u us has ws nl out kc rest h1 h2 h3 h4 h5 h6 h7 =>
      obtain ⟨w, hw, rfl⟩ := h1 rfl
      rw [flat_append]; simp only [flat_cons, flat_nil, List.append_nil, List.append_assoc]; exact blank_first hw _
  | false =>
    rw [hh] at hp
    cases hp with
    | nil =>
      rcases hr with hr | hr
      · exact endOk_R t hr
      · simp [endHas] at hr; simp [hr] at hh
    | plain u us has ws out rest h1 h2 h3 h4 h5 =>
      rw [h2 rfl]
      have hna : ¬ apart t u := by
        intro ha
        have := hadj u us rfl hno ha
        simp [headBefore] at hh; simp [hh] at this
      cases hts with
      | cons _ _ hu _ _ _ => 
        simp only [List.nil_append, flat_cons, List.append_assoc]
        exact endOk_next ht hu hna h4 _
    | opened u us has ws nl out kc rest h1 h2 h3 h4 h5 h6 h7 =>
      rw [h2 rfl]
      have hna : ¬ apart t u := by
        intro ha
        have := hadj u us rfl hno ha
        simp [headBefore] at hh; simp [hh] at this
      cases hts with
      | cons _ _ hu _ _ _ => 
        simp only [List.nil_append, flat_cons, List.append_assoc]
        exact endOk_next ht hu hna h4 _
theorem OK1.kind_ne {ascii : Bool} {t : T} (h : OK1 ascii t) : (tkOf t).kind ≠ 38 := by
  rw [tkOf_kind]
  cases h with
  | name h | num h => omega
  | func h | str h | dim h => omega
  | sign h => unfold signLike at h; omega
theorem chain_ws {ws : List Ch} {has : Bool} (h1 : has = true → ∃ w, Blank w ∧ ws = [⟨none, w⟩]) (h2 : has = false → ws = []) {cl : List Ch} {r : List Int} (h : Chain cl r) : Chain (ws ++ cl) r := by
  cases has with
  | true => obtain ⟨w, hw, rfl⟩ := h1 rfl; exact .blank w cl r hw h
  | false => rw [h2 rfl]; exact h
theorem step_close {k : Int} (hk : opens k) (r : List Int) : Step ⟨closeKind k, 0, []⟩ [closer k] r := by
  have e : closeKind k = signKind (closer k) := by
    unfold opens at hk; unfold closeKind closer
    rcases hk with rfl | rfl | rfl | rfl <;> decide
  rw [e]
  have hc : closer k = 41 ∨ closer k = 93 ∨ closer k = 125 := by
    unfold opens at hk; unfold closer
    rcases hk with rfl | rfl | rfl | rfl <;> decide
  refine step_sign _ ?_ ?_ ?_ ?_ ?_ ?_ ?_ r ?_
  all_goals (try unfold starts); (try unfold isDg); (try unfold isSp); (try unfold isNl); (try unfold SignEnd); omega
theorem closeKind_ne (k : Int) : closeKind k ≠ 38 := by unfold closeKind; repeat' split
                                                        all_goals decide
theorem prints_chain {ascii : Bool} {ts : List T} {has : Bool} {cl : List Ch} (h : Prints ascii ts has cl) : OKl ascii ts → ∀ r, (EndR r ∨ endHas ts has = true) → Chain cl r := by
  induction h with
  | nil => intro _ r _; exact .nil r
  | last w hw => intro _ r _; exact .blank w [] r hw (.nil r)
  | plain t ts has ws out rest h1 h2 h3 h4 h5 ih =>
    intro hok r hr
    cases hok with
    | cons _ _ ht hk hts hadj =>
      have hr2 : EndR r ∨ endHas (t :: ts) false = true := by
        rcases hr with hr | hr
        · exact .inl hr
        · right; rw [endHas_any t ts false has]; exact hr
      have hr3 : EndR r ∨ endHas ts (t.after || headBefore ts) = true := by
        rcases hr with hr | hr
        · exact .inl hr
        · right
          cases ts with
          | nil => simp only [endHas] at hr ⊢; simp [hr]
          | cons u us => rw [← endHas_tail t u us has]; exact hr
      refine chain_ws h1 h2 (.tok _ _ _ _ ht.kind_ne (step_own ht h4 ?_) (ih hts r hr3))
      exact endOk_list ht hts hadj h3 h5 hr2
  | opened t ts has ws nl out kc rest h1 h2 h3 h4 h5 h6 h7 ih1 ih2 =>
    intro hok r hr
    cases hok with
    | cons _ _ ht hk hts hadj =>
      have hr3 : EndR r ∨ endHas ts (t.after || headBefore ts) = true := by
        rcases hr with hr | hr
        · exact .inl hr
        · right
          cases ts with
          | nil => simp only [endHas] at hr ⊢; simp [hr]
          | cons u us => rw [← endHas_tail t u us has]; exact hr
      have hin : Chain (kc ++ ⟨some ⟨closeKind t.kind, 0, []⟩, [closer t.kind]⟩ :: rest) r := by
        refine chain_append (ih1 hk _ (.inl ?_)) (.tok _ _ _ _ (closeKind_ne _) (step_close h3 _) (ih2 hts r hr3))
        simp only [flat_cons, List.cons_append, List.nil_append]
        unfold EndR closer
        simp only [pk_cons_zero]
        unfold opens at h3
        rcases h3 with h | h | h | h <;> rw [h] <;> decide
      refine chain_ws h1 h2 (.tok _ _ _ _ ht.kind_ne (step_own ht h4 (endOk_opens ht h3 _)) ?_)
      rcases h5 with rfl | ⟨w, hw, rfl⟩
      · exact hin
      · exact .blank w _ r hw hin
end Css
end Go.Proofs.YtkfdcbdlcipmfaaGreatFmt
namespace Go.Proofs.YtkfdcbdlcipmfaaGreatFmt
namespace Css
theorem by8_nat {c : Int} (h0 : 0 ≤ c) (h : c < 256) : ((by8 c).toNat : Int) = c := by
  unfold by8; rw [UInt8.toNat_ofNat']; omega
def wd (c : Int) : Nat := if c < 128 then 1 else if c < 2048 then 2 else if c < 65536 then 3 else 4
theorem enc1_length (c : Int) : (enc1 c).length = wd c := by unfold enc1 wd; repeat' split
                                                             all_goals rfl
theorem wd_pos (c : Int) : 0 < wd c ∧ wd c ≤ 4 := by unfold wd; repeat' split
                                                     all_goals omega
theorem get_list (s : ByteArray) (j : Nat) : s.get! j = s.data.toList.getD j 0 := by
  obtain ⟨a⟩ := s
  show a[j]! = a.toList.getD j 0
  rw [List.getD_eq_getElem?_getD, Array.getElem?_toList, getElem!_def]
  cases h : a[j]? <;> rfl
theorem getD_mid (A B : List UInt8) (k : Nat) (h : k < B.length) : (A ++ B).getD (A.length + k) 0 = B[k] := by
  rw [List.getD_eq_getElem?_getD, List.getElem?_append_right (by omega)]
  simp [h]
theorem decode_enc {s : ByteArray} {A R : List UInt8} {c : Int} (hv : Valid c) (h : s.data.toList = A ++ (enc1 c ++ R)) : Utf8.decode s A.length = (c.toNat, wd c) := by
  have hsz : s.size = A.length + (wd c + R.length) := by
    have := congrArg List.length h
    rw [List.length_append, List.length_append, enc1_length] at this
    have e : s.data.toList.length = s.size := rfl
    omega
  have g : ∀ k, k < wd c → ∀ x, (enc1 c)[k]? = some x → (s.get! (A.length + k)).toNat = x.toNat := by
    intro k hk x hx
    have hk2 : k < (enc1 c).length := by rw [enc1_length]; exact hk
    rw [get_list, h, getD_mid _ _ _ (by rw [List.length_append]; omega), List.getElem_append_left hk2]
    rw [List.getElem?_eq_getElem hk2] at hx
    injection hx with hx
    rw [hx]
  rw [Lib.decode_at]
  unfold Valid at hv
  by_cases h1 : c < 128
  · have hw : wd c = 1 := by unfold wd; rw [if_pos h1]
    have e : enc1 c = [by8 c] := by unfold enc1; rw [if_pos h1]
    have g0 := g 0 (by omega) (by8 c) (by rw [e]; rfl)
    have b0 := by8_nat (c := c) (by omega) (by omega)
    rw [Nat.add_zero] at g0
    rw [hw, g0]
    unfold Lib.decodeN
    rw [if_pos (by omega)]
    congr 1; omega
  · by_cases h2 : c < 2048
    · have hw : wd c = 2 := by unfold wd; rw [if_neg h1, if_pos h2]
      have e : enc1 c = [by8 (192 + c / 64), by8 (128 + c % 64)] := by unfold enc1; rw [if_neg h1, if_pos h2]
      have g0 := g 0 (by omega) _ (by rw [e]; rfl)
      have g1 := g 1 (by omega) _ (by rw [e]; rfl)
      have b0 := by8_nat (c := 192 + c / 64) (by omega) (by omega)
      have b1 := by8_nat (c := 128 + c % 64) (by omega) (by omega)
      rw [Nat.add_zero] at g0
      rw [hw, g0, g1]
      generalize (by8 (192 + c / 64)).toNat = x0 at *
      generalize (by8 (128 + c % 64)).toNat = x1 at *
      unfold Lib.decodeN
      rw [if_neg (by omega), if_pos ⟨by omega, by omega, by omega⟩, if_pos (by omega)]
      congr 1; omega
    · by_cases h3 : c < 65536
      · have hw : wd c = 3 := by unfold wd; rw [if_neg h1, if_neg h2, if_pos h3]
        have e : enc1 c = [by8 (224 + c / 4096), by8 (128 + c / 64 % 64), by8 (128 + c % 64)] := by unfold enc1; rw [if_neg h1, if_neg h2, if_pos h3]
        have g0 := g 0 (by omega) _ (by rw [e]; rfl)
        have g1 := g 1 (by omega) _ (by rw [e]; rfl)
        have g2 := g 2 (by omega) _ (by rw [e]; rfl)
        have b0 := by8_nat (c := 224 + c / 4096) (by omega) (by omega)
        have b1 := by8_nat (c := 128 + c / 64 % 64) (by omega) (by omega)
        have b2 := by8_nat (c := 128 + c % 64) (by omega) (by omega)
        rw [Nat.add_zero] at g0
        rw [hw, g0, g1, g2]
        generalize (by8 (224 + c / 4096)).toNat = x0 at *
        generalize (by8 (128 + c / 64 % 64)).toNat = x1 at *
        generalize (by8 (128 + c % 64)).toNat = x2 at *
        have ec : x0 % 16 * 4096 + x1 % 64 * 64 + x2 % 64 = c.toNat := by omega
        unfold Lib.decodeN
        rw [if_neg (by omega), if_neg (by omega), if_pos ⟨by omega, ⟨by omega, by omega⟩, by omega, by omega⟩, ec, if_pos (by omega)]
      · have hw : wd c = 4 := by unfold wd; rw [if_neg h1, if_neg h2, if_neg h3]
        have e : enc1 c = [by8 (240 + c / 262144), by8 (128 + c / 4096 % 64), by8 (128 + c / 64 % 64), by8 (128 + c % 64)] := by unfold enc1; rw [if_neg h1, if_neg h2, if_neg h3]
        have g0 := g 0 (by omega) _ (by rw [e]; rfl)
        have g1 := g 1 (by omega) _ (by rw [e]; rfl)
        have g2 := g 2 (by omega) _ (by rw [e]; rfl)
        have g3 := g 3 (by omega) _ (by rw [e]; rfl)
        have b0 := by8_nat (c := 240 + c / 262144) (by omega) (by omega)
        have b1 := by8_nat (c := 128 + c / 4096 % 64) (by omega) (by omega)
        have b2 := by8_nat (c := 128 + c / 64 % 64) (by omega) (by omega)
        have b3 := by8_nat (c := 128 + c % 64) (by omega) (by omega)
        rw [Nat.add_zero] at g0
        rw [hw, g0, g1, g2, g3]
        generalize (by8 (240 + c / 262144)).toNat = x0 at *
        generalize (by8 (128 + c / 4096 % 64)).toNat = x1 at *
        generalize (by8 (128 + c / 64 % 64)).toNat = x2 at *
        generalize (by8 (128 + c % 64)).toNat = x3 at *
        have ec : x0 % 8 * 262144 + x1 % 64 * 4096 + x2 % 64 * 64 + x3 % 64 = c.toNat := by omega
        unfold Lib.decodeN
        rw [if_neg (by omega), if_neg (by omega), if_neg (by omega), if_pos ⟨by omega, ⟨by omega, by omega⟩, ⟨by omega, by omega⟩, by omega, by omega⟩, ec, if_pos (by omega)]
theorem enc1_head (c : Int) (hv : Valid c) : ∃ b t, enc1 c = b :: t ∧ ((c < 128 ∧ (b.toNat : Int) = c) ∨ (128 ≤ c ∧ 128 ≤ b.toNat)) := by
  unfold Valid at hv
  unfold enc1
  split
  · exact ⟨_, _, rfl, .inl ⟨by omega, by8_nat (by omega) (by omega)⟩⟩
  · split
    · refine ⟨_, _, rfl, .inr ⟨by omega, ?_⟩⟩
      have := by8_nat (c := 192 + c / 64) (by omega) (by omega); omega
    · split
      · refine ⟨_, _, rfl, .inr ⟨by omega, ?_⟩⟩
        have := by8_nat (c := 224 + c / 4096) (by omega) (by omega); omega
      · refine ⟨_, _, rfl, .inr ⟨by omega, ?_⟩⟩
        have := by8_nat (c := 240 + c / 262144) (by omega) (by omega); omega
theorem enc_length_cons (c : Int) (l : List Int) : (enc (c :: l)).length = wd c + (enc l).length := by rw [enc_cons, List.length_append, enc1_length]
end Css
end Go.Proofs.YtkfdcbdlcipmfaaGreatFmt
