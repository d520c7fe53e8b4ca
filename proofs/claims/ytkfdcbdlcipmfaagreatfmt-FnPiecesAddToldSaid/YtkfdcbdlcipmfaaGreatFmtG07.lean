/- PLAIN: at-rules, declarations and rules that are printed are read as they should be. No program in sight. -/
import Derived.Test.YtkfdcbdlcipmfaaGreatFmtG06
import Derived.Test.YtkfdcbdlcipmfaaGreatFmtG00
set_option linter.unusedVariables false
set_option linter.unusedSimpArgs false
namespace Go.Proofs.YtkfdcbdlcipmfaaGreatFmt
namespace Css
def PlainTxt (ascii : Bool) (ds : List Int) : Prop := (∀ d ∈ ds, PV ascii d) ∧ pk ds 0 ≠ 65279
theorem reads_nil (sp : Bool) : reads [] sp = ([], 0, false) := by
  have h : tokens [] = ([], 0, false) := by
    have hc : comments [] = (0, false, []) := comments_none (by simp)
    rw [tokens]; simp [hc]
  unfold reads
  rw [h]
  simp [rd]
theorem chain_read {cl : List Ch} (h : Chain cl []) : reads (flat cl) false = (exp cl false, 0, false) := by
  have := chain_reads h false
  rw [List.append_nil, reads_nil, List.append_nil] at this
  exact this
theorem All2.mono {α β : Type} {R S : α → β → Prop} {a : List α} {b : List β} (h : All2 R a b) (hRS : ∀ x y, R x y → S x y) : All2 S a b := by
  induction h with
  | nil => exact .nil
  | cons h _ ih => exact .cons (hRS _ _ h) ih
def plainSign (c : Int) : Prop := c = 59 ∨ c = 58 ∨ c = 123 ∨ c = 125 ∨ c = 33
theorem step_plain {c : Int} (hc : plainSign c) (r : List Int) : Step ⟨signKind c, 0, []⟩ [c] r := by
  unfold plainSign at hc
  refine step_sign c ?_ ?_ ?_ ?_ ?_ ?_ ?_ r ?_
  all_goals (try unfold isSp); (try unfold isNl); (try unfold isDg); (try unfold starts); (try unfold SignEnd); omega
def wsIf (b : Bool) (w : List Int) : List Ch := if b then [⟨none, w⟩] else []
theorem chain_wsIf {b : Bool} {w : List Int} (hw : Blank w) {cl : List Ch} {r : List Int} (h : Chain cl r) : Chain (wsIf b w ++ cl) r := by
  unfold wsIf
  cases b with
  | true => exact .blank w cl r hw h
  | false => exact h
theorem flat_wsIf (b : Bool) (w : List Int) : flat (wsIf b w) = if b then w else [] := by
  unfold wsIf; cases b <;> simp
theorem blank32 : Blank [32] := ⟨by simp, by simp⟩
theorem nameEnd_of {may : Bool} {r : List Int} (h : (may = true ∧ pk r 0 = 32) ∨ pk r 0 = 59 ∨ pk r 0 = 58) : NameEnd may r := by
  refine ⟨⟨?_, ?_, ?_⟩, ?_, ?_⟩
  · unfold cont starts isDg; omega
  · omega
  · rcases h with h | h | h
    · exact .inl h.1
    · right; unfold isSp isNl; omega
    · right; unfold isSp isNl; omega
  · omega
  · omega
def atCh (ascii mini : Bool) (nm : List Int) (ts : List T) (cl : List Ch) : List Ch :=
  ⟨some ⟨1, 0, nm⟩, 64 :: ident ascii (!ts.isEmpty) 0 nm⟩ :: (wsIf (!ts.isEmpty) [32] ++ (cl ++ (⟨some ⟨35, 0, []⟩, [59]⟩ :: wsIf (!mini) [10])))
theorem prints_nil {ascii has : Bool} {cl : List Ch} (h : Prints ascii [] has cl) (hh : has = false) : cl = [] := by
  cases h with
  | nil => rfl
  | last => cases hh
theorem wsIf_pv {ascii : Bool} (b : Bool) {w : List Int} (hw : Blank w) : ∀ d ∈ flat (wsIf b w), PV ascii d := by
  rw [flat_wsIf]
  cases b with
  | true => exact blank_pv hw
  | false => simp
theorem pv_append {ascii : Bool} {a b : List Int} (h1 : ∀ d ∈ a, PV ascii d) (h2 : ∀ d ∈ b, PV ascii d) : ∀ d ∈ a ++ b, PV ascii d := by
  intro d hd; rw [List.mem_append] at hd
  rcases hd with hd | hd
  · exact h1 d hd
  · exact h2 d hd
theorem pv_cons {ascii : Bool} {c : Int} {b : List Int} (h1 : PV ascii c) (h2 : ∀ d ∈ b, PV ascii d) : ∀ d ∈ c :: b, PV ascii d := by
  intro d hd; simp at hd
  rcases hd with rfl | hd
  · exact h1
  · exact h2 d hd
theorem good_valid {ascii : Bool} {cs : List Int} (h : Good ascii cs) : ∀ c ∈ cs, Valid c := fun c hc => (h c hc).1
def important : List Int := [105, 109, 112, 111, 114, 116, 97, 110, 116]
theorem important_out (ascii : Bool) : ident ascii false 0 important = important := by cases ascii <;> decide
theorem important_good (ascii : Bool) : Good ascii important := by
  intro c hc
  simp only [important, List.mem_cons, List.not_mem_nil, or_false] at hc
  exact ⟨by unfold Valid; omega, fun _ => by omega⟩
def impCh (b : Bool) : List Ch := if b then [⟨some ⟨19, 0, []⟩, [33]⟩, ⟨some ⟨29, 0, important⟩, important⟩] else []
def declCh (ascii : Bool) (key : List Int) (cl : List Ch) (sp imp semi : Bool) (rest : List Ch) : List Ch :=
  ⟨some ⟨29, 0, key⟩, ident ascii false 0 key⟩ :: ⟨some ⟨9, 0, []⟩, [58]⟩ :: (cl ++ (wsIf sp [32] ++ (impCh imp ++ ((if semi then [⟨some ⟨35, 0, []⟩, [59]⟩] else []) ++ rest))))
theorem decl_chain {ascii : Bool} {key : List Int} {ts : List T} {cl rest : List Ch} (sp imp semi : Bool) (hne : key ≠ []) (hg : Good ascii key) (hp : Prints ascii ts (headBefore ts) cl) (hok : OKl ascii ts)
    (hsp : imp = false → sp = false) (hend : imp = true → semi = true ∧ (ts = [] ∨ endHas ts (headBefore ts) = true)) (hr : semi = false → EndR (flat rest)) (hrest : Chain rest []) :
    Chain (declCh ascii key cl sp imp semi rest) [] := by
  have h1 : Chain ((if semi then [⟨some ⟨35, 0, []⟩, [59]⟩] else []) ++ rest) [] := by
    cases semi with
    | true => exact .tok _ _ _ _ (by decide) (step_plain (c := 59) (.inl rfl) _) hrest
    | false => exact hrest
  have h2 : Chain (impCh imp ++ ((if semi then [⟨some ⟨35, 0, []⟩, [59]⟩] else []) ++ rest)) [] := by
    cases imp with
    | false => exact h1
    | true =>
      have hs := (hend rfl).1
      subst hs
      refine .tok _ _ _ _ (by decide) (step_plain (c := 33) (by simp [plainSign]) _) (.tok _ _ _ _ (by decide) ?_ h1)
      have := step_ident ascii false important (flat ([] ++ ((if true then [⟨some ⟨35, 0, []⟩, [59]⟩] else []) ++ rest)) ++ []) (important_good ascii) (by decide) (nameEnd_of (.inr (.inl (by simp)))) (by simp)
      rw [important_out ascii] at this
      exact this
  have h3 := chain_wsIf (b := sp) blank32 h2
  have h4 : Chain (cl ++ (wsIf sp [32] ++ (impCh imp ++ ((if semi then [⟨some ⟨35, 0, []⟩, [59]⟩] else []) ++ rest)))) [] := by
    cases himp : imp with
    | false =>
      rw [himp] at h3
      have := hsp himp
      subst this
      refine chain_append (prints_chain hp hok _ (.inl ?_)) h3
      rw [List.append_nil]
      simp only [wsIf, impCh, Bool.false_eq_true, if_false, List.nil_append]
      cases semi with
      | true => simp [EndR]
      | false => exact hr rfl
    | true =>
      rw [himp] at h3
      rcases (hend himp).2 with ht | he
      · subst ht
        have hc : cl = [] := prints_nil hp rfl
        subst hc
        exact h3
      · exact chain_append (prints_chain hp hok _ (.inr he)) h3
  refine .tok _ _ _ _ (by show (29 : Int) ≠ 38; decide) (step_ident ascii false key _ hg hne (nameEnd_of (.inr (.inr (by simp)))) (by simp)) (.tok _ _ _ _ (by decide) (step_plain (c := 58) (by simp [plainSign]) _) h4)
theorem decl_plain {ascii : Bool} {key : List Int} {ts : List T} {cl rest : List Ch} (sp imp semi : Bool) (hg : Good ascii key) (hp : Prints ascii ts (headBefore ts) cl) (hok : OKl ascii ts) (hrest : ∀ d ∈ flat rest, PV ascii d) : ∀ d ∈ flat (declCh ascii key cl sp imp semi rest), PV ascii d := by
  unfold declCh
  rw [flat_cons, flat_cons, flat_append, flat_append, flat_append, flat_append]
  refine pv_append (ident_pv (good_valid hg)) (pv_append (pv_cons (pv_low (by decide) (by decide)) (by simp)) (pv_append (prints_pv hp hok) (pv_append (wsIf_pv _ blank32) (pv_append ?_ (pv_append ?_ hrest)))))
  · cases imp with
    | false => simp [impCh]
    | true =>
      intro d hd
      simp [impCh, important] at hd
      exact pv_low (by omega) (by omega)
  · cases semi with
    | false => simp
    | true => simp; exact pv_low (by decide) (by decide)
theorem decl_no_bom {ascii : Bool} {key : List Int} {cl rest : List Ch} (sp imp semi : Bool) (hne : key ≠ []) : pk (flat (declCh ascii key cl sp imp semi rest)) 0 ≠ 65279 := by
  unfold declCh
  rw [flat_cons]
  exact ident_no_bom _ hne
end Css
end Go.Proofs.YtkfdcbdlcipmfaaGreatFmt
namespace Go.Proofs.YtkfdcbdlcipmfaaGreatFmt
namespace Css
structure RN where
  kind : Int
  unit : Int
  depth : Int
  text : List UInt8
  before : Bool
  after : Bool
def okC (c : Int) : Bool := !(c == -2) && !(c == 0)
def okDec (l : List UInt8) : Bool := (dec l).all okC
def isPlainB (l : List UInt8) : Bool := okDec l && !(pk (dec l) 0 == 65279)
def isNameB (l : List UInt8) : Bool := !l.isEmpty && okDec l
def loneB (l : List UInt8) (k : Int) : Bool :=
  isPlainB l && !(tokens (dec l)).2.2 && ((tokens (dec l)).2.1 == 0) && (match (tokens (dec l)).1 with | [x] => x.1.kind == k | _ => false)
def lowB (l : List UInt8) (ascii : Bool) : Bool := !ascii || l.all fun b => decide (b.toNat < 244)
def nameKind (k : Int) : Prop := k = 29 ∨ k = 28 ∨ k = 1
instance (k : Int) : Decidable (nameKind k) := by unfold nameKind; infer_instance
def isNodeB (n : RN) : Bool :=
  if nameKind n.kind then isNameB n.text
  else if n.kind = 27 then isNameB n.text && !isUrlB n.text
  else if n.kind = 36 then okDec n.text
  else if n.kind = 30 ∨ n.kind = 34 then loneB n.text n.kind
  else if n.kind = 26 then decide (0 < n.unit) && decide (n.unit < n.text.length) && decide (n.unit < 60000) && loneB (n.text.take n.unit.toNat) 30 && isNameB (n.text.drop n.unit.toNat)
  else if signLike n.kind then !(n.text == [92]) && loneB n.text n.kind
  else false
def RN.cp (n : RN) : N := ⟨n.kind, if n.kind = 26 then n.unit else 0, n.depth, dec n.text, n.before, n.after⟩
theorem okDec_val {l : List UInt8} (h : okDec l = true) : enc (dec l) = l ∧ ∀ c ∈ dec l, Valid c := by
  have h1 : ∀ c ∈ dec l, c ≠ -2 ∧ c ≠ 0 := by
    intro c hc
    have := List.all_eq_true.1 h c hc
    simp [okC] at this
    exact this
  obtain ⟨h2, h3⟩ := enc_dec (fun c hc => (h1 c hc).1)
  refine ⟨h2, fun c hc => ?_⟩
  have := h3 c hc
  have := (h1 c hc).2
  unfold Val0 at *
  unfold Valid
  omega
theorem valid_val0 {c : Int} (h : Valid c) : Val0 c := by unfold Valid at h; unfold Val0; omega
theorem dec_enc_v {cs : List Int} (h : ∀ c ∈ cs, Valid c) : dec (enc cs) = cs := dec_enc fun c hc => valid_val0 (h c hc)
theorem low_good {l : List UInt8} {ascii : Bool} (h1 : okDec l = true) (h2 : lowB l ascii = true) : Good ascii (dec l) := by
  obtain ⟨he, hv⟩ := okDec_val h1
  intro c hc
  refine ⟨hv c hc, fun ha => ?_⟩
  subst ha
  have hall : ∀ b ∈ l, b.toNat < 244 := by
    intro b hb
    have := List.all_eq_true.1 (show (l.all fun b => decide (b.toNat < 244)) = true by simpa [lowB] using h2) b hb
    simpa using this
  have hmem : ∀ b ∈ enc1 c, b ∈ l := by
    intro b hb
    rw [← he]
    unfold enc
    exact List.mem_flatMap.2 ⟨c, hc, hb⟩
  have hvc := hv c hc
  unfold Valid at hvc
  by_cases hx : c < 1048576
  · exact hx
  · exfalso
    have e : enc1 c = [by8 (240 + c / 262144), by8 (128 + c / 4096 % 64), by8 (128 + c / 64 % 64), by8 (128 + c % 64)] := by unfold enc1; rw [if_neg (by omega), if_neg (by omega), if_neg (by omega)]
    have := hall _ (hmem (by8 (240 + c / 262144)) (by rw [e]; simp))
    have b := by8_nat (c := 240 + c / 262144) (by omega) (by omega)
    omega
theorem mem_tail_of {l : List Int} {c : Int} (h : c ∈ l.tail) : c ∈ l := List.mem_of_mem_tail h
theorem hexRun_mem (n : Nat) : ∀ (v : Int) (ds : List Int), ∀ c ∈ (hexRun n v ds).2, c ∈ ds := by
  induction n with
  | zero => intro v ds c hc; exact hc
  | succ n ih =>
    intro v ds c hc
    unfold hexRun at hc
    split at hc
    · exact mem_tail_of (ih _ _ c hc)
    · exact hc
theorem newline_mem (ds : List Int) : ∀ c ∈ newline ds, c ∈ ds := by
  intro c hc; unfold newline at hc; split at hc
  · exact mem_tail_of (mem_tail_of hc)
  · exact mem_tail_of hc
theorem escape_mem (ds : List Int) : ∀ c ∈ (escape ds).2.2, c ∈ ds := by
  intro c hc
  unfold escape at hc
  repeat' split at hc
  · exact mem_tail_of hc
  · exact mem_tail_of hc
  · exact hexRun_mem _ _ _ _ (newline_mem _ c hc)
  · exact hexRun_mem _ _ _ _ (mem_tail_of hc)
  · exact hexRun_mem _ _ _ _ hc
theorem name_mem (ds : List Int) : ∀ c ∈ (name ds).2.2, c ∈ ds := by
  fun_induction name ds with
  | case1 ds h ih => intro c hc; exact mem_tail_of (ih c hc)
  | case2 ds h h2 ih => intro c hc; exact mem_tail_of (escape_mem _ c (ih c hc))
  | case3 => intro c hc; exact hc
theorem spaces_mem (ds : List Int) : ∀ c ∈ spaces ds, c ∈ ds := by
  induction ds with
  | nil => simp [spaces]
  | cons d t ih => intro c hc; unfold spaces at hc; split at hc <;> simp_all
theorem badURL_mem (ds : List Int) : ∀ c ∈ (badURL ds).2, c ∈ ds := by
  fun_induction badURL ds with
  | case1 ds h => intro c hc; exact mem_tail_of hc
  | case2 ds h h2 => intro c hc; exact mem_tail_of hc
  | case3 ds h h2 h3 ih => intro c hc; exact mem_tail_of (escape_mem _ c (ih c hc))
  | case4 ds h h2 h3 ih => intro c hc; exact mem_tail_of (ih c hc)
theorem url_mem (ds : List Int) : ∀ c ∈ (url ds).2.2.2, c ∈ ds := by
  fun_induction url ds with
  | case1 ds h => intro c hc; exact mem_tail_of hc
  | case2 ds h h2 => intro c hc; exact hc
  | case3 ds h h2 h3 h4 => intro c hc; exact spaces_mem _ c (badURL_mem _ c hc)
  | case4 ds h h2 h3 h4 ih => intro c hc; exact spaces_mem _ c (ih c hc)
  | case5 ds h h2 h3 h4 => intro c hc; exact badURL_mem _ c hc
  | case6 ds h h2 h3 h4 h5 r ih => intro c hc; exact mem_tail_of (escape_mem _ c (ih c hc))
  | case7 ds h h2 h3 h4 h5 r ih => intro c hc; exact mem_tail_of (ih c hc)
theorem quotedRun_mem (q : Int) (ds : List Int) : ∀ c ∈ (quotedRun q ds).2.2.2, c ∈ ds := by
  fun_induction quotedRun q ds with
  | case1 ds h => intro c hc; exact mem_tail_of hc
  | case2 ds h h2 => intro c hc; exact hc
  | case3 ds h h2 h3 => intro c hc; exact hc
  | case4 ds h h2 h3 h4 ih => intro c hc; exact mem_tail_of (ih c hc)
  | case5 ds h h2 h3 h4 h5 ih => intro c hc; exact mem_tail_of (newline_mem _ c (ih c hc))
  | case6 ds h h2 h3 h4 h5 h6 r ih => intro c hc; exact mem_tail_of (escape_mem _ c (ih c hc))
  | case7 ds h h2 h3 h4 h5 h6 r ih => intro c hc; exact mem_tail_of (ih c hc)
theorem numEnd_mem (ds : List Int) : ∀ c ∈ (numEnd ds).2, c ∈ ds := by
  unfold numEnd
  simp only []
  have hS : ∀ c ∈ numSign ds, c ∈ ds := by intro c hc; unfold numSign at hc; split at hc; exact mem_tail_of hc; exact hc
  have hD : ∀ c ∈ digits (numSign ds), c ∈ ds := fun c hc => hS c (digits_sub _ c hc)
  have hP : ∀ c ∈ numDot (digits (numSign ds)), c ∈ ds := by
    intro c hc; unfold numDot at hc; split at hc
    · exact hD c (mem_tail_of (digits_sub _ c hc))
    · exact hD c hc
  intro c hc; unfold numExp at hc; split at hc
  · exact hP c (mem_tail_of (mem_tail_of (digits_sub _ c hc)))
  · exact hP c hc
theorem numeric_mem (ds : List Int) : ∀ c ∈ (numeric ds).2.2, c ∈ ds := by
  intro c hc
  unfold numeric at hc
  simp only [] at hc
  repeat' split at hc
  · exact numEnd_mem ds c (name_mem _ c hc)
  · exact numEnd_mem ds c (mem_tail_of hc)
  · exact numEnd_mem ds c hc
theorem named_mem (ds : List Int) : ∀ c ∈ (named ds).2.2, c ∈ ds := by
  intro c hc
  unfold named at hc
  simp only [] at hc
  repeat' split at hc
  · exact name_mem ds c hc
  · exact name_mem ds c (mem_tail_of (spaces_mem _ c (url_mem _ c hc)))
  · exact name_mem ds c (mem_tail_of hc)
theorem next_mem (ds : List Int) : ∀ c ∈ (next ds).2.2, c ∈ ds := by
  intro c hc
  unfold next at hc
  split at hc
  · exact hc
  split at hc
  · exact spaces_mem ds c hc
  split at hc
  · exact mem_tail_of (quotedRun_mem _ _ c hc)
  split at hc
  · exact mem_tail_of (name_mem _ c hc)
  split at hc
  · exact numeric_mem ds c hc
  split at hc
  · exact mem_tail_of (mem_tail_of (mem_tail_of hc))
  split at hc
  · exact named_mem ds c hc
  split at hc
  · exact mem_tail_of (mem_tail_of (mem_tail_of (mem_tail_of hc)))
  split at hc
  · exact mem_tail_of (name_mem _ c hc)
  · exact mem_tail_of hc
theorem next_plain_tk {cs : List Int} {k : Int} (hk : k = 30 ∨ k = 34 ∨ signLike k) (h : (Css.next cs).1.kind = k) : (Css.next cs).1 = ⟨k, 0, []⟩ := by
  have hk2 : k ≠ 0 ∧ k ≠ 38 ∧ k ≠ 36 ∧ k ≠ 2 ∧ k ≠ 28 ∧ k ≠ 26 ∧ k ≠ 29 ∧ k ≠ 27 ∧ k ≠ 37 ∧ k ≠ 3 ∧ k ≠ 1 := by unfold signLike at hk; omega
  unfold Css.next at h ⊢
  split at h
  · simp only [] at h; omega
  rename_i h1; rw [if_neg h1]
  split at h
  · simp only [] at h; omega
  rename_i h2; rw [if_neg h2]
  split at h
  · have := quotedRun_kind (pk cs 0) cs.tail; simp only [] at h; omega
  rename_i h3; rw [if_neg h3]
  split at h
  · simp only [] at h; omega
  rename_i h4; rw [if_neg h4]
  split at h
  · rename_i h5
    rw [if_pos h5]
    unfold numeric at h ⊢
    simp only [] at h ⊢
    repeat' split at h
    · simp only [] at h; omega
    · rename_i q1 q2; rw [if_neg q1, if_pos q2]; simp only [] at h ⊢; rw [h]
    · rename_i q1 q2; rw [if_neg q1, if_neg q2]; simp only [] at h ⊢; rw [h]
  rename_i h5; rw [if_neg h5]
  split at h
  · rename_i h6; rw [if_pos h6]; simp only [] at h ⊢; rw [h]
  rename_i h6; rw [if_neg h6]
  split at h
  · have := named_kind cs; omega
  rename_i h7; rw [if_neg h7]
  split at h
  · rename_i h8; rw [if_pos h8]; simp only [] at h ⊢; rw [h]
  rename_i h8; rw [if_neg h8]
  split at h
  · simp only [] at h; omega
  rename_i h9; rw [if_neg h9]
  simp only [] at h ⊢; rw [h]
theorem loneB_lone {l : List UInt8} {k : Int} (hk : k = 30 ∨ k = 34 ∨ signLike k) (h : loneB l k = true) : okDec l = true ∧ Lone (dec l) ⟨k, 0, []⟩ := by
  unfold loneB isPlainB at h
  simp only [Bool.and_eq_true, Bool.not_eq_true', beq_iff_eq] at h
  obtain ⟨⟨⟨⟨h1, _⟩, h2⟩, h3⟩, h4⟩ := h
  refine ⟨h1, ?_⟩
  obtain ⟨_, hv⟩ := okDec_val h1
  have hm : ∀ c ∈ dec l, c ≠ -1 := fun c hc => by have := hv c hc; unfold Valid at this; omega
  cases ht : (tokens (dec l)).1 with
  | nil => rw [ht] at h4; simp at h4
  | cons x r =>
    cases r with
    | cons y r => rw [ht] at h4; simp at h4
    | nil =>
      rw [ht] at h4
      simp only [beq_iff_eq] at h4
      have e : tokens (dec l) = ([x], 0, false) := by
        rw [← ht, ← h3, ← h2]
      have hl := lone_of_tokens hm (next_mem _) e
      have ek : x.1 = (Css.next (dec l)).1 := by rw [hl.next]
      have := next_plain_tk hk (by rw [← ek]; exact h4)
      rw [← ek] at this
      rw [← this]; exact hl
theorem dec_append_enc : ∀ (xs : List Int) (b : List UInt8), (∀ c ∈ xs, Valid c) → dec (enc xs ++ b) = xs ++ dec b := by
  intro xs
  induction xs with
  | nil => intro b _; simp
  | cons c t ih =>
    intro b h
    have hc := runeL_enc (valid_val0 (h c (by simp))) (enc t ++ b)
    obtain ⟨x, tl, hb⟩ : ∃ x tl, enc1 c = x :: tl := by
      have := enc1_length c
      have hw := (wd_pos c).1
      cases he : enc1 c with
      | nil => rw [he] at this; simp at this; omega
      | cons b tl => exact ⟨b, tl, rfl⟩
    rw [enc_cons, List.append_assoc]
    have e : enc1 c ++ (enc t ++ b) = x :: (tl ++ (enc t ++ b)) := by rw [hb]; rfl
    rw [e] at hc ⊢
    rw [dec, hc]
    simp only []
    rw [← e]
    have : (enc1 c ++ (enc t ++ b)).drop (wd c) = enc t ++ b := by rw [← enc1_length c, List.drop_left]
    rw [this, ih b (fun x hx => h x (by simp [hx]))]
    rfl
theorem enc_ascii_len {cs : List Int} (h : ∀ c ∈ cs, c < 128) : (enc cs).length = cs.length := by
  induction cs with
  | nil => rfl
  | cons c t ih =>
    have e : wd c = 1 := by unfold wd; rw [if_pos (h c (by simp))]
    rw [enc_length_cons, e, ih (fun x hx => h x (by simp [hx]))]; simp; omega
theorem dim_split {l : List UInt8} {u : Nat} (hu : u ≤ l.length) (h1 : loneB (l.take u) 30 = true) (h2 : okDec (l.drop u) = true) :
    okDec l = true ∧ (dec l).take u = dec (l.take u) ∧ (dec l).drop u = dec (l.drop u) ∧ Lone (dec (l.take u)) ⟨30, 0, []⟩ ∧ (dec (l.take u)).length = u := by
  obtain ⟨ha, hl⟩ := loneB_lone (.inl rfl) h1
  obtain ⟨e1, v1⟩ := okDec_val ha
  have hm : ∀ c ∈ dec (l.take u), c ≠ -1 := fun c hc => by have := v1 c hc; unfold Valid at this; omega
  have hasc := lone_ascii hm hl (.inl rfl)
  have hlen : (dec (l.take u)).length = u := by
    have := enc_ascii_len hasc
    rw [e1, List.length_take] at this; omega
  have hd : dec l = dec (l.take u) ++ dec (l.drop u) := by
    have := dec_append_enc (dec (l.take u)) (l.drop u) v1
    rw [e1, List.take_append_drop] at this
    exact this
  refine ⟨?_, ?_, ?_, hl, hlen⟩
  · unfold okDec at *
    rw [hd, List.all_append, ha, h2]; rfl
  · rw [hd, List.take_append_of_le_length (by omega), List.take_of_length_le (by omega)]
  · rw [hd, List.drop_append_of_le_length (by omega), List.drop_eq_nil_of_le (by omega), List.nil_append]
theorem isNode_ok {n : RN} {ascii : Bool} (h : isNodeB n = true) (hlow : lowB n.text ascii = true) : OK1 ascii (tOf n.cp) ∧ okDec n.text = true := by
  unfold isNodeB at h
  split at h
  · rename_i hk
    simp only [isNameB, Bool.and_eq_true, Bool.not_eq_true'] at h
    have hg := low_good h.2 hlow
    refine ⟨.name ?_ ?_ hg, h.2⟩
    · exact hk
    · intro h0
      have h0 : dec n.text = [] := h0
      have := (okDec_val h.2).1
      rw [h0] at this
      rw [← this] at h; simp at h
  split at h
  · rename_i hk0 hk
    simp only [isNameB, Bool.and_eq_true, Bool.not_eq_true'] at h
    have hg := low_good h.1.2 hlow
    refine ⟨.func hk ?_ hg ?_, h.1.2⟩
    · intro h0
      have h0 : dec n.text = [] := h0
      have := (okDec_val h.1.2).1
      rw [h0] at this
      rw [← this] at h; simp at h
    · show isUrlB (enc (dec n.text)) = false
      rw [(okDec_val h.1.2).1]; exact h.2
  split at h
  · rename_i hk
    exact ⟨.str hk (low_good h hlow), h⟩
  split at h
  · rename_i hk
    obtain ⟨h1, h2⟩ := loneB_lone (by omega) h
    exact ⟨.num hk (low_good h1 hlow) h2, h1⟩
  split at h
  · rename_i hk
    simp only [isNameB, Bool.and_eq_true, Bool.not_eq_true', decide_eq_true_eq] at h
    obtain ⟨⟨⟨⟨h1, h2⟩, h3⟩, h4⟩, h5, h6⟩ := h
    obtain ⟨a1, a2, a3, a4, a5⟩ := dim_split (u := n.unit.toNat) (by omega) h4 h6
    have eu : (tOf n.cp).unit = n.unit.toNat := by show (if n.kind = 26 then n.unit else 0).toNat = _; rw [if_pos hk]
    refine ⟨.dim hk (low_good a1 hlow) ?_ ?_ ?_, a1⟩
    · rw [eu]; omega
    · rw [eu]
      show _ < (dec n.text).length
      have hne : dec (n.text.drop n.unit.toNat) ≠ [] := by
        intro h0
        have := (okDec_val h6).1
        rw [h0] at this
        rw [← this] at h5; simp at h5
      have : (dec n.text).length = n.unit.toNat + (dec (n.text.drop n.unit.toNat)).length := by
        have e := List.take_append_drop n.unit.toNat (dec n.text)
        rw [a2, a3] at e
        have := congrArg List.length e
        rw [List.length_append, a5] at this; omega
      have := List.length_pos_iff.2 hne
      omega
    · rw [eu]
      show Lone (List.take _ (dec n.text)) _
      rw [a2]; exact a4
  split at h
  · rename_i hk
    simp only [Bool.and_eq_true] at h
    obtain ⟨h1, h2⟩ := loneB_lone (.inr (.inr hk)) h.2
    exact ⟨.sign hk (low_good h1 hlow) h2, h1⟩
  · simp at h
end Css
end Go.Proofs.YtkfdcbdlcipmfaaGreatFmt
namespace Go.Proofs.YtkfdcbdlcipmfaaGreatFmt
open Go.RowKit Css
def nlQ (c : Int) : Bool := decide (isNl c)
def spQ (c : Int) : Bool := decide (isSp c)
def dgQ (c : Int) : Bool := decide (isDg c)
def stQ (c : Int) : Bool := decide (starts c)
def cnQ (c : Int) : Bool := decide (cont c)
def upQ (c : Int) : Bool := decide (unpr c)
def esQ (a b : Int) : Bool := decide (esc a b)
def idQ (a b c : Int) : Bool := decide (ident3 a b c)
def n2Q (a b : Int) : Bool := decide (num2 a b)
def coQ (a b c : Int) : Bool := decide (counts a b c)
theorem nlQ_iff {c : Int} : nlQ c = true ↔ isNl c := by simp [nlQ]
theorem spQ_iff {c : Int} : spQ c = true ↔ isSp c := by simp [spQ]
theorem dgQ_iff {c : Int} : dgQ c = true ↔ isDg c := by simp [dgQ]
theorem stQ_iff {c : Int} : stQ c = true ↔ starts c := by simp [stQ]
theorem cnQ_iff {c : Int} : cnQ c = true ↔ cont c := by simp [cnQ]
theorem upQ_iff {c : Int} : upQ c = true ↔ unpr c := by simp [upQ]
theorem esQ_iff {a b : Int} : esQ a b = true ↔ esc a b := by simp [esQ]
theorem idQ_iff {a b c : Int} : idQ a b c = true ↔ ident3 a b c := by simp [idQ]
theorem n2Q_iff {a b : Int} : n2Q a b = true ↔ num2 a b := by simp [n2Q]
theorem coQ_iff {a b c : Int} : coQ a b c = true ↔ counts a b c := by simp [coQ]
theorem spQ_eq (c : Int) : spQ c = (nlQ c || c == 9 || c == 32) := by
  rw [Bool.eq_iff_iff, spQ_iff]; unfold isSp; simp [nlQ_iff, or_assoc]
theorem cnQ_eq (c : Int) : cnQ c = (stQ c || dgQ c || c == 45) := by
  rw [Bool.eq_iff_iff, cnQ_iff]; unfold cont; simp [stQ_iff, dgQ_iff, or_assoc]
theorem esQ_eq (a b : Int) : esQ a b = (a == 92 && !nlQ b) := by
  rw [Bool.eq_iff_iff, esQ_iff]; unfold esc; cases h : nlQ b <;> simp [← nlQ_iff, h]
def RetB (b : Bool) (w : World) (e : Ending) (w' : World) : Prop := e = .returned (.bool b) ∧ w = w'
theorem retB_eq {a b : Bool} (h : a = b) : Ending.returned (.bool a) = .returned (.bool b) := by rw [h]
theorem RetB.mk' {a b : Bool} {w : World} (h : a = b) : RetB b w (.returned (.bool a)) w := ⟨retB_eq h, rfl⟩
set_option maxHeartbeats 400000 in
set_option maxRecDepth 100000 in
theorem nl_any (c : Int) (w : World) : Calls Tryz.prog 91 #[.int .i64 c] w (RetB (nlQ c) w) := by
  go_enter Tryz.func91, Tryz.ntmps91
  go_wp2
  all_goals
    go_ret
    exact RetB.mk' (by rw [Bool.eq_iff_iff, nlQ_iff]; unfold isNl; first | (simp; done) | (simp; omega) | (simp; intros; omega) | (simp_all; done) | (simp_all; omega) | (simp_all; intros; omega))
set_option maxHeartbeats 400000 in
set_option maxRecDepth 100000 in
theorem sp_any (c : Int) (w : World) : Calls Tryz.prog 64 #[.int .i64 c] w (RetB (spQ c) w) := by
  cases h : nlQ c
  · have hn : ¬ isNl c := by simpa [nlQ] using h
    have H := Lib.hid h
    have HN := Lib.hid hn
    clear h hn
    go_enter Tryz.func64, Tryz.ntmps64
    go_wp2_with (go_at_call 91; go_must (refine (nl_any _ _).mono ?_; rintro e w' ⟨rfl, rfl⟩; rw [H.out]))
    all_goals
      go_ret
      exact RetB.mk' (by rw [spQ_eq, H.out]; first | done | rfl | (simp; done) | (simp_all; done) | (simp; omega))
  · have hn : isNl c := by simpa [nlQ] using h
    have H := Lib.hid h
    have HN := Lib.hid hn
    clear h hn
    go_enter Tryz.func64, Tryz.ntmps64
    go_wp2_with (go_at_call 91; go_must (refine (nl_any _ _).mono ?_; rintro e w' ⟨rfl, rfl⟩; rw [H.out]))
    go_ret
    exact RetB.mk' (by rw [spQ_eq, H.out]; first | done | rfl | (simp; done) | (simp_all; done) | (simp; omega))
set_option maxHeartbeats 400000 in
set_option maxRecDepth 100000 in
theorem dg_any (c : Int) (w : World) : Calls Tryz.prog 90 #[.int .i64 c] w (RetB (dgQ c) w) := by
  go_enter Tryz.func90, Tryz.ntmps90
  go_wp2
  all_goals
    go_ret
    exact RetB.mk' (by rw [Bool.eq_iff_iff, dgQ_iff]; unfold isDg; first | (simp; done) | (simp; omega) | (simp; intros; omega) | (simp_all; done) | (simp_all; omega) | (simp_all; intros; omega))
set_option maxHeartbeats 800000 in
set_option maxRecDepth 100000 in
theorem st_any (c : Int) (w : World) : Calls Tryz.prog 89 #[.int .i64 c] w (RetB (stQ c) w) := by
  go_enter Tryz.func89, Tryz.ntmps89
  go_wp2
  all_goals
    go_ret
    exact RetB.mk' (by rw [Bool.eq_iff_iff, stQ_iff]; unfold starts; first | (simp; done) | (simp; omega) | (simp; intros; omega) | (simp_all; done) | (simp_all; omega) | (simp_all; intros; omega))
set_option maxHeartbeats 800000 in
set_option maxRecDepth 100000 in
theorem up_any (c : Int) (w : World) : Calls Tryz.prog 126 #[.int .i64 c] w (RetB (upQ c) w) := by
  go_enter Tryz.func126, Tryz.ntmps126
  go_wp2
  all_goals
    go_ret
    exact RetB.mk' (by rw [Bool.eq_iff_iff, upQ_iff]; unfold unpr; first | (simp; done) | (simp; omega) | (simp; intros; omega) | (simp_all; done) | (simp_all; omega) | (simp_all; intros; omega))
set_option maxHeartbeats 800000 in
set_option maxRecDepth 100000 in
theorem cn_any (c : Int) (w : World) : Calls Tryz.prog 58 #[.int .i64 c] w (RetB (cnQ c) w) := by
  have hq := cnQ_eq c
  have HQ := Lib.hid hq
  clear hq
  cases h : stQ c
  · have H := Lib.hid h
    clear h
    cases h2 : dgQ c
    · have H2 := Lib.hid h2
      clear h2
      go_enter Tryz.func58, Tryz.ntmps58
      go_wp2_with (first | (go_at_call 89; go_must (refine (st_any _ _).mono ?_; rintro e w' ⟨rfl, rfl⟩; rw [H.out])) | (go_at_call 90; go_must (refine (dg_any _ _).mono ?_; rintro e w' ⟨rfl, rfl⟩; rw [H2.out])))
      all_goals
        go_ret
        exact RetB.mk' (by rw [HQ.out, H.out, H2.out]; simp)
    · have H2 := Lib.hid h2
      clear h2
      go_enter Tryz.func58, Tryz.ntmps58
      go_wp2_with (first | (go_at_call 89; go_must (refine (st_any _ _).mono ?_; rintro e w' ⟨rfl, rfl⟩; rw [H.out])) | (go_at_call 90; go_must (refine (dg_any _ _).mono ?_; rintro e w' ⟨rfl, rfl⟩; rw [H2.out])))
      all_goals
        go_ret
        exact RetB.mk' (by rw [HQ.out, H.out, H2.out]; simp)
  · have H := Lib.hid h
    clear h
    go_enter Tryz.func58, Tryz.ntmps58
    go_wp2_with (go_at_call 89; go_must (refine (st_any _ _).mono ?_; rintro e w' ⟨rfl, rfl⟩; rw [H.out]))
    all_goals
      go_ret
      exact RetB.mk' (by rw [HQ.out, H.out]; simp)
set_option maxHeartbeats 800000 in
set_option maxRecDepth 100000 in
theorem es_any (a b : Int) (w : World) : Calls Tryz.prog 62 #[.int .i64 a, .int .i64 b] w (RetB (esQ a b) w) := by
  have hq := esQ_eq a b
  have HQ := Lib.hid hq
  clear hq
  cases h : nlQ b
  · have H := Lib.hid h
    clear h
    cases h1 : (a == 92)
    · go_enter Tryz.func62, Tryz.ntmps62
      go_wp2_with (go_at_call 91; go_must (refine (nl_any _ _).mono ?_; rintro e w' ⟨rfl, rfl⟩; rw [H.out]))
      go_ret
      exact RetB.mk' (by rw [HQ.out, H.out, h1]; simp)
    · go_enter Tryz.func62, Tryz.ntmps62
      go_wp2_with (go_at_call 91; go_must (refine (nl_any _ _).mono ?_; rintro e w' ⟨rfl, rfl⟩; rw [H.out]))
      go_ret
      exact RetB.mk' (by rw [HQ.out, H.out, h1]; simp)
  · have H := Lib.hid h
    clear h
    cases h1 : (a == 92)
    · go_enter Tryz.func62, Tryz.ntmps62
      go_wp2_with (go_at_call 91; go_must (refine (nl_any _ _).mono ?_; rintro e w' ⟨rfl, rfl⟩; rw [H.out]))
      go_ret
      exact RetB.mk' (by rw [HQ.out, H.out, h1]; simp)
    · go_enter Tryz.func62, Tryz.ntmps62
      go_wp2_with (go_at_call 91; go_must (refine (nl_any _ _).mono ?_; rintro e w' ⟨rfl, rfl⟩; rw [H.out]))
      go_ret
      exact RetB.mk' (by rw [HQ.out, H.out, h1]; simp)
end Go.Proofs.YtkfdcbdlcipmfaaGreatFmt
