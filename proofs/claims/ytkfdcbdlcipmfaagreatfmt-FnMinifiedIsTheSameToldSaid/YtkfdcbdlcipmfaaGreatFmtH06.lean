/- PLAIN: the guards of the statements over bytes, and what they give over code points. No program in sight. -/
import Derived.Test.YtkfdcbdlcipmfaaGreatFmtH05
import Derived.Test.YtkfdcbdlcipmfaaGreatFmtH00
set_option linter.unusedVariables false
set_option linter.unusedSimpArgs false
namespace Go.Proofs.YtkfdcbdlcipmfaaGreatFmt
namespace Css
structure RN where
  kind : Int
  unit : Int
  depth : Int
  text : List UInt8
  before : Bool
  after : Bool
def okC (c : Int) : Bool := !(c == -2) && !(c == 0)
def okDec (l : List UInt8) : Bool := (dec l).all okC
def isPlainB (l : List UInt8) : Bool := okDec l && !(pk (dec l) 0 == 65279)
def isNameB (l : List UInt8) : Bool := !l.isEmpty && okDec l
def loneB (l : List UInt8) (k : Int) : Bool :=
  isPlainB l && !(tokens (dec l)).2.2 && ((tokens (dec l)).2.1 == 0) && (match (tokens (dec l)).1 with | [x] => x.1.kind == k | _ => false)
def lowB (l : List UInt8) (ascii : Bool) : Bool := !ascii || l.all fun b => decide (b.toNat < 244)
def nameKind (k : Int) : Prop := k = 29 ∨ k = 28 ∨ k = 1
instance (k : Int) : Decidable (nameKind k) := by unfold nameKind; infer_instance
def isNodeB (n : RN) : Bool :=
  if nameKind n.kind then isNameB n.text
  else if n.kind = 27 then isNameB n.text && !isUrlB n.text
  else if n.kind = 36 then okDec n.text
  else if n.kind = 30 ∨ n.kind = 34 then loneB n.text n.kind
  else if n.kind = 26 then decide (0 < n.unit) && decide (n.unit < n.text.length) && decide (n.unit < 60000) && loneB (n.text.take n.unit.toNat) 30 && isNameB (n.text.drop n.unit.toNat)
  else if signLike n.kind then !(n.text == [92]) && loneB n.text n.kind
  else false
def RN.cp (n : RN) : N := ⟨n.kind, if n.kind = 26 then n.unit else 0, n.depth, dec n.text, n.before, n.after⟩
theorem okDec_val {l : List UInt8} (h : okDec l = true) : enc (dec l) = l ∧ ∀ c ∈ dec l, Valid c := by
  have h1 : ∀ c ∈ dec l, c ≠ -2 ∧ c ≠ 0 := by
    intro c hc
    have := List.all_eq_true.1 h c hc
    simp [okC] at this
    exact this
  obtain ⟨h2, h3⟩ := enc_dec (fun c hc => (h1 c hc).1)
  refine ⟨h2, fun c hc => ?_⟩
  have := h3 c hc
  have := (h1 c hc).2
  unfold Val0 at *
  unfold Valid
  omega
theorem valid_val0 {c : Int} (h : Valid c) : Val0 c := by unfold Valid at h; unfold Val0; omega
theorem dec_enc_v {cs : List Int} (h : ∀ c ∈ cs, Valid c) : dec (enc cs) = cs := dec_enc fun c hc => valid_val0 (h c hc)
theorem low_good {l : List UInt8} {ascii : Bool} (h1 : okDec l = true) (h2 : lowB l ascii = true) : Good ascii (dec l) := by
  obtain ⟨he, hv⟩ := okDec_val h1
  intro c hc
  refine ⟨hv c hc, fun ha => ?_⟩
  subst ha
  have hall : ∀ b ∈ l, b.toNat < 244 := by
    intro b hb
    have := List.all_eq_true.1 (show (l.all fun b => decide (b.toNat < 244)) = true by simpa [lowB] using h2) b hb
    simpa using this
  have hmem : ∀ b ∈ enc1 c, b ∈ l := by
    intro b hb
    rw [← he]
    unfold enc
    exact List.mem_flatMap.2 ⟨c, hc, hb⟩
  have hvc := hv c hc
  unfold Valid at hvc
  by_cases hx : c < 1048576
  · exact hx
  · exfalso
    have e : enc1 c = [by8 (240 + c / 262144), by8 (128 + c / 4096 % 64), by8 (128 + c / 64 % 64), by8 (128 + c % 64)] := by unfold enc1; rw [if_neg (by omega), if_neg (by omega), if_neg (by omega)]
    have := hall _ (hmem (by8 (240 + c / 262144)) (by rw [e]; simp))
    have b := by8_nat (c := 240 + c / 262144) (by omega) (by omega)
    omega
theorem mem_tail_of {l : List Int} {c : Int} (h : c ∈ l.tail) : c ∈ l := List.mem_of_mem_tail h
theorem hexRun_mem (n : Nat) : ∀ (v : Int) (ds : List Int), ∀ c ∈ (hexRun n v ds).2, c ∈ ds := by
  induction n with
  | zero => intro v ds c hc; exact hc
  | succ n ih =>
    intro v ds c hc
    unfold hexRun at hc
    split at hc
    · exact mem_tail_of (ih _ _ c hc)
    · exact hc
theorem newline_mem (ds : List Int) : ∀ c ∈ newline ds, c ∈ ds := by
  intro c hc; unfold newline at hc; split at hc
  · exact mem_tail_of (mem_tail_of hc)
  · exact mem_tail_of hc
theorem escape_mem (ds : List Int) : ∀ c ∈ (escape ds).2.2, c ∈ ds := by
  intro c hc
  unfold escape at hc
  repeat' split at hc
  · exact mem_tail_of hc
  · exact mem_tail_of hc
  · exact hexRun_mem _ _ _ _ (newline_mem _ c hc)
  · exact hexRun_mem _ _ _ _ (mem_tail_of hc)
  · exact hexRun_mem _ _ _ _ hc
theorem name_mem (ds : List Int) : ∀ c ∈ (name ds).2.2, c ∈ ds := by
  fun_induction name ds with
  | case1 ds h ih => intro c hc; exact mem_tail_of (ih c hc)
  | case2 ds h h2 ih => intro c hc; exact mem_tail_of (escape_mem _ c (ih c hc))
  | case3 => intro c hc; exact hc
theorem spaces_mem (ds : List Int) : ∀ c ∈ spaces ds, c ∈ ds := by
  induction ds with
  | nil => simp [spaces]
  | cons d t ih => intro c hc; unfold spaces at hc; split at hc <;> simp_all
theorem badURL_mem (ds : List Int) : ∀ c ∈ (badURL ds).2, c ∈ ds := by
  fun_induction badURL ds with
  | case1 ds h => intro c hc; exact mem_tail_of hc
  | case2 ds h h2 => intro c hc; exact mem_tail_of hc
  | case3 ds h h2 h3 ih => intro c hc; exact mem_tail_of (escape_mem _ c (ih c hc))
  | case4 ds h h2 h3 ih => intro c hc; exact mem_tail_of (ih c hc)
theorem url_mem (ds : List Int) : ∀ c ∈ (url ds).2.2.2, c ∈ ds := by
  fun_induction url ds with
  | case1 ds h => intro c hc; exact mem_tail_of hc
  | case2 ds h h2 => intro c hc; exact hc
  | case3 ds h h2 h3 h4 => intro c hc; exact spaces_mem _ c (badURL_mem _ c hc)
  | case4 ds h h2 h3 h4 ih => intro c hc; exact spaces_mem _ c (ih c hc)
  | case5 ds h h2 h3 h4 => intro c hc; exact badURL_mem _ c hc
  | case6 ds h h2 h3 h4 h5 r ih => intro c hc; exact mem_tail_of (escape_mem _ c (ih c hc))
  | case7 ds h h2 h3 h4 h5 r ih => intro c hc; exact mem_tail_of (ih c hc)
theorem quotedRun_mem (q : Int) (ds : List Int) : ∀ c ∈ (quotedRun q ds).2.2.2, c ∈ ds := by
  fun_induction quotedRun q ds with
  | case1 ds h => intro c hc; exact mem_tail_of hc
  | case2 ds h h2 => intro c hc; exact hc
  | case3 ds h h2 h3 => intro c hc; exact hc
  | case4 ds h h2 h3 h4 ih => intro c hc; exact mem_tail_of (ih c hc)
  | case5 ds h h2 h3 h4 h5 ih => intro c hc; exact mem_tail_of (newline_mem _ c (ih c hc))
  | case6 ds h h2 h3 h4 h5 h6 r ih => intro c hc; exact mem_tail_of (escape_mem _ c (ih c hc))
  | case7 ds h h2 h3 h4 h5 h6 r ih => intro c hc; exact mem_tail_of (ih c hc)
theorem numEnd_mem (ds : List Int) : ∀ c ∈ (numEnd ds).2, c ∈ ds := by
  unfold numEnd
  simp only []
  have hS : ∀ c ∈ numSign ds, c ∈ ds := by intro c hc; unfold numSign at hc; split at hc; exact mem_tail_of hc; exact hc
  have hD : ∀ c ∈ digits (numSign ds), c ∈ ds := fun c hc => hS c (digits_sub _ c hc)
  have hP : ∀ c ∈ numDot (digits (numSign ds)), c ∈ ds := by
    intro c hc; unfold numDot at hc; split at hc
    · exact hD c (mem_tail_of (digits_sub _ c hc))
    · exact hD c hc
  intro c hc; unfold numExp at hc; split at hc
  · exact hP c (mem_tail_of (mem_tail_of (digits_sub _ c hc)))
  · exact hP c hc
theorem numeric_mem (ds : List Int) : ∀ c ∈ (numeric ds).2.2, c ∈ ds := by
  intro c hc
  unfold numeric at hc
  simp only [] at hc
  repeat' split at hc
  · exact numEnd_mem ds c (name_mem _ c hc)
  · exact numEnd_mem ds c (mem_tail_of hc)
  · exact numEnd_mem ds c hc
theorem named_mem (ds : List Int) : ∀ c ∈ (named ds).2.2, c ∈ ds := by
  intro c hc
  unfold named at hc
  simp only [] at hc
  repeat' split at hc
  · exact name_mem ds c hc
  · exact name_mem ds c (mem_tail_of (spaces_mem _ c (url_mem _ c hc)))
  · exact name_mem ds c (mem_tail_of hc)
theorem next_mem (ds : List Int) : ∀ c ∈ (next ds).2.2, c ∈ ds := by
  intro c hc
  unfold next at hc
  split at hc
  · exact hc
  split at hc
  · exact spaces_mem ds c hc
  split at hc
  · exact mem_tail_of (quotedRun_mem _ _ c hc)
  split at hc
  · exact mem_tail_of (name_mem _ c hc)
  split at hc
  · exact numeric_mem ds c hc
  split at hc
  · exact mem_tail_of (mem_tail_of (mem_tail_of hc))
  split at hc
  · exact named_mem ds c hc
  split at hc
  · exact mem_tail_of (mem_tail_of (mem_tail_of (mem_tail_of hc)))
  split at hc
  · exact mem_tail_of (name_mem _ c hc)
  · exact mem_tail_of hc
theorem next_plain_tk {cs : List Int} {k : Int} (hk : k = 30 ∨ k = 34 ∨ signLike k) (h : (Css.next cs).1.kind = k) : (Css.next cs).1 = ⟨k, 0, []⟩ := by
  have hk2 : k ≠ 0 ∧ k ≠ 38 ∧ k ≠ 36 ∧ k ≠ 2 ∧ k ≠ 28 ∧ k ≠ 26 ∧ k ≠ 29 ∧ k ≠ 27 ∧ k ≠ 37 ∧ k ≠ 3 ∧ k ≠ 1 := by unfold signLike at hk; omega
  unfold Css.next at h ⊢
  split at h
  · simp only [] at h; omega
  rename_i h1; rw [if_neg h1]
  split at h
  · simp only [] at h; omega
  rename_i h2; rw [if_neg h2]
  split at h
  · have := quotedRun_kind (pk cs 0) cs.tail; simp only [] at h; omega
  rename_i h3; rw [if_neg h3]
  split at h
  · simp only [] at h; omega
  rename_i h4; rw [if_neg h4]
  split at h
  · rename_i h5
    rw [if_pos h5]
    unfold numeric at h ⊢
    simp only [] at h ⊢
    repeat' split at h
    · simp only [] at h; omega
    · rename_i q1 q2; rw [if_neg q1, if_pos q2]; simp only [] at h ⊢; rw [h]
    · rename_i q1 q2; rw [if_neg q1, if_neg q2]; simp only [] at h ⊢; rw [h]
  rename_i h5; rw [if_neg h5]
  split at h
  · rename_i h6; rw [if_pos h6]; simp only [] at h ⊢; rw [h]
  rename_i h6; rw [if_neg h6]
  split at h
  · have := named_kind cs; omega
  rename_i h7; rw [if_neg h7]
  split at h
  · rename_i h8; rw [if_pos h8]; simp only [] at h ⊢; rw [h]
  rename_i h8; rw [if_neg h8]
  split at h
  · simp only [] at h; omega
  rename_i h9; rw [if_neg h9]
  simp only [] at h ⊢; rw [h]
theorem loneB_lone {l : List UInt8} {k : Int} (hk : k = 30 ∨ k = 34 ∨ signLike k) (h : loneB l k = true) : okDec l = true ∧ Lone (dec l) ⟨k, 0, []⟩ := by
  unfold loneB isPlainB at h
  simp only [Bool.and_eq_true, Bool.not_eq_true', beq_iff_eq] at h
  obtain ⟨⟨⟨⟨h1, _⟩, h2⟩, h3⟩, h4⟩ := h
  refine ⟨h1, ?_⟩
  obtain ⟨_, hv⟩ := okDec_val h1
  have hm : ∀ c ∈ dec l, c ≠ -1 := fun c hc => by have := hv c hc; unfold Valid at this; omega
  cases ht : (tokens (dec l)).1 with
  | nil => rw [ht] at h4; simp at h4
  | cons x r =>
    cases r with
    | cons y r => rw [ht] at h4; simp at h4
    | nil =>
      rw [ht] at h4
      simp only [beq_iff_eq] at h4
      have e : tokens (dec l) = ([x], 0, false) := by
        rw [← ht, ← h3, ← h2]
      have hl := lone_of_tokens hm (next_mem _) e
      have ek : x.1 = (Css.next (dec l)).1 := by rw [hl.next]
      have := next_plain_tk hk (by rw [← ek]; exact h4)
      rw [← ek] at this
      rw [← this]; exact hl
theorem dec_append_enc : ∀ (xs : List Int) (b : List UInt8), (∀ c ∈ xs, Valid c) → dec (enc xs ++ b) = xs ++ dec b := by
  intro xs
  induction xs with
  | nil => intro b _; simp
  | cons c t ih =>
    intro b h
    have hc := runeL_enc (valid_val0 (h c (by simp))) (enc t ++ b)
    obtain ⟨x, tl, hb⟩ : ∃ x tl, enc1 c = x :: tl := by
      have := enc1_length c
      have hw := (wd_pos c).1
      cases he : enc1 c with
      | nil => rw [he] at this; simp at this; omega
      | cons b tl => exact ⟨b, tl, rfl⟩
    rw [enc_cons, List.append_assoc]
    have e : enc1 c ++ (enc t ++ b) = x :: (tl ++ (enc t ++ b)) := by rw [hb]; rfl
    rw [e] at hc ⊢
    rw [dec, hc]
    simp only []
    rw [← e]
    have : (enc1 c ++ (enc t ++ b)).drop (wd c) = enc t ++ b := by rw [← enc1_length c, List.drop_left]
    rw [this, ih b (fun x hx => h x (by simp [hx]))]
    rfl
theorem enc_ascii_len {cs : List Int} (h : ∀ c ∈ cs, c < 128) : (enc cs).length = cs.length := by
  induction cs with
  | nil => rfl
  | cons c t ih =>
    have e : wd c = 1 := by unfold wd; rw [if_pos (h c (by simp))]
    rw [enc_length_cons, e, ih (fun x hx => h x (by simp [hx]))]; simp; omega
theorem dim_split {l : List UInt8} {u : Nat} (hu : u ≤ l.length) (h1 : loneB (l.take u) 30 = true) (h2 : okDec (l.drop u) = true) :
    okDec l = true ∧ (dec l).take u = dec (l.take u) ∧ (dec l).drop u = dec (l.drop u) ∧ Lone (dec (l.take u)) ⟨30, 0, []⟩ ∧ (dec (l.take u)).length = u := by
  obtain ⟨ha, hl⟩ := loneB_lone (.inl rfl) h1
  obtain ⟨e1, v1⟩ := okDec_val ha
  have hm : ∀ c ∈ dec (l.take u), c ≠ -1 := fun c hc => by have := v1 c hc; unfold Valid at this; omega
  have hasc := lone_ascii hm hl (.inl rfl)
  have hlen : (dec (l.take u)).length = u := by
    have := enc_ascii_len hasc
    rw [e1, List.length_take] at this; omega
  have hd : dec l = dec (l.take u) ++ dec (l.drop u) := by
    have := dec_append_enc (dec (l.take u)) (l.drop u) v1
    rw [e1, List.take_append_drop] at this
    exact this
  refine ⟨?_, ?_, ?_, hl, hlen⟩
  · unfold okDec at *
    rw [hd, List.all_append, ha, h2]; rfl
  · rw [hd, List.take_append_of_le_length (by omega), List.take_of_length_le (by omega)]
  · rw [hd, List.drop_append_of_le_length (by omega), List.drop_eq_nil_of_le (by omega), List.nil_append]
theorem isNode_ok {n : RN} {ascii : Bool} (h : isNodeB n = true) (hlow : lowB n.text ascii = true) : OK1 ascii (tOf n.cp) ∧ okDec n.text = true := by
  unfold isNodeB at h
  split at h
  · rename_i hk
    simp only [isNameB, Bool.and_eq_true, Bool.not_eq_true'] at h
    have hg := low_good h.2 hlow
    refine ⟨.name ?_ ?_ hg, h.2⟩
    · exact hk
    · intro h0
      have h0 : dec n.text = [] := h0
      have := (okDec_val h.2).1
      rw [h0] at this
      rw [← this] at h; simp at h
  split at h
  · rename_i hk0 hk
    simp only [isNameB, Bool.and_eq_true, Bool.not_eq_true'] at h
    have hg := low_good h.1.2 hlow
    refine ⟨.func hk ?_ hg ?_, h.1.2⟩
    · intro h0
      have h0 : dec n.text = [] := h0
      have := (okDec_val h.1.2).1
      rw [h0] at this
      rw [← this] at h; simp at h
    · show isUrlB (enc (dec n.text)) = false
      rw [(okDec_val h.1.2).1]; exact h.2
  split at h
  · rename_i hk
    exact ⟨.str hk (low_good h hlow), h⟩
  split at h
  · rename_i hk
    obtain ⟨h1, h2⟩ := loneB_lone (by omega) h
    exact ⟨.num hk (low_good h1 hlow) h2, h1⟩
  split at h
  · rename_i hk
    simp only [isNameB, Bool.and_eq_true, Bool.not_eq_true', decide_eq_true_eq] at h
    obtain ⟨⟨⟨⟨h1, h2⟩, h3⟩, h4⟩, h5, h6⟩ := h
    obtain ⟨a1, a2, a3, a4, a5⟩ := dim_split (u := n.unit.toNat) (by omega) h4 h6
    have eu : (tOf n.cp).unit = n.unit.toNat := by show (if n.kind = 26 then n.unit else 0).toNat = _; rw [if_pos hk]
    refine ⟨.dim hk (low_good a1 hlow) ?_ ?_ ?_, a1⟩
    · rw [eu]; omega
    · rw [eu]
      show _ < (dec n.text).length
      have hne : dec (n.text.drop n.unit.toNat) ≠ [] := by
        intro h0
        have := (okDec_val h6).1
        rw [h0] at this
        rw [← this] at h5; simp at h5
      have : (dec n.text).length = n.unit.toNat + (dec (n.text.drop n.unit.toNat)).length := by
        have e := List.take_append_drop n.unit.toNat (dec n.text)
        rw [a2, a3] at e
        have := congrArg List.length e
        rw [List.length_append, a5] at this; omega
      have := List.length_pos_iff.2 hne
      omega
    · rw [eu]
      show Lone (List.take _ (dec n.text)) _
      rw [a2]; exact a4
  split at h
  · rename_i hk
    simp only [Bool.and_eq_true] at h
    obtain ⟨h1, h2⟩ := loneB_lone (.inr (.inr hk)) h.2
    exact ⟨.sign hk (low_good h1 hlow) h2, h1⟩
  · simp at h
end Css
end Go.Proofs.YtkfdcbdlcipmfaaGreatFmt
namespace Go.Proofs.YtkfdcbdlcipmfaaGreatFmt
open Go.RowKit Css
def nlQ (c : Int) : Bool := decide (isNl c)
def spQ (c : Int) : Bool := decide (isSp c)
def dgQ (c : Int) : Bool := decide (isDg c)
def stQ (c : Int) : Bool := decide (starts c)
def cnQ (c : Int) : Bool := decide (cont c)
def upQ (c : Int) : Bool := decide (unpr c)
def esQ (a b : Int) : Bool := decide (esc a b)
def idQ (a b c : Int) : Bool := decide (ident3 a b c)
def n2Q (a b : Int) : Bool := decide (num2 a b)
def coQ (a b c : Int) : Bool := decide (counts a b c)
theorem nlQ_iff {c : Int} : nlQ c = true ↔ isNl c := by simp [nlQ]
theorem spQ_iff {c : Int} : spQ c = true ↔ isSp c := by simp [spQ]
theorem dgQ_iff {c : Int} : dgQ c = true ↔ isDg c := by simp [dgQ]
theorem stQ_iff {c : Int} : stQ c = true ↔ starts c := by simp [stQ]
theorem cnQ_iff {c : Int} : cnQ c = true ↔ cont c := by simp [cnQ]
theorem upQ_iff {c : Int} : upQ c = true ↔ unpr c := by simp [upQ]
theorem esQ_iff {a b : Int} : esQ a b = true ↔ esc a b := by simp [esQ]
theorem idQ_iff {a b c : Int} : idQ a b c = true ↔ ident3 a b c := by simp [idQ]
theorem n2Q_iff {a b : Int} : n2Q a b = true ↔ num2 a b := by simp [n2Q]
theorem coQ_iff {a b c : Int} : coQ a b c = true ↔ counts a b c := by simp [coQ]
theorem spQ_eq (c : Int) : spQ c = (nlQ c || c == 9 || c == 32) := by
  rw [Bool.eq_iff_iff, spQ_iff]; unfold isSp; simp [nlQ_iff, or_assoc]
theorem cnQ_eq (c : Int) : cnQ c = (stQ c || dgQ c || c == 45) := by
  rw [Bool.eq_iff_iff, cnQ_iff]; unfold cont; simp [stQ_iff, dgQ_iff, or_assoc]
theorem esQ_eq (a b : Int) : esQ a b = (a == 92 && !nlQ b) := by
  rw [Bool.eq_iff_iff, esQ_iff]; unfold esc; cases h : nlQ b <;> simp [← nlQ_iff, h]
def RetB (b : Bool) (w : World) (e : Ending) (w' : World) : Prop := e = .returned (.bool b) ∧ w = w'
theorem retB_eq {a b : Bool} (h : a = b) : Ending.returned (.bool a) = .returned (.bool b) := by rw [h]
theorem RetB.mk' {a b : Bool} {w : World} (h : a = b) : RetB b w (.returned (.bool a)) w := ⟨retB_eq h, rfl⟩
set_option maxHeartbeats 400000 in
set_option maxRecDepth 100000 in
theorem nl_any (c : Int) (w : World) : Calls Tryz.prog 91 #[.int .i64 c] w (RetB (nlQ c) w) := by
  go_enter Tryz.func91, Tryz.ntmps91
  go_wp2
  all_goals
    go_ret
    exact RetB.mk' (by rw [Bool.eq_iff_iff, nlQ_iff]; unfold isNl; first | (simp; done) | (simp; omega) | (simp; intros; omega) | (simp_all; done) | (simp_all; omega) | (simp_all; intros; omega))
set_option maxHeartbeats 400000 in
set_option maxRecDepth 100000 in
theorem sp_any (c : Int) (w : World) : Calls Tryz.prog 64 #[.int .i64 c] w (RetB (spQ c) w) := by
  cases h : nlQ c
  · have hn : ¬ isNl c := by simpa [nlQ] using h
    have H := Lib.hid h
    have HN := Lib.hid hn
    clear h hn
    go_enter Tryz.func64, Tryz.ntmps64
    go_wp2_with (go_at_call 91; go_must (refine (nl_any _ _).mono ?_; rintro e w' ⟨rfl, rfl⟩; rw [H.out]))
    all_goals
      go_ret
      exact RetB.mk' (by rw [spQ_eq, H.out]; first | done | rfl | (simp; done) | (simp_all; done) | (simp; omega))
  · have hn : isNl c := by simpa [nlQ] using h
    have H := Lib.hid h
    have HN := Lib.hid hn
    clear h hn
    go_enter Tryz.func64, Tryz.ntmps64
    go_wp2_with (go_at_call 91; go_must (refine (nl_any _ _).mono ?_; rintro e w' ⟨rfl, rfl⟩; rw [H.out]))
    go_ret
    exact RetB.mk' (by rw [spQ_eq, H.out]; first | done | rfl | (simp; done) | (simp_all; done) | (simp; omega))
set_option maxHeartbeats 400000 in
set_option maxRecDepth 100000 in
theorem dg_any (c : Int) (w : World) : Calls Tryz.prog 90 #[.int .i64 c] w (RetB (dgQ c) w) := by
  go_enter Tryz.func90, Tryz.ntmps90
  go_wp2
  all_goals
    go_ret
    exact RetB.mk' (by rw [Bool.eq_iff_iff, dgQ_iff]; unfold isDg; first | (simp; done) | (simp; omega) | (simp; intros; omega) | (simp_all; done) | (simp_all; omega) | (simp_all; intros; omega))
set_option maxHeartbeats 800000 in
set_option maxRecDepth 100000 in
theorem st_any (c : Int) (w : World) : Calls Tryz.prog 89 #[.int .i64 c] w (RetB (stQ c) w) := by
  go_enter Tryz.func89, Tryz.ntmps89
  go_wp2
  all_goals
    go_ret
    exact RetB.mk' (by rw [Bool.eq_iff_iff, stQ_iff]; unfold starts; first | (simp; done) | (simp; omega) | (simp; intros; omega) | (simp_all; done) | (simp_all; omega) | (simp_all; intros; omega))
set_option maxHeartbeats 800000 in
set_option maxRecDepth 100000 in
theorem up_any (c : Int) (w : World) : Calls Tryz.prog 126 #[.int .i64 c] w (RetB (upQ c) w) := by
  go_enter Tryz.func126, Tryz.ntmps126
  go_wp2
  all_goals
    go_ret
    exact RetB.mk' (by rw [Bool.eq_iff_iff, upQ_iff]; unfold unpr; first | (simp; done) | (simp; omega) | (simp; intros; omega) | (simp_all; done) | (simp_all; omega) | (simp_all; intros; omega))
set_option maxHeartbeats 800000 in
set_option maxRecDepth 100000 in
theorem cn_any (c : Int) (w : World) : Calls Tryz.prog 58 #[.int .i64 c] w (RetB (cnQ c) w) := by
  have hq := cnQ_eq c
  have HQ := Lib.hid hq
  clear hq
  cases h : stQ c
  · have H := Lib.hid h
    clear h
    cases h2 : dgQ c
    · have H2 := Lib.hid h2
      clear h2
      go_enter Tryz.func58, Tryz.ntmps58
      go_wp2_with (first | (go_at_call 89; go_must (refine (st_any _ _).mono ?_; rintro e w' ⟨rfl, rfl⟩; rw [H.out])) | (go_at_call 90; go_must (refine (dg_any _ _).mono ?_; rintro e w' ⟨rfl, rfl⟩; rw [H2.out])))
      all_goals
        go_ret
        exact RetB.mk' (by rw [HQ.out, H.out, H2.out]; simp)
    · have H2 := Lib.hid h2
      clear h2
      go_enter Tryz.func58, Tryz.ntmps58
      go_wp2_with (first | (go_at_call 89; go_must (refine (st_any _ _).mono ?_; rintro e w' ⟨rfl, rfl⟩; rw [H.out])) | (go_at_call 90; go_must (refine (dg_any _ _).mono ?_; rintro e w' ⟨rfl, rfl⟩; rw [H2.out])))
      all_goals
        go_ret
        exact RetB.mk' (by rw [HQ.out, H.out, H2.out]; simp)
  · have H := Lib.hid h
    clear h
    go_enter Tryz.func58, Tryz.ntmps58
    go_wp2_with (go_at_call 89; go_must (refine (st_any _ _).mono ?_; rintro e w' ⟨rfl, rfl⟩; rw [H.out]))
    all_goals
      go_ret
      exact RetB.mk' (by rw [HQ.out, H.out]; simp)
set_option maxHeartbeats 800000 in
set_option maxRecDepth 100000 in
theorem es_any (a b : Int) (w : World) : Calls Tryz.prog 62 #[.int .i64 a, .int .i64 b] w (RetB (esQ a b) w) := by
  have hq := esQ_eq a b
  have HQ := Lib.hid hq
  clear hq
  cases h : nlQ b
  · have H := Lib.hid h
    clear h
    cases h1 : (a == 92)
    · go_enter Tryz.func62, Tryz.ntmps62
      go_wp2_with (go_at_call 91; go_must (refine (nl_any _ _).mono ?_; rintro e w' ⟨rfl, rfl⟩; rw [H.out]))
      go_ret
      exact RetB.mk' (by rw [HQ.out, H.out, h1]; simp)
    · go_enter Tryz.func62, Tryz.ntmps62
      go_wp2_with (go_at_call 91; go_must (refine (nl_any _ _).mono ?_; rintro e w' ⟨rfl, rfl⟩; rw [H.out]))
      go_ret
      exact RetB.mk' (by rw [HQ.out, H.out, h1]; simp)
  · have H := Lib.hid h
    clear h
    cases h1 : (a == 92)
    · go_enter Tryz.func62, Tryz.ntmps62
      go_wp2_with (go_at_call 91; go_must (refine (nl_any _ _).mono ?_; rintro e w' ⟨rfl, rfl⟩; rw [H.out]))
      go_ret
      exact RetB.mk' (by rw [HQ.out, H.out, h1]; simp)
    · go_enter Tryz.func62, Tryz.ntmps62
      go_wp2_with (go_at_call 91; go_must (refine (nl_any _ _).mono ?_; rintro e w' ⟨rfl, rfl⟩; rw [H.out]))
      go_ret
      exact RetB.mk' (by rw [HQ.out, H.out, h1]; simp)
end Go.Proofs.YtkfdcbdlcipmfaaGreatFmt
namespace Go.Proofs.YtkfdcbdlcipmfaaGreatFmt
namespace Css
structure RIt where
  kind : Int
  unit : Int
  text : List UInt8
  space : Int
def RIt.cp (x : RIt) : It := ⟨x.kind, if x.kind = 26 then x.unit else 0, dec x.text, x.space⟩
def closeR (k : Int) : RIt := ⟨k, 0, [], -1⟩
def itemsRGo : List Int → (Int → Bool) → (Int → Bool) → List RN → List RIt
  | op, _, _, [] => op.map closeR
  | op, last, fresh, n :: l =>
    (op.take (op.length - n.depth.toNat)).map closeR ++ ⟨n.kind, n.unit, n.text, spOf (fresh n.depth) (last n.depth) n.before⟩ ::
      (if opens n.kind then itemsRGo (closeKind n.kind :: op.drop (op.length - n.depth.toNat)) (upd last n.depth n.after) (upd (upd fresh n.depth false) (n.depth + 1) true) l
       else itemsRGo (op.drop (op.length - n.depth.toNat)) (upd last n.depth n.after) (upd fresh n.depth false) l)
def itemsR (l : List RN) : List RIt := itemsRGo [] (fun _ => false) (fun i => decide (i = 0)) l
def isClose (k : Int) : Prop := k = 8 ∨ k = 7 ∨ k = 6
theorem closeKind_close (k : Int) : isClose (closeKind k) := by
  unfold closeKind isClose
  split
  · simp
  split <;> simp
theorem closeR_cp {k : Int} (h : isClose k) : (closeR k).cp = closeIt k := by
  unfold isClose at h
  unfold closeR RIt.cp closeIt
  simp only [It.mk.injEq, true_and, and_true]
  constructor
  · rw [if_neg (by omega)]
  · rw [dec]
theorem closes_map {op : List Int} (h : ∀ k ∈ op, isClose k) : (op.map closeR).map RIt.cp = op.map closeIt := by
  rw [List.map_map]
  exact List.map_congr_left fun k hk => closeR_cp (h k hk)
theorem itemsRGo_cp (l : List RN) : ∀ (op : List Int) (last fresh : Int → Bool), (∀ k ∈ op, isClose k) → (itemsRGo op last fresh l).map RIt.cp = itemsGo op last fresh (l.map RN.cp) := by
  induction l with
  | nil => intro op last fresh h; exact closes_map h
  | cons n l ih =>
    intro op last fresh h
    have h1 : ∀ k ∈ op.take (op.length - n.depth.toNat), isClose k := fun k hk => h k (List.mem_of_mem_take hk)
    have h2 : ∀ k ∈ op.drop (op.length - n.depth.toNat), isClose k := fun k hk => h k (List.mem_of_mem_drop hk)
    simp only [itemsRGo, itemsGo, List.map_cons, List.map_append]
    rw [closes_map h1]
    congr 1
    congr 1
    show List.map RIt.cp (if opens n.kind then _ else _) = if opens n.kind then _ else _
    split
    · exact ih _ _ _ (by intro k hk; rw [List.mem_cons] at hk; rcases hk with rfl | hk; exact closeKind_close _; exact h2 k hk)
    · exact ih _ _ _ h2
theorem itemsR_cp (l : List RN) : (itemsR l).map RIt.cp = items (l.map RN.cp) := itemsRGo_cp l _ _ _ (by simp)
structure ItOk (x : RIt) : Prop where
  ok : okDec x.text = true
  low : x.kind = 26 → ∀ c ∈ (dec x.text).take x.unit.toNat, c < 128
theorem closeR_ok (k : Int) (h : isClose k) : ItOk (closeR k) := ⟨by show okDec [] = true; unfold okDec; rw [dec]; rfl, fun h26 => by unfold isClose at h; simp only [closeR] at h26; omega⟩
theorem itemsRGo_mem (l : List RN) : ∀ (op : List Int) (last fresh : Int → Bool), (∀ k ∈ op, isClose k) → ∀ x ∈ itemsRGo op last fresh l, (∃ k, isClose k ∧ x = closeR k) ∨ ∃ n ∈ l, x.kind = n.kind ∧ x.unit = n.unit ∧ x.text = n.text := by
  induction l with
  | nil =>
    intro op last fresh h x hx
    simp only [itemsRGo, List.mem_map] at hx
    obtain ⟨k, hk, rfl⟩ := hx
    exact .inl ⟨k, h k hk, rfl⟩
  | cons n l ih =>
    intro op last fresh h x hx
    have h2 : ∀ k ∈ op.drop (op.length - n.depth.toNat), isClose k := fun k hk => h k (List.mem_of_mem_drop hk)
    simp only [itemsRGo, List.mem_append, List.mem_cons, List.mem_map] at hx
    rcases hx with ⟨k, hk, rfl⟩ | rfl | hx
    · exact .inl ⟨k, h k (List.mem_of_mem_take hk), rfl⟩
    · exact .inr ⟨n, by simp, rfl, rfl, rfl⟩
    · have : (∃ k, isClose k ∧ x = closeR k) ∨ ∃ n ∈ l, x.kind = n.kind ∧ x.unit = n.unit ∧ x.text = n.text := by
        split at hx
        · exact ih _ _ _ (by intro k hk; rw [List.mem_cons] at hk; rcases hk with rfl | hk; exact closeKind_close _; exact h2 k hk) x hx
        · exact ih _ _ _ h2 x hx
      rcases this with h | ⟨m, hm, h⟩
      · exact .inl h
      · exact .inr ⟨m, by simp [hm], h⟩
theorem itemsRGo_len (l : List RN) : ∀ (op : List Int) (last fresh : Int → Bool), (itemsRGo op last fresh l).length ≤ op.length + 2 * l.length := by
  induction l with
  | nil => intro op last fresh; simp [itemsRGo]
  | cons n l ih =>
    intro op last fresh
    simp only [itemsRGo, List.length_append, List.length_cons, List.length_map, List.length_take]
    have hd : (op.drop (op.length - n.depth.toNat)).length = op.length - (op.length - n.depth.toNat) := List.length_drop
    split
    · have := ih (closeKind n.kind :: op.drop (op.length - n.depth.toNat)) (upd last n.depth n.after) (upd (upd fresh n.depth false) (n.depth + 1) true)
      rw [List.length_cons, hd] at this; omega
    · have := ih (op.drop (op.length - n.depth.toNat)) (upd last n.depth n.after) (upd fresh n.depth false)
      rw [hd] at this; omega
theorem itemsR_len (l : List RN) : (itemsR l).length ≤ 2 * l.length := by have := itemsRGo_len l [] (fun _ => false) (fun i => decide (i = 0)); simpa [itemsR] using this
theorem isNode_item {n : RN} {ascii : Bool} (h : isNodeB n = true) (hlow : lowB n.text ascii = true) : okDec n.text = true ∧ (n.kind = 26 → ∀ c ∈ (dec n.text).take n.unit.toNat, c < 128) := by
  obtain ⟨hk, ho⟩ := isNode_ok h hlow
  refine ⟨ho, fun h26 => ?_⟩
  cases hk with
  | name h1 => rw [show (tOf n.cp).kind = n.kind from rfl] at h1; omega
  | func h1 => rw [show (tOf n.cp).kind = n.kind from rfl] at h1; omega
  | str h1 => rw [show (tOf n.cp).kind = n.kind from rfl] at h1; omega
  | num h1 => rw [show (tOf n.cp).kind = n.kind from rfl] at h1; omega
  | sign h1 => rw [show (tOf n.cp).kind = n.kind from rfl] at h1; unfold signLike at h1; omega
  | dim h1 hg h2 h3 hl =>
    have hu : (tOf n.cp).unit = n.unit.toNat := by show (if n.kind = 26 then n.unit else 0).toNat = _; rw [if_pos h26]
    have ht : (tOf n.cp).text = dec n.text := rfl
    rw [hu, ht] at hl
    rw [ht] at hg
    have := lone_ascii (fun c hc => good_ne hg c (List.mem_of_mem_take hc)) hl (.inl rfl)
    exact this
theorem itemsR_ok {l : List RN} {ascii : Bool} (h : ∀ n ∈ l, isNodeB n = true) (hlow : ∀ n ∈ l, lowB n.text ascii = true) : ∀ x ∈ itemsR l, ItOk x := by
  intro x hx
  rcases itemsRGo_mem l _ _ _ (by simp) x hx with ⟨k, hk, rfl⟩ | ⟨n, hn, e1, e2, e3⟩
  · exact closeR_ok k hk
  · have := isNode_item (h n hn) (hlow n hn)
    exact ⟨by rw [e3]; exact this.1, by rw [e1, e2, e3]; exact this.2⟩
end Css
end Go.Proofs.YtkfdcbdlcipmfaaGreatFmt
namespace Go.Proofs.YtkfdcbdlcipmfaaGreatFmt
namespace Css
def setR (all : Bool) : List RN → List RN
  | [] => []
  | n :: r => { n with after := n.after || all || needs n.cp (r.map RN.cp) } :: setR all r
theorem setR_cp (all : Bool) (l : List RN) : (setR all l).map RN.cp = setL all (l.map RN.cp) := by
  induction l with
  | nil => rfl
  | cons n r ih => simp only [setR, setL, List.map_cons, ih]; rfl
theorem setR_len (all : Bool) (l : List RN) : (setR all l).length = l.length := by
  induction l with
  | nil => rfl
  | cons n r ih => simp [setR, ih]
structure GoodTree (ascii : Bool) (l : List RN) : Prop where
  tree : Tree 0 (l.map RN.cp)
  node : ∀ n ∈ l, isNodeB n = true
  low : ∀ n ∈ l, lowB n.text ascii = true
theorem isNodeB_after (n : RN) (a : Bool) : isNodeB { n with after := a } = isNodeB n := rfl
theorem tree_setL (all : Bool) (l : List N) : ∀ m, Tree m l → Tree m (setL all l) := by
  induction l with
  | nil => intro m h; exact h
  | cons n r ih => intro m h; exact ⟨h.1, h.2.1, ih _ h.2.2⟩
theorem setR_mem {all : Bool} {l : List RN} {x : RN} (h : x ∈ setR all l) : ∃ n ∈ l, ∃ a, x = { n with after := a } := by
  induction l with
  | nil => simp [setR] at h
  | cons n r ih =>
    simp only [setR, List.mem_cons] at h
    rcases h with rfl | h
    · exact ⟨n, by simp, _, rfl⟩
    · obtain ⟨m, hm, a, e⟩ := ih h
      exact ⟨m, by simp [hm], a, e⟩
theorem GoodTree.set {ascii : Bool} {l : List RN} (h : GoodTree ascii l) (all : Bool) : GoodTree ascii (setR all l) := by
  refine ⟨?_, ?_, ?_⟩
  · rw [setR_cp]; exact tree_setL all _ _ h.tree
  · intro x hx
    obtain ⟨n, hn, a, rfl⟩ := setR_mem hx
    rw [isNodeB_after]; exact h.node n hn
  · intro x hx
    obtain ⟨n, hn, a, rfl⟩ := setR_mem hx
    exact h.low n hn
theorem node_unit {n : RN} (h : isNodeB n = true) : 0 ≤ n.cp.unit := by
  obtain ⟨hk, _⟩ := isNode_ok (ascii := false) h rfl
  show 0 ≤ (if n.kind = 26 then n.unit else 0)
  split
  · rename_i h26
    unfold isNodeB at h
    have h1 : ¬ nameKind n.kind := by unfold nameKind; omega
    rw [if_neg h1, if_neg (by omega), if_neg (by omega), if_neg (by omega), if_pos h26] at h
    simp only [Bool.and_eq_true, decide_eq_true_eq] at h
    omega
  · omega
theorem GoodTree.unit {ascii : Bool} {l : List RN} (h : GoodTree ascii l) : UnitOk (l.map RN.cp) := by
  intro x hx
  obtain ⟨n, hn, rfl⟩ := List.mem_map.1 hx
  exact node_unit (h.node n hn)
theorem GoodTree.ok {ascii : Bool} {l : List RN} (h : GoodTree ascii l) : AllOK ascii (l.map RN.cp) := by
  intro x hx
  obtain ⟨n, hn, rfl⟩ := List.mem_map.1 hx
  exact (isNode_ok (h.node n hn) (h.low n hn)).1
theorem parse_items {l : List N} {ts : List T} (hp : Parse 0 l ts []) (ht : Tree 0 l) (hu : UnitOk l) : items l = itemsF ts true false := by
  obtain ⟨la, fr, he, _⟩ := itemsGo_parse hp (Int.le_refl _) hu [] (fun _ => false) (fun i => decide (i = 0)) ht rfl
  unfold items
  rw [he]
  simp [itemsGo]
theorem set_okl {ascii all : Bool} {l : List RN} (h : GoodTree ascii l) {ts : List T} (hp : Parse 0 ((setR all l).map RN.cp) ts []) : OKl ascii ts := by
  have hs := h.set all
  exact okl_parse hp hs.tree (by rw [setR_cp]; exact gaps_set all _) hs.ok
theorem dec_low {c : Int} (h : 1 ≤ c ∧ c < 128) : dec [by8 c] = [c] := by
  have h1 := dec_enc (cs := [c]) (by intro d hd; simp at hd; subst hd; unfold Val0; omega)
  have h2 : enc [c] = [by8 c] := by simp [enc, enc1]; omega
  rw [h2] at h1; exact h1
def signR (k : Int) (c : UInt8) : RIt := ⟨k, 0, [c], -1⟩
theorem signR_cp {k : Int} {c : UInt8} {d : Int} (hk : k ≠ 26) (h : dec [c] = [d]) : (signR k c).cp = ⟨k, 0, [d], -1⟩ := by
  unfold signR RIt.cp
  simp only [It.mk.injEq, true_and, and_true]
  exact ⟨if_neg hk, h⟩
theorem signR_ok {k : Int} {c : UInt8} {d : Int} (hk : k ≠ 26) (h : dec [c] = [d]) (hd : okC d = true) : ItOk (signR k c) := ⟨by show okDec [c] = true; unfold okDec; rw [h]; simp [hd], fun h26 => absurd h26 hk⟩
def nameR (k : Int) (nm : List UInt8) : RIt := ⟨k, 0, nm, -1⟩
theorem nameR_cp {k : Int} {nm : List UInt8} (hk : k ≠ 26) : (nameR k nm).cp = ⟨k, 0, dec nm, -1⟩ := by
  unfold nameR RIt.cp
  simp only [It.mk.injEq, true_and, and_true]
  exact if_neg hk
theorem nameR_ok {k : Int} {nm : List UInt8} (hk : k ≠ 26) (h : okDec nm = true) : ItOk (nameR k nm) := ⟨h, fun h26 => absurd h26 hk⟩
theorem d59 : dec [59] = [59] := dec_low (c := 59) (by omega)
def atR (nm : List UInt8) (l : List RN) : List RIt := nameR 1 nm :: (itemsR l ++ [signR 35 59])
theorem atR_cp (nm : List UInt8) (l : List RN) : (atR nm l).map RIt.cp = atIts (dec nm) (items (l.map RN.cp)) := by
  unfold atR atIts
  rw [List.map_cons, List.map_append, itemsR_cp, nameR_cp (by decide), List.map_cons, List.map_nil, signR_cp (by decide) d59]
theorem atR_ok {ascii : Bool} {nm : List UInt8} {l : List RN} (h : GoodTree ascii l) (hn : okDec nm = true) : ∀ x ∈ atR nm l, ItOk x := by
  intro x hx
  simp only [atR, List.mem_cons, List.mem_append, List.not_mem_nil, or_false] at hx
  rcases hx with rfl | hx | rfl
  · exact nameR_ok (by decide) hn
  · exact itemsR_ok h.node h.low x hx
  · exact signR_ok (by decide) d59 (by decide)
theorem dec_nil_iff {l : List UInt8} (h : isNameB l = true) : dec l ≠ [] ∧ okDec l = true := by
  unfold isNameB at h
  simp only [Bool.and_eq_true, Bool.not_eq_true', List.isEmpty_eq_false_iff] at h
  refine ⟨fun h0 => ?_, h.2⟩
  have := (okDec_val h.2).1
  rw [h0] at this
  exact h.1 this.symm
theorem at_final {ascii mini all : Bool} {l : List RN} (h : GoodTree ascii l) {nm : List UInt8} (hn : isNameB nm = true) (hl : lowB nm ascii = true) {ts : List T} {cl : List Ch}
    (hp : Parse 0 ((setR all l).map RN.cp) ts []) (hpr : Prints ascii ts (headBefore ts) cl) :
    ReadAs true (flat (atCh ascii mini (dec nm) ts cl)) ((atR nm (setR all l)).map RIt.cp) ∧ PlainTxt ascii (flat (atCh ascii mini (dec nm) ts cl)) ∧ ∀ x ∈ atR nm (setR all l), ItOk x := by
  have hok := set_okl h hp
  have hs := h.set all
  obtain ⟨h1, h2⟩ := dec_nil_iff hn
  have hg := low_good h2 hl
  refine ⟨?_, at_plain hg hpr hok, atR_ok hs h2⟩
  rw [atR_cp, parse_items hp hs.tree hs.unit]
  exact chain_readAs true (at_chain h1 hg hpr hok) rfl (at_fits hpr hok)
def nameLikeK (k : Int) : Prop := k = 29 ∨ k = 27 ∨ k = 1 ∨ k = 28 ∨ k = 36
end Css
end Go.Proofs.YtkfdcbdlcipmfaaGreatFmt
namespace Go.Proofs.YtkfdcbdlcipmfaaGreatFmt
namespace Css
theorem escOut_len {E : Nat} {c : Int} {t : List Int} {may : Bool} (hv : Valid c) : (enc (escOut E c t may)).length ≤ 16 := by
  have hl : (hexs c).length ≤ 6 := hexsN_len 5 c.toNat (by unfold Valid at hv; omega)
  have he : (enc (hexs c)).length = (hexs c).length := enc_ascii_len fun d hd => by
    have := hexsN_hex c.toNat d hd; unfold isHex at this; omega
  have hw := wd_pos c
  unfold escOut
  split
  · rw [enc_length_cons]; simp [enc]; omega
  · split
    · rw [enc_length_cons, enc_length_cons]; have := wd_pos 92; simp [enc]; omega
    · rw [enc_length_cons, enc_append, List.length_append, he]
      have := wd_pos 92
      split
      · rw [enc_length_cons]; have := wd_pos 32; simp [enc]; omega
      · simp [enc]; omega
theorem identTail_len {asc may : Bool} {cs : List Int} (hv : ∀ c ∈ cs, Valid c) : (enc (identTail asc may cs)).length ≤ 16 * cs.length := by
  induction cs with
  | nil => simp [identTail, enc]
  | cons c t ih =>
    have h1 := ih fun d hd => hv d (by simp [hd])
    simp only [identTail, enc_append, List.length_append, List.length_cons]
    have := escOut_len (E := charEsc asc 0 c) (t := t) (may := may) (hv c (by simp))
    omega
theorem ident_len {asc may : Bool} {m : Nat} {cs : List Int} (hv : ∀ c ∈ cs, Valid c) : (enc (ident asc may m cs)).length ≤ 16 * cs.length := by
  unfold ident
  cases cs with
  | nil => simp [identOut, enc]
  | cons c t =>
    simp only [identOut, enc_append, List.length_append, List.length_cons]
    have h1 := identTail_len (asc := asc) (may := may) fun d hd => hv d (List.mem_cons_of_mem c hd)
    have := escOut_len (E := charEsc asc (initEsc m (c :: t)) c) (t := t) (may := may) (hv c (by simp))
    omega
theorem enc_len_le (cs : List Int) : (enc cs).length ≤ 4 * cs.length := by
  induction cs with
  | nil => simp [enc]
  | cons c t ih => rw [enc_length_cons, List.length_cons]; have := wd_pos c; omega
theorem len_le_enc (cs : List Int) : cs.length ≤ (enc cs).length := by
  induction cs with
  | nil => simp
  | cons c t ih => rw [enc_length_cons, List.length_cons]; have := wd_pos c; omega
def cost : List T → Nat
  | [] => 0
  | .mk k u x b a kids :: ts => 16 * x.length + 8192 + cost kids + cost ts
theorem cost_cons (t : T) (ts : List T) : cost (t :: ts) = 16 * t.text.length + 8192 + cost t.kids + cost ts := by
  obtain ⟨k, u, x, b, a, kids⟩ := t
  rw [cost]; rfl
def costN (l : List N) : Nat := (l.map fun n => 16 * n.text.length + 8192).sum
theorem parse_cost {d : Int} {l : List N} {ts : List T} {rest : List N} (h : Parse d l ts rest) : cost ts + costN rest ≤ costN l := by
  induction h with
  | nil => simp [cost, costN]
  | stop => simp [cost]
  | leaf d n r ts rest hd ho hp ih =>
    rw [cost_cons]
    simp only [T.text, T.kids, cost]
    unfold costN at ih ⊢
    simp only [List.map_cons, List.sum_cons]
    omega
  | node d n r kids r1 ts rest hd ho hp1 hp2 ih1 ih2 =>
    rw [cost_cons]
    simp only [T.text, T.kids]
    unfold costN at ih1 ih2 ⊢
    simp only [List.map_cons, List.sum_cons]
    omega
end Css
end Go.Proofs.YtkfdcbdlcipmfaaGreatFmt
