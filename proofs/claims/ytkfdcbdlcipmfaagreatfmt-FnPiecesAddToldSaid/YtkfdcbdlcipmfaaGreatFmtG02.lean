/- PLAIN: numbers, percentages, dimensions and signs that are a token by themselves are read as the same token, whatever stands behind them, as long as that may stand there. No program in sight. -/
import Derived.Test.YtkfdcbdlcipmfaaGreatFmtG01
set_option linter.unusedVariables false
set_option linter.unusedSimpArgs false
namespace Go.Proofs.YtkfdcbdlcipmfaaGreatFmt
namespace Css
theorem pk_app {a : List Int} {k : Nat} (r : List Int) (h : pk a k ≠ -1) : pk (a ++ r) k = pk a k := by
  by_cases hk : k < a.length
  · exact pk_append_left hk
  · exfalso; apply h; unfold pk; simp [List.getD_eq_getElem?_getD, List.getElem?_eq_none (Nat.le_of_not_lt hk)]
theorem nil_of_pk {a : List Int} (hm : ∀ c ∈ a, c ≠ -1) (h : pk a 0 = -1) : a = [] := by
  cases a with
  | nil => rfl
  | cons c t => exact absurd (by simpa using h) (hm c (by simp))
theorem digits_sub (a : List Int) : ∀ c ∈ digits a, c ∈ a := by
  induction a with
  | nil => simp [digits]
  | cons d t ih => intro c hc; unfold digits at hc; split at hc <;> simp_all
theorem digits_all {a : List Int} (h : digits a = []) : ∀ c ∈ a, isDg c := by
  induction a with
  | nil => simp
  | cons d t ih =>
    unfold digits at h
    split at h
    · intro c hc; simp at hc; rcases hc with rfl | hc; assumption; exact ih h c hc
    · simp at h
theorem digits_app (a r : List Int) : digits (a ++ r) = if digits a = [] then digits r else digits a ++ r := by
  induction a with
  | nil => simp [digits]
  | cons d t ih =>
    rw [List.cons_append]
    by_cases hd : isDg d
    · have e1 : digits (d :: (t ++ r)) = digits (t ++ r) := by rw [digits, if_pos hd]
      have e2 : digits (d :: t) = digits t := by rw [digits, if_pos hd]
      rw [e1, e2]; exact ih
    · have e1 : digits (d :: (t ++ r)) = d :: (t ++ r) := by rw [digits, if_neg hd]
      have e2 : digits (d :: t) = d :: t := by rw [digits, if_neg hd]
      rw [e1, e2]; simp
theorem digits_stop {r : List Int} (h : ¬ isDg (pk r 0)) : digits r = r := by
  cases r with
  | nil => rfl
  | cons c t => unfold digits; rw [if_neg (by simpa using h)]
def power (r : List Int) : Prop := (pk r 0 = 101 ∨ pk r 0 = 69) ∧ (isDg (pk r 1) ∨ ((pk r 1 = 43 ∨ pk r 1 = 45) ∧ isDg (pk r 2)))
theorem numExp_stop {r : List Int} (h : ¬ power r) : numExp r = r := by unfold numExp; exact if_neg h
theorem numExp_go {r : List Int} (h : power r) : numExp r = digits r.tail.tail := by unfold numExp; exact if_pos h
theorem numDot_stop {r : List Int} (h : pk r 0 ≠ 46) : numDot r = r := by unfold numDot; rw [if_neg (by omega)]
theorem isDg_ne {c : Int} (h : isDg c) : c ≠ -1 := by unfold isDg at h; omega
theorem power_app {a : List Int} (r : List Int) (h : power a) : power (a ++ r) := by
  obtain ⟨h1, h2⟩ := h
  unfold power
  rw [pk_app r (by omega : pk a 0 ≠ -1)]
  refine ⟨h1, ?_⟩
  rcases h2 with h2 | ⟨h2, h3⟩
  · rw [pk_app r (isDg_ne h2)]; exact .inl h2
  · rw [pk_app r (by omega : pk a 1 ≠ -1), pk_app r (isDg_ne h3)]; exact .inr ⟨h2, h3⟩
theorem tail_app {a : List Int} (r : List Int) (h : pk a 0 ≠ -1) : (a ++ r).tail = a.tail ++ r := by
  cases a with
  | nil => simp at h
  | cons c t => rfl
theorem pk_tail (a : List Int) (k : Nat) : pk a.tail k = pk a (k + 1) := by cases a <;> simp
theorem numExp_digits {d2 : List Int} (h : numExp d2 = []) (hne : d2 ≠ []) : power d2 ∧ digits d2.tail.tail = [] := by
  unfold numExp at h
  split at h
  · rename_i hp; exact ⟨hp, h⟩
  · exact absurd h hne
theorem numExp_power_app {d2 r : List Int} (hp : power d2) (hd : digits d2.tail.tail = []) (hr : ¬ isDg (pk r 0)) : numExp (d2 ++ r) = r := by
  have hp2 := power_app r hp
  rw [numExp_go hp2]
  have h0 : pk d2 0 ≠ -1 := by have hx : pk d2 0 = 101 ∨ pk d2 0 = 69 := hp.1; omega
  have h1 : pk d2.tail 0 ≠ -1 := by
    rw [pk_tail]
    show pk d2 1 ≠ -1
    rcases hp.2 with h | ⟨h, _⟩
    · exact isDg_ne h
    · omega
  rw [tail_app r h0, tail_app r h1, digits_app, if_pos hd, digits_stop hr]
theorem numDot_cases (d1 : List Int) (ho : numOpen d1 = false) : (pk d1 0 = 46 ∧ isDg (pk d1 1) ∧ numDot d1 = digits d1.tail) ∨ (pk d1 0 ≠ 46 ∧ numDot d1 = d1) := by
  unfold numOpen at ho
  simp only [decide_eq_false_iff_not] at ho
  unfold numDot
  by_cases h : pk d1 0 = 46 ∧ isDg (pk d1 1)
  · left; rw [if_pos h]; exact ⟨h.1, h.2, rfl⟩
  · right; rw [if_neg h]; refine ⟨fun hx => ?_, rfl⟩
    by_cases hy : isDg (pk d1 1)
    · exact h ⟨hx, hy⟩
    · exact ho ⟨hx, hy⟩
theorem numEnd_app {cs : List Int} (hne : cs ≠ []) (h : numEnd cs = (false, [])) (hm : ∀ c ∈ cs, c ≠ -1) :
    ((∀ c ∈ cs, c ≠ 101 ∧ c ≠ 69) ∧ ∀ r, ¬ isDg (pk r 0) → pk r 0 ≠ 46 → ¬ power r → numEnd (cs ++ r) = (false, r))
    ∨ ((101 ∈ cs ∨ 69 ∈ cs) ∧ ∀ r, ¬ isDg (pk r 0) → numEnd (cs ++ r) = (false, r)) := by
  unfold numEnd at h
  simp only [Prod.mk.injEq] at h
  obtain ⟨ho, he⟩ := h
  have h0 : pk cs 0 ≠ -1 := fun hx => hne (nil_of_pk hm hx)
  have hs : ∀ r, numSign (cs ++ r) = numSign cs ++ r := by
    intro r; unfold numSign; rw [pk_app r h0]
    split
    · exact tail_app r h0
    · rfl
  have hsub : ∀ c ∈ numSign cs, c ∈ cs := by
    intro c hc; unfold numSign at hc; split at hc
    · exact List.mem_of_mem_tail hc
    · exact hc
  have hback : (∀ c ∈ numSign cs, c ≠ 101 ∧ c ≠ 69) → ∀ c ∈ cs, c ≠ 101 ∧ c ≠ 69 := by
    intro hb
    unfold numSign at hb
    split at hb
    · rename_i hx
      cases cs with
      | nil => simp
      | cons d t =>
        intro c hc; simp at hc
        rcases hc with rfl | hc
        · simp at hx; omega
        · exact hb c (by simpa using hc)
    · exact hb
  by_cases hd1 : digits (numSign cs) = []
  · left
    refine ⟨hback fun c hc => ?_, ?_⟩
    · have := digits_all hd1 c hc; unfold isDg at this; omega
    · intro r h1 h2 h3
      unfold numEnd
      rw [hs, digits_app, if_pos hd1, digits_stop h1, numDot_stop h2, numExp_stop h3]
      simp [numOpen, h2]
  · have hd1m : ∀ c ∈ digits (numSign cs), c ≠ -1 := fun c hc => hm c (hsub c (digits_sub _ c hc))
    have hp0 : pk (digits (numSign cs)) 0 ≠ -1 := fun hx => hd1 (nil_of_pk hd1m hx)
    have hopen : ∀ r, numOpen (digits (numSign cs) ++ r) = false := by
      intro r
      unfold numOpen at ho ⊢
      simp only [decide_eq_false_iff_not] at ho ⊢
      rw [pk_app r hp0]
      intro hx
      apply ho
      refine ⟨hx.1, fun hy => hx.2 ?_⟩
      rw [pk_app r (isDg_ne hy)]; exact hy
    rcases numDot_cases _ ho with ⟨hp, hp2, hdot⟩ | ⟨hp, hdot⟩
    · rw [hdot] at he
      have hda : ∀ r, numDot (digits (numSign cs) ++ r) = if digits (digits (numSign cs)).tail = [] then digits r else digits (digits (numSign cs)).tail ++ r := by
        intro r
        unfold numDot
        rw [pk_app r hp0, pk_app r (isDg_ne hp2), if_pos ⟨hp, hp2⟩, tail_app r hp0, digits_app]
      by_cases hd2 : digits (digits (numSign cs)).tail = []
      · left
        refine ⟨hback fun c hc => ?_, ?_⟩
        · -- the digits ahead of the point, the point, the digits behind it
          have key : ∀ a : List Int, (∀ c ∈ a, c ≠ -1) → pk (digits a) 0 = 46 → digits (digits a).tail = [] → ∀ c ∈ a, c ≠ 101 ∧ c ≠ 69 := by
            intro a
            induction a with
            | nil => simp
            | cons d t ih =>
              intro hma h1 h2 c hc
              by_cases hdd : isDg d
              · have e : digits (d :: t) = digits t := by rw [digits, if_pos hdd]
                rw [e] at h1 h2
                simp at hc
                rcases hc with rfl | hc
                · unfold isDg at hdd; omega
                · exact ih (fun x hx => hma x (by simp [hx])) h1 h2 c hc
              · have e : digits (d :: t) = d :: t := by rw [digits, if_neg hdd]
                rw [e] at h1 h2
                simp at h1 h2 hc
                rcases hc with rfl | hc
                · omega
                · have := digits_all h2 c hc; unfold isDg at this; omega
          exact key _ (fun c hc => hm c (hsub c hc)) hp hd2 c hc
        · intro r h1 h2 h3
          unfold numEnd
          rw [hs, digits_app, if_neg hd1, hopen, hda, if_pos hd2, digits_stop h1, numExp_stop h3]
      · right
        obtain ⟨hpow, hdd⟩ := numExp_digits he hd2
        refine ⟨?_, ?_⟩
        · have hin : pk (digits (digits (numSign cs)).tail) 0 ∈ cs := by
            apply hsub; apply digits_sub; apply List.mem_of_mem_tail; apply digits_sub
            exact pk_mem (List.length_pos_iff.2 hd2)
          rcases hpow.1 with hx | hx
          · left; rw [← hx]; exact hin
          · right; rw [← hx]; exact hin
        · intro r h1
          unfold numEnd
          rw [hs, digits_app, if_neg hd1, hopen, hda, if_neg hd2, numExp_power_app hpow hdd h1]
    · rw [hdot] at he
      right
      obtain ⟨hpow, hdd⟩ := numExp_digits he hd1
      refine ⟨?_, ?_⟩
      · have hin : pk (digits (numSign cs)) 0 ∈ cs := by
          apply hsub; apply digits_sub
          exact pk_mem (List.length_pos_iff.2 hd1)
        rcases hpow.1 with hx | hx
        · left; rw [← hx]; exact hin
        · right; rw [← hx]; exact hin
      · intro r h1
        have hda : numDot (digits (numSign cs) ++ r) = digits (numSign cs) ++ r := numDot_stop (by rw [pk_app r hp0]; exact hp)
        unfold numEnd
        rw [hs, digits_app, if_neg hd1, hopen, hda, numExp_power_app hpow hdd h1]
theorem numEnd_pct {cs : List Int} (h : numEnd cs = (false, [37])) (hm : ∀ c ∈ cs, c ≠ -1) (r : List Int) : numEnd (cs ++ r) = (false, 37 :: r) := by
  unfold numEnd at h
  simp only [Prod.mk.injEq] at h
  obtain ⟨ho, he⟩ := h
  have hne : cs ≠ [] := by rintro rfl; simp [numSign, digits, numDot, numExp, isDg] at he
  have h0 : pk cs 0 ≠ -1 := fun hx => hne (nil_of_pk hm hx)
  have hs : numSign (cs ++ r) = numSign cs ++ r := by
    unfold numSign; rw [pk_app r h0]
    split
    · exact tail_app r h0
    · rfl
  have hsub : ∀ c ∈ numSign cs, c ∈ cs := by
    intro c hc; unfold numSign at hc; split at hc
    · exact List.mem_of_mem_tail hc
    · exact hc
  have hx : ∀ d2 : List Int, numExp d2 = [37] → d2 ≠ [] ∧ numExp (d2 ++ r) = 37 :: r := by
    intro d2 h2
    unfold numExp at h2
    split at h2
    · rename_i hp
      have hp2 := power_app r hp
      refine ⟨by rintro rfl; simp at hp, ?_⟩
      rw [numExp_go hp2]
      have h0 : pk d2 0 ≠ -1 := by have hx : pk d2 0 = 101 ∨ pk d2 0 = 69 := hp.1; omega
      have h1 : pk d2.tail 0 ≠ -1 := by
        rw [pk_tail]
        show pk d2 1 ≠ -1
        rcases hp.2 with h | ⟨h, _⟩
        · exact isDg_ne h
        · omega
      rw [tail_app r h0, tail_app r h1, digits_app, if_neg (by rw [h2]; simp), h2]
      rfl
    · subst h2
      refine ⟨by simp, ?_⟩
      rw [numExp_stop (by unfold power; simp)]
      rfl
  by_cases hd1 : digits (numSign cs) = []
  · rw [hd1] at he; simp [numDot, numExp, isDg] at he
  · have hd1m : ∀ c ∈ digits (numSign cs), c ≠ -1 := fun c hc => hm c (hsub c (digits_sub _ c hc))
    have hp0 : pk (digits (numSign cs)) 0 ≠ -1 := fun hx => hd1 (nil_of_pk hd1m hx)
    have hopen : numOpen (digits (numSign cs) ++ r) = false := by
      unfold numOpen at ho ⊢
      simp only [decide_eq_false_iff_not] at ho ⊢
      rw [pk_app r hp0]
      intro hx
      apply ho
      refine ⟨hx.1, fun hy => hx.2 ?_⟩
      rw [pk_app r (isDg_ne hy)]; exact hy
    unfold numEnd
    rw [hs, digits_app, if_neg hd1, hopen]
    rcases numDot_cases _ ho with ⟨hp, hp2, hdot⟩ | ⟨hp, hdot⟩
    · rw [hdot] at he
      obtain ⟨h2, h3⟩ := hx _ he
      have hda : numDot (digits (numSign cs) ++ r) = digits (digits (numSign cs)).tail ++ r := by
        unfold numDot
        rw [pk_app r hp0, pk_app r (isDg_ne hp2), if_pos ⟨hp, hp2⟩, tail_app r hp0, digits_app, if_neg h2]
      rw [hda, h3]
    · rw [hdot] at he
      obtain ⟨h2, h3⟩ := hx _ he
      rw [numDot_stop (by rw [pk_app r hp0]; exact hp), h3]
theorem counts_app {cs : List Int} (r : List Int) (h : counts (pk cs 0) (pk cs 1) (pk cs 2)) : counts (pk (cs ++ r) 0) (pk (cs ++ r) 1) (pk (cs ++ r) 2) := by
  have hn : ∀ i j, num2 (pk cs i) (pk cs j) → num2 (pk (cs ++ r) i) (pk (cs ++ r) j) := by
    intro i j h
    rcases h with h | ⟨h, h2⟩
    · left; rw [pk_app r (isDg_ne h)]; exact h
    · right; rw [pk_app r (by omega : pk cs i ≠ -1), pk_app r (isDg_ne h2)]; exact ⟨h, h2⟩
  rcases h with ⟨h, h2⟩ | ⟨h, h2⟩
  · left; rw [pk_app r (by omega : pk cs 0 ≠ -1)]; exact ⟨h, hn 1 2 h2⟩
  · right
    have h0 := isDg_of_num2 h2
    refine ⟨?_, hn 0 1 h2⟩
    rw [pk_app r h0]; exact h
theorem counts_first {a b c : Int} (h : counts a b c) : isDg a ∨ a = 43 ∨ a = 45 ∨ a = 46 := by
  unfold counts num2 isDg at h; unfold isDg; omega
structure Lone (cs : List Int) (t : Tk) : Prop where
  com : ¬ (pk cs 0 = 47 ∧ pk cs 1 = 42)
  ne : pk cs 0 ≠ -1
  next : next cs = (t, false, [])
theorem comments_zero {ds : List Int} (h : (comments ds).1 = 0) : ¬ (pk ds 0 = 47 ∧ pk ds 1 = 42) := by
  intro hx
  unfold comments at h
  rw [dif_pos hx] at h
  split at h <;> simp at h
theorem lone_of_tokens {cs : List Int} {x : Tk × List Int × List Int} (hm : ∀ c ∈ cs, c ≠ -1) (hsuf : ∀ c ∈ (Css.next cs).2.2, c ∈ cs) (h : tokens cs = ([x], 0, false)) : Lone cs x.1 := by
  rw [tokens] at h
  split at h
  · simp at h
  · rename_i hne
    simp only [Prod.mk.injEq, List.cons.injEq] at h
    obtain ⟨⟨h1, h2⟩, h3, h4⟩ := h
    have hc : (comments cs).1 = 0 := by omega
    have hcom := comments_zero hc
    rw [comments_none hcom] at h1 h2 h3 h4 hne
    simp only [Bool.or_eq_false_iff] at h4
    have hr : (Css.next cs).2.2 = [] := by
      have ht : (comments (Css.next cs).2.2).1 = 0 := by
        rw [tokens] at h3; split at h3 <;> simp at h3 <;> omega
      have hcom2 := comments_zero ht
      rw [tokens] at h2
      split at h2
      · rename_i hp
        rw [comments_none hcom2] at hp
        exact nil_of_pk (fun c hc => hm c (hsuf c hc)) hp
      · simp at h2
    refine ⟨hcom, hne, ?_⟩
    rw [← h1]
    simp only
    rw [← hr, ← h4.1.2]
end Css
end Go.Proofs.YtkfdcbdlcipmfaaGreatFmt
namespace Go.Proofs.YtkfdcbdlcipmfaaGreatFmt
namespace Css
theorem quotedRun_kind (q : Int) (ds : List Int) : (quotedRun q ds).1 = 36 ∨ (quotedRun q ds).1 = 2 := by
  fun_induction quotedRun q ds with
  | case6 ds h h2 h3 h4 h5 h6 r ih => exact ih
  | case7 ds h h2 h3 h4 h5 h6 r ih => exact ih
  | _ => first | assumption | simp
theorem url_kind (ds : List Int) : (url ds).1 = 37 ∨ (url ds).1 = 3 := by
  fun_induction url ds with
  | case6 ds h h2 h3 h4 h5 r ih => exact ih
  | case7 ds h h2 h3 h4 h5 r ih => exact ih
  | _ => first | assumption | simp
theorem named_kind (ds : List Int) : (named ds).1.kind = 29 ∨ (named ds).1.kind = 27 ∨ (named ds).1.kind = 37 ∨ (named ds).1.kind = 3 := by
  unfold named; simp only []
  repeat' split
  · simp
  · have := url_kind (spaces (name ds).2.2.tail); simp only []; omega
  · simp
theorem numeric_kind (ds : List Int) : (numeric ds).1.kind = 26 ∨ (numeric ds).1.kind = 34 ∨ (numeric ds).1.kind = 30 := by
  unfold numeric; simp only []
  repeat' split
  all_goals simp
theorem ite_ok {P : Int → Prop} {c : Prop} [Decidable c] {a b : Int} (h1 : P a) (h2 : P b) : P (if c then a else b) := by split <;> assumption
structure NotSign (k : Int) : Prop where
  out : k ≠ 30 ∧ k ≠ 34 ∧ k ≠ 26 ∧ k ≠ 4 ∧ k ≠ 5 ∧ k ≠ 1 ∧ k ≠ 38 ∧ k ≠ 36 ∧ k ≠ 28 ∧ k ≠ 29 ∧ k ≠ 27
theorem signKind_ne (c : Int) : NotSign (signKind c) := by
  unfold signKind
  repeat (refine ite_ok ⟨by decide⟩ ?_)
  exact ⟨by decide⟩
inductive LoneIs (cs : List Int) (t : Tk) : Prop
  | num : counts (pk cs 0) (pk cs 1) (pk cs 2) → numEnd cs = (false, []) → t = ⟨30, 0, []⟩ → LoneIs cs t
  | pct : counts (pk cs 0) (pk cs 1) (pk cs 2) → numEnd cs = (false, [37]) → t = ⟨34, 0, []⟩ → LoneIs cs t
  | cdc : cs = [45, 45, 62] → t = ⟨4, 0, []⟩ → LoneIs cs t
  | cdo : cs = [60, 33, 45, 45] → t = ⟨5, 0, []⟩ → LoneIs cs t
  | sign (c : Int) : cs = [c] → t = ⟨signKind c, 0, []⟩ → c ≠ -1 → ¬ isSp c → c ≠ 34 → c ≠ 39 → ¬ isDg c → ¬ starts c → c ≠ 92 → LoneIs cs t
  | other : t.kind ≠ 30 → t.kind ≠ 34 → t.kind ≠ 4 → t.kind ≠ 5 → (t.kind = 26 ∨ t.kind = 38 ∨ t.kind = 36 ∨ t.kind = 2 ∨ t.kind = 28 ∨ t.kind = 29 ∨ t.kind = 27 ∨ t.kind = 37 ∨ t.kind = 3 ∨ t.kind = 1) → LoneIs cs t
theorem tail_nil {cs : List Int} (h0 : pk cs 0 ≠ -1) (h : cs.tail = []) : cs = [pk cs 0] := by
  cases cs with
  | nil => simp at h0
  | cons c t => simp at h; subst h; simp
theorem lone_is {cs : List Int} {t : Tk} (hm : ∀ c ∈ cs, c ≠ -1) (h : Lone cs t) : LoneIs cs t := by
  have hn := h.next
  have h0 := h.ne
  unfold next at hn
  rw [if_neg h0] at hn
  split at hn
  · rw [← (Prod.mk.inj hn).1]; exact .other (by simp) (by simp) (by simp) (by simp) (by simp)
  rename_i hsp
  split at hn
  · have hk := quotedRun_kind (pk cs 0) cs.tail
    rw [← (Prod.mk.inj hn).1]
    refine .other ?_ ?_ ?_ ?_ ?_ <;> simp only [] <;> omega
  rename_i hq
  split at hn
  · rw [← (Prod.mk.inj hn).1]; exact .other (by simp) (by simp) (by simp) (by simp) (by simp)
  split at hn
  · rename_i hc
    unfold numeric at hn
    simp only [] at hn
    split at hn
    · rw [← (Prod.mk.inj hn).1]; exact .other (by simp) (by simp) (by simp) (by simp) (by simp)
    · split at hn
      · rename_i hp
        simp only [Prod.mk.injEq] at hn
        refine .pct hc ?_ hn.1.symm
        have h2 : (numEnd cs).2 = [37] := by
          have := tail_nil (by rw [hp]; decide) hn.2.2
          rw [this, hp]
        rw [← h2, ← hn.2.1]
      · simp only [Prod.mk.injEq] at hn
        refine .num hc ?_ hn.1.symm
        rw [← hn.2.1, ← hn.2.2]
  rename_i hc
  split at hn
  · rename_i hx
    simp only [Prod.mk.injEq] at hn
    refine .cdc ?_ hn.1.symm
    match cs, hn.2.2, hx with
    | [a, b, c], _, hx => simp at hx; simp [hx]
    | [a, b], _, hx => simp at hx
    | [a], _, hx => simp at hx
    | [], _, hx => simp at hx
  split at hn
  · have hk := named_kind cs
    have ht : t = (named cs).1 := by rw [hn]
    rw [← ht] at hk
    exact .other (by omega) (by omega) (by omega) (by omega) (by omega)
  rename_i hi
  split at hn
  · rename_i hx
    simp only [Prod.mk.injEq] at hn
    refine .cdo ?_ hn.1.symm
    match cs, hn.2.2, hx with
    | [a, b, c, d], _, hx => simp at hx; simp [hx]
    | [a, b, c], _, hx => simp at hx
    | [a, b], _, hx => simp at hx
    | [a], _, hx => simp at hx
    | [], _, hx => simp at hx
  split at hn
  · rw [← (Prod.mk.inj hn).1]; exact .other (by simp) (by simp) (by simp) (by simp) (by simp)
  simp only [Prod.mk.injEq] at hn
  have he := tail_nil h0 hn.2.2
  refine .sign (pk cs 0) he hn.1.symm h0 hsp (fun hx => hq (.inl hx)) (fun hx => hq (.inr hx)) ?_ ?_ ?_
  · intro hd; apply hc; right
    unfold isDg at hd
    exact ⟨by omega, .inl hd⟩
  · intro hs; apply hi; right
    refine ⟨?_, .inl hs⟩
    unfold starts at hs; omega
  · intro hb; apply hi; right
    rw [hb]
    refine ⟨by decide, .inr ⟨rfl, ?_⟩⟩
    rw [he]; simp [isNl]
structure NumStop (r : List Int) : Prop where
  dg : ¬ isDg (pk r 0)
  dot : pk r 0 ≠ 46
  st : ¬ starts (pk r 0)
  hy : pk r 0 ≠ 45
  bs : pk r 0 ≠ 92
  pc : pk r 0 ≠ 37
theorem NumStop.power {r : List Int} (h : NumStop r) : ¬ power r := by
  intro hp
  have h1 : pk r 0 = 101 ∨ pk r 0 = 69 := hp.1
  apply h.st
  unfold starts; omega
theorem NumStop.ident {r : List Int} (h : NumStop r) : ¬ ident3 (pk r 0) (pk r 1) (pk r 2) := by
  intro hi
  rcases hi with ⟨hi, _⟩ | ⟨_, hi | hi⟩
  · exact h.hy hi
  · exact h.st hi
  · exact h.bs hi.1
theorem numeric_head {ds : List Int} (hc : counts (pk ds 0) (pk ds 1) (pk ds 2)) : ¬ (pk ds 0 = 47 ∧ pk ds 1 = 42) ∧ pk ds 0 ≠ -1 ∧ next ds = numeric ds := by
  have hf := counts_first hc
  have e : pk ds 0 ≠ 47 ∧ pk ds 0 ≠ -1 ∧ ¬ isSp (pk ds 0) ∧ ¬ (pk ds 0 = 34 ∨ pk ds 0 = 39) ∧ pk ds 0 ≠ 35 := by
    unfold isDg at hf; unfold isSp isNl; omega
  refine ⟨fun hx => e.1 hx.1, e.2.1, ?_⟩
  unfold next
  rw [if_neg e.2.1, if_neg e.2.2.1, if_neg e.2.2.2.1, if_neg (fun hx => e.2.2.2.2 hx.1), if_pos hc]
theorem step_num {cs : List Int} (hm : ∀ c ∈ cs, c ≠ -1) (hc : counts (pk cs 0) (pk cs 1) (pk cs 2)) (he : numEnd cs = (false, [])) (r : List Int) (hs : NumStop r) : Step ⟨30, 0, []⟩ cs r := by
  have hne : cs ≠ [] := by rintro rfl; simp [counts, num2, isDg] at hc
  obtain ⟨h1, h2, h3⟩ := numeric_head (counts_app r hc)
  refine ⟨h1, h2, ?_⟩
  rw [h3]
  have hx : numEnd (cs ++ r) = (false, r) := by
    rcases numEnd_app hne he hm with ⟨_, h⟩ | ⟨_, h⟩
    · exact h r hs.dg hs.dot hs.power
    · exact h r hs.dg
  unfold numeric
  simp only [hx]
  rw [if_neg hs.ident, if_neg hs.pc]
theorem step_pct {cs : List Int} (hm : ∀ c ∈ cs, c ≠ -1) (hc : counts (pk cs 0) (pk cs 1) (pk cs 2)) (he : numEnd cs = (false, [37])) (r : List Int) : Step ⟨34, 0, []⟩ cs r := by
  obtain ⟨h1, h2, h3⟩ := numeric_head (counts_app r hc)
  refine ⟨h1, h2, ?_⟩
  rw [h3]
  unfold numeric
  simp only [numEnd_pct he hm r, pk_cons_zero]
  rw [if_neg (by unfold ident3 starts esc; omega), if_pos trivial]
  rfl
def unitMode (cs : List Int) : Nat := if 101 ∈ cs ∨ 69 ∈ cs then 3 else 2
theorem step_dim (ascii may : Bool) {cs us : List Int} (hm : ∀ c ∈ cs, c ≠ -1) (hc : counts (pk cs 0) (pk cs 1) (pk cs 2)) (he : numEnd cs = (false, [])) (hg : Good ascii us) (hne : us ≠ []) (r : List Int) (hs : NameEnd may r) :
    Step ⟨26, cs.length, []⟩ (cs ++ ident ascii may (unitMode cs) us) r := by
  have hcs : cs ≠ [] := by rintro rfl; simp [counts, num2, isDg] at hc
  have e : cs ++ ident ascii may (unitMode cs) us ++ r = cs ++ (ident ascii may (unitMode cs) us ++ r) := by simp
  have hmode : unitMode cs ≠ 1 := by unfold unitMode; split <;> decide
  obtain ⟨i1, i2, i3, i4⟩ := ident_begins ascii may (unitMode cs) hmode us r hne hs
  obtain ⟨h1, h2, h3⟩ := numeric_head (counts_app (ident ascii may (unitMode cs) us ++ r) hc)
  have hdg : ¬ isDg (pk (ident ascii may (unitMode cs) us ++ r) 0) := by unfold starts at i4; unfold isDg; omega
  have hdot : pk (ident ascii may (unitMode cs) us ++ r) 0 ≠ 46 := by unfold starts at i4; omega
  have hx : numEnd (cs ++ (ident ascii may (unitMode cs) us ++ r)) = (false, ident ascii may (unitMode cs) us ++ r) := by
    rcases numEnd_app hcs he hm with ⟨h, h'⟩ | ⟨_, h⟩
    · have hmd : unitMode cs = 2 := by
        unfold unitMode
        rw [if_neg]
        rintro (hx | hx)
        · exact (h _ hx).1 rfl
        · exact (h _ hx).2 rfl
      refine h' _ hdg hdot ?_
      rw [hmd]
      exact unit_no_power ascii may us r hne hs
    · exact h _ hdg
  refine ⟨by rw [e]; exact h1, by rw [e]; exact h2, ?_⟩
  rw [e, h3]
  unfold numeric
  simp only [hx]
  rw [if_pos i1]
  simp only [name_ident ascii may _ us r hg hs.stop, Bool.or_false]
  simp
def SignEnd (c : Int) (r : List Int) : Prop :=
  (c = 35 ∨ c = 43 ∨ c = 45 ∨ c = 46 ∨ c = 60 ∨ c = 64 ∨ c = 47) → (¬ cont (pk r 0) ∧ pk r 0 ≠ 92 ∧ pk r 0 ≠ 46 ∧ pk r 0 ≠ 33 ∧ pk r 0 ≠ 42)
theorem step_sign (c : Int) (h1 : c ≠ -1) (h2 : ¬ isSp c) (h3 : c ≠ 34) (h4 : c ≠ 39) (h5 : ¬ isDg c) (h6 : ¬ starts c) (h7 : c ≠ 92) (r : List Int) (hs : SignEnd c r) : Step ⟨signKind c, 0, []⟩ [c] r := by
  refine ⟨?_, by simpa using h1, ?_⟩
  · simp only [List.cons_append, List.nil_append, pk_cons_zero, pk_cons_one]
    rintro ⟨hx, hy⟩
    exact (hs (by omega)).2.2.2.2 hy
  · simp only [List.cons_append, List.nil_append]
    unfold next
    simp only [pk_cons_zero, pk_cons_one, pk_cons_two, pk_cons_three, List.tail_cons]
    rw [if_neg h1, if_neg h2, if_neg (by omega), if_neg, if_neg, if_neg, if_neg, if_neg, if_neg]
    · rintro ⟨hx, hy⟩
      have := hs (by omega)
      rcases cont_of_ident3 hy with hy | hy
      · exact this.1 hy
      · exact this.2.1 hy.1
    · rintro ⟨hx, hy, _⟩; exact (hs (by omega)).2.2.2.1 hy
    · rintro (⟨hx, hy⟩ | ⟨hx, hy | hy⟩)
      · have := hs (by omega)
        have h45 : ¬ starts (pk r 0) ∧ pk r 0 ≠ 45 := ⟨fun hz => this.1 (.inl hz), fun hz => this.1 (.inr (.inr hz))⟩
        rcases hy with hy | hy | hy
        · exact h45.1 hy
        · exact h45.2 hy
        · exact this.2.1 hy.1
      · exact h6 hy
      · exact h7 hy.1
    · rintro ⟨hx, hy, _⟩; exact (hs (by omega)).1 (.inr (.inr hy))
    · rintro (⟨hx, hy⟩ | ⟨hx, hy⟩)
      · have := hs (by omega)
        rcases hy with hy | ⟨hy, _⟩
        · exact this.1 (.inr (.inl hy))
        · exact this.2.2.1 hy
      · rcases hy with hy | ⟨hy, hz⟩
        · exact h5 hy
        · exact (hs (by omega)).1 (.inr (.inl hz))
    · rintro ⟨hx, hy⟩
      have := hs (by omega)
      rcases hy with hy | hy
      · exact this.1 hy
      · exact this.2.1 hy.1
theorem step_cdc (r : List Int) : Step ⟨4, 0, []⟩ [45, 45, 62] r := by
  refine ⟨by simp, by simp, ?_⟩
  simp only [List.cons_append, List.nil_append]
  unfold next
  simp [isSp, isNl, counts, num2, isDg]
theorem step_cdo (r : List Int) : Step ⟨5, 0, []⟩ [60, 33, 45, 45] r := by
  refine ⟨by simp, by simp, ?_⟩
  simp only [List.cons_append, List.nil_append]
  unfold next
  simp [isSp, isNl, counts, num2, isDg, ident3, starts, esc]
end Css
end Go.Proofs.YtkfdcbdlcipmfaaGreatFmt
