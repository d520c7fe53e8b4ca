/- PLAIN: a name that is printed with escapes is read as this name. No program in sight. -/
import Derived.Test.YtkfdcbdlcipmfaaGreatFmtH00
set_option linter.unusedVariables false
set_option linter.unusedSimpArgs false
namespace Go.Proofs.YtkfdcbdlcipmfaaGreatFmt
namespace Css
def Valid (c : Int) : Prop := 1 ≤ c ∧ c ≤ 1114111 ∧ ¬ (55296 ≤ c ∧ c < 57344)
instance (c : Int) : Decidable (Valid c) := by unfold Valid; infer_instance
def hexDig (d : Int) : Int := if d < 10 then 48 + d else 87 + d
def hexsN (n : Nat) : List Int := if _h : n < 16 then [hexDig n] else hexsN (n / 16) ++ [hexDig (n % 16 : Nat)]
 termination_by n
 decreasing_by omega
def hexs (c : Int) : List Int := hexsN c.toNat
theorem hexDig_hex (d : Nat) (h : d < 16) : isHex (hexDig d) ∧ hexv (hexDig d) = d := by
  unfold hexDig isHex hexv
  repeat' split
  all_goals omega
theorem hexsN_hex (n : Nat) : ∀ d ∈ hexsN n, isHex d := by
  fun_induction hexsN n with
  | case1 n h => intro d hd; simp at hd; subst hd; exact (hexDig_hex n h).1
  | case2 n h ih =>
    intro d hd
    simp only [List.mem_append, List.mem_singleton] at hd
    rcases hd with hd | rfl
    · exact ih d hd
    · exact (hexDig_hex _ (Nat.mod_lt _ (by decide))).1
theorem hexsN_val (n : Nat) : (hexsN n).foldl (fun a d => a * 16 + hexv d) 0 = (n : Int) := by
  fun_induction hexsN n with
  | case1 n h => simp [(hexDig_hex n h).2]
  | case2 n h ih =>
    rw [List.foldl_append, ih]
    simp only [List.foldl_cons, List.foldl_nil]
    rw [(hexDig_hex _ (Nat.mod_lt _ (by decide))).2]
    omega
theorem hexsN_ne (n : Nat) : hexsN n ≠ [] := by
  unfold hexsN; split <;> simp
theorem hexsN_len (k : Nat) : ∀ n, n < 16 ^ (k + 1) → (hexsN n).length ≤ k + 1 := by
  induction k with
  | zero => intro n h; unfold hexsN; rw [dif_pos (by simpa using h)]; simp
  | succ k ih =>
    intro n h
    unfold hexsN
    split
    · simp
    · have := ih (n / 16) (by rw [Nat.pow_succ] at h; omega)
      simp; omega
theorem hexRun_append (hs : List Int) : ∀ (n : Nat) (v : Int) (r : List Int), (∀ d ∈ hs, isHex d) → hs.length ≤ n →
    hexRun n v (hs ++ r) = hexRun (n - hs.length) (hs.foldl (fun a d => a * 16 + hexv d) v) r := by
  induction hs with
  | nil => intro n v r _ _; simp
  | cons d hs ih =>
    intro n v r h hl
    obtain ⟨m, rfl⟩ : ∃ m, n = m + 1 := ⟨n - 1, by simp at hl; omega⟩
    have hd : 0 ≤ hexv d := hexv_hex.2 (h d (by simp))
    simp only [List.cons_append, hexRun, pk_cons_zero, List.tail_cons]
    rw [if_pos hd, ih m _ r (fun x hx => h x (by simp [hx])) (by simp at hl; omega)]
    simp only [List.foldl_cons, List.length_cons]
    congr 1; omega
theorem hexRun_stop (n : Nat) (v : Int) (r : List Int) (h : ¬ isHex (pk r 0)) : hexRun n v r = (v, r) := by
  cases n with
  | zero => rfl
  | succ n => unfold hexRun; rw [if_neg (by rw [hexv_hex]; exact h)]
theorem isSp_not_hex {c : Int} (h : isSp c) : ¬ isHex c := by unfold isSp isNl at h; unfold isHex; omega
theorem hexs_small {c : Int} (h1 : c < 1048576) : (hexs c).length ≤ 5 := hexsN_len 4 c.toNat (by omega)
theorem fixv_valid {c : Int} (h : Valid c) : fixv c = c := by unfold Valid at h; unfold fixv; rw [if_neg (by omega)]
theorem pk_append_left {a b : List Int} {k : Nat} (h : k < a.length) : pk (a ++ b) k = pk a k := by
  unfold pk; simp [List.getD_eq_getElem?_getD, List.getElem?_append_left h]
theorem pk_mem {a : List Int} {k : Nat} (h : k < a.length) : pk a k ∈ a := by
  unfold pk; simp [List.getD_eq_getElem?_getD, List.getElem?_eq_getElem h]
theorem hexs_first (c : Int) (r : List Int) : isHex (pk (hexs c ++ r) 0) := by
  have hne := hexsN_ne c.toNat
  have h0 : 0 < (hexs c).length := List.length_pos_iff.2 hne
  rw [pk_append_left h0]
  exact hexsN_hex _ _ (pk_mem h0)
theorem escape_hexs {c : Int} (hv : Valid c) (hc : c < 1048576) (sp : Bool) (r : List Int) (h : sp = true ∨ (¬ isHex (pk r 0) ∧ ¬ isSp (pk r 0))) :
    escape (hexs c ++ ((if sp then [32] else []) ++ r)) = (c, false, r) := by
  have hf := hexs_first c ((if sp then [32] else []) ++ r)
  have hl := hexs_small hc
  have hstop : ¬ isHex (pk ((if sp then [32] else []) ++ r) 0) := by
    cases sp with
    | true => simp [isHex]
    | false => simpa using (h.resolve_left (by simp)).1
  have hval : (hexs c).foldl (fun a d => a * 16 + hexv d) 0 = c := by
    unfold hexs; rw [hexsN_val]; unfold Valid at hv; omega
  have hrun : hexRun 6 0 (hexs c ++ ((if sp then [32] else []) ++ r)) = (c, (if sp then [32] else []) ++ r) := by
    rw [hexRun_append (hexs c) _ _ _ (hexsN_hex _) (by omega), hval, hexRun_stop _ _ _ hstop]
  unfold escape
  rw [if_neg (by rw [hexv_neg]; exact fun hn => hn hf), hrun]
  simp only []
  rw [fixv_valid hv]
  cases sp with
  | true =>
    simp only [if_true, List.cons_append, List.nil_append, pk_cons_zero, List.tail_cons]
    rw [if_neg (by unfold isNl; omega), if_pos (by unfold isSp; omega)]
  | false =>
    have h2 := (h.resolve_left (by simp)).2
    simp only [Bool.false_eq_true, if_false, List.nil_append]
    rw [if_neg (fun hn => h2 (.inl hn)), if_neg h2]
def wantSp (after : List Int) (may : Bool) : Bool :=
  match after with
  | [] => may
  | d :: _ => decide (d = 32 ∨ d = 9 ∨ isHex d)
def escOut (e : Nat) (c : Int) (after : List Int) (may : Bool) : List Int :=
  if e = 0 then [c]
  else if e = 1 ∧ ¬ isHex c then [92, c]
  else 92 :: (hexs c ++ (if decide ((hexs c).length < 6) && wantSp after may then [32] else []))
def charEsc (ascii : Bool) (init : Nat) (c : Int) : Nat :=
  if ascii = true ∧ 128 ≤ c then 2
  else if c = 13 ∨ c = 10 ∨ c = 12 ∨ c = 65279 then 2
  else if init ≠ 0 then init
  else if cont c then 0 else 1
def identTail (ascii may : Bool) : List Int → List Int
  | [] => []
  | c :: t => escOut (charEsc ascii 0 c) c t may ++ identTail ascii may t
def identOut (ascii may : Bool) (init : Nat) : List Int → List Int
  | [] => []
  | c :: t => escOut (charEsc ascii init c) c t may ++ identTail ascii may t
theorem identOut_zero (ascii may : Bool) (cs : List Int) : identOut ascii may 0 cs = identTail ascii may cs := by cases cs <;> rfl
structure NameStop (may : Bool) (r : List Int) : Prop where
  cont : ¬ cont (pk r 0)
  slash : pk r 0 ≠ 92
  sp : may = true ∨ ¬ isSp (pk r 0)
def Good (ascii : Bool) (cs : List Int) : Prop := ∀ c ∈ cs, Valid c ∧ (ascii = true → c < 1048576)
theorem name_stop {may : Bool} {r : List Int} (h : NameStop may r) : name r = ([], false, r) := by
  unfold name
  rw [dif_neg h.cont, dif_neg (fun hn => h.slash hn.1)]
theorem isHex_cont {c : Int} (h : isHex c) : cont c := by unfold isHex at h; unfold cont starts isDg; omega
theorem not_cont_slash : ¬ cont 92 := by unfold cont starts isDg; omega
theorem isSp_not_cont {c : Int} (h : isSp c) : ¬ cont c := by unfold isSp isNl at h; unfold cont starts isDg; omega
theorem escOut_first (ascii : Bool) (init : Nat) (c : Int) (t : List Int) (may : Bool) (r : List Int) :
    (pk (escOut (charEsc ascii init c) c t may ++ r) 0 = c ∧ cont c ∧ charEsc ascii init c = 0) ∨ pk (escOut (charEsc ascii init c) c t may ++ r) 0 = 92 := by
  unfold escOut
  by_cases h0 : charEsc ascii init c = 0
  · left
    rw [if_pos h0]
    refine ⟨by simp, ?_, h0⟩
    unfold charEsc at h0
    repeat' split at h0
    all_goals simp_all
  · right
    rw [if_neg h0]
    split <;> simp
theorem name_escOut (ascii : Bool) (init : Nat) (hi : init ≤ 2) (c : Int) (t r : List Int) (may : Bool) (hv : Valid c) (ha : ascii = true → c < 1048576) (hb : init = 2 → c < 128)
    (hn : c < 1048576 → ∀ sp, sp = (decide ((hexs c).length < 6) && wantSp t may) → sp = true ∨ (¬ isHex (pk r 0) ∧ ¬ isSp (pk r 0))) :
    name (escOut (charEsc ascii init c) c t may ++ r) = (c :: (name r).1, (name r).2.1, (name r).2.2) := by
  unfold escOut
  by_cases h0 : charEsc ascii init c = 0
  · rw [if_pos h0]
    have hc : cont c := by
      unfold charEsc at h0
      repeat' split at h0
      all_goals simp_all
    rw [List.cons_append, List.nil_append]
    rw [name, dif_pos (by simpa using hc)]
    simp
  · rw [if_neg h0]
    by_cases h1 : charEsc ascii init c = 1 ∧ ¬ isHex c
    · rw [if_pos h1]
      have hnl : ¬ isNl c := by
        have := h1.1
        unfold charEsc at this
        unfold isNl
        repeat' split at this
        all_goals (try (exfalso; omega))
        all_goals omega
      rw [List.cons_append, List.cons_append, List.nil_append]
      rw [name, dif_neg (by simpa using not_cont_slash), dif_pos (by simpa [esc] using hnl)]
      have he : escape (c :: r) = (c, false, r) := by
        unfold escape
        rw [if_pos (by rw [hexv_neg]; simpa using h1.2), if_neg (by unfold Valid at hv; simp; omega)]
        simp
      simp only [List.tail_cons, he, Bool.false_or]
    · rw [if_neg h1]
      have hsm : c < 1048576 := by
        by_cases hh : isHex c
        · unfold isHex at hh; omega
        · have h2 : charEsc ascii init c ≠ 1 := fun hx => h1 ⟨hx, hh⟩
          unfold charEsc at h0 h2
          by_cases ha2 : ascii = true ∧ 128 ≤ c
          · exact ha ha2.1
          · rw [if_neg ha2] at h0 h2
            by_cases hb2 : c = 13 ∨ c = 10 ∨ c = 12 ∨ c = 65279
            · omega
            · rw [if_neg hb2] at h0 h2
              by_cases hi0 : init ≠ 0
              · rw [if_pos hi0] at h0 h2
                have := hb (by omega); omega
              · rw [if_neg hi0] at h0 h2
                split at h0 <;> simp_all
      have hesc := escape_hexs hv hsm _ r (hn hsm _ rfl)
      have hf := hexs_first c ((if (decide ((hexs c).length < 6) && wantSp t may) = true then [32] else []) ++ r)
      rw [List.cons_append, List.append_assoc]
      rw [name, dif_neg (by simpa using not_cont_slash), dif_pos]
      · simp only [List.tail_cons, hesc, Bool.false_or]
      · refine ⟨by simp, ?_⟩
        rw [pk_cons_one]
        intro hx
        exact isSp_not_hex (.inl hx) hf
theorem tail_first (ascii may : Bool) (d : Int) (t r : List Int) (h : ¬ (d = 32 ∨ d = 9 ∨ isHex d)) :
    ¬ isHex (pk (identTail ascii may (d :: t) ++ r) 0) ∧ ¬ isSp (pk (identTail ascii may (d :: t) ++ r) 0) := by
  unfold identTail
  rw [List.append_assoc]
  rcases escOut_first ascii 0 d t may (identTail ascii may t ++ r) with ⟨h1, h2, _⟩ | h1
  · rw [h1]; exact ⟨fun hx => h (.inr (.inr hx)), fun hx => isSp_not_cont hx h2⟩
  · rw [h1]; unfold isHex isSp isNl; omega
theorem behind_ok (ascii may : Bool) (c : Int) (t r : List Int) (hs : NameStop may r) (hc : c < 1048576) :
    ∀ sp, sp = (decide ((hexs c).length < 6) && wantSp t may) → sp = true ∨ (¬ isHex (pk (identTail ascii may t ++ r) 0) ∧ ¬ isSp (pk (identTail ascii may t ++ r) 0)) := by
  intro sp hsp
  have hl : (hexs c).length < 6 := by have := hexs_small hc; omega
  cases t with
  | nil =>
    cases may with
    | true => left; simp [hsp, wantSp, hl]
    | false =>
      right
      have h2 := hs.sp.resolve_left (by simp)
      simp only [identTail, List.nil_append]
      exact ⟨fun hx => hs.cont (isHex_cont hx), h2⟩
  | cons d t =>
    by_cases hd : d = 32 ∨ d = 9 ∨ isHex d
    · left; simp [hsp, wantSp, hl]; simpa using hd
    · right; exact tail_first ascii may d t r hd
theorem name_identTail (ascii may : Bool) : ∀ (cs r : List Int), Good ascii cs → NameStop may r → name (identTail ascii may cs ++ r) = (cs, false, r) := by
  intro cs
  induction cs with
  | nil => intro r _ hs; exact name_stop hs
  | cons c t ih =>
    intro r hg hs
    have hc := hg c (by simp)
    have ht := ih r (fun x hx => hg x (by simp [hx])) hs
    unfold identTail
    rw [List.append_assoc, name_escOut ascii 0 (by decide) c t _ may hc.1 hc.2 (fun h => absurd h (by decide)) (fun h => behind_ok ascii may c t r hs h), ht]
theorem name_identOut (ascii may : Bool) (init : Nat) (hi : init ≤ 2) (cs r : List Int) (hg : Good ascii cs) (hb : init = 2 → pk cs 0 < 128) (hs : NameStop may r) :
    name (identOut ascii may init cs ++ r) = (cs, false, r) := by
  cases cs with
  | nil => exact name_stop hs
  | cons c t =>
    have hc := hg c (by simp)
    have ht := name_identTail ascii may t r (fun x hx => hg x (by simp [hx])) hs
    unfold identOut
    rw [List.append_assoc, name_escOut ascii init hi c t _ may hc.1 hc.2 (by simpa using hb) (fun h => behind_ok ascii may c t r hs h), ht]
def would (cs : List Int) : Prop := starts (pk cs 0) ∨ (pk cs 0 = 45 ∧ (starts (pk cs 1) ∨ pk cs 1 = 45))
instance (cs : List Int) : Decidable (would cs) := by unfold would; infer_instance
def initEsc (mode : Nat) (cs : List Int) : Nat :=
  if mode = 1 then 0
  else if ¬ would cs then 1
  else if mode = 0 then 0
  else if isDg (pk cs 0) then 2
  else if (pk cs 0 = 101 ∨ pk cs 0 = 69) ∧ mode = 2 ∧ (isDg (pk cs 1) ∨ (pk cs 1 = 45 ∧ isDg (pk cs 2))) then 2
  else 0
theorem initEsc_le (mode : Nat) (cs : List Int) : initEsc mode cs ≤ 2 := by
  unfold initEsc; repeat' split
  all_goals omega
theorem initEsc_low (mode : Nat) (cs : List Int) (h : initEsc mode cs = 2) : pk cs 0 < 128 := by
  unfold initEsc at h
  repeat' split at h
  all_goals first
    | omega
    | (rename_i hd _; unfold isDg at hd; omega)
    | (unfold isDg at *; omega)
def ident (ascii may : Bool) (mode : Nat) (cs : List Int) : List Int := identOut ascii may (initEsc mode cs) cs
theorem name_ident (ascii may : Bool) (mode : Nat) (cs r : List Int) (hg : Good ascii cs) (hs : NameStop may r) : name (ident ascii may mode cs ++ r) = (cs, false, r) :=
  name_identOut ascii may _ (initEsc_le mode cs) cs r hg (initEsc_low mode cs) hs
theorem escOut_first2 (ascii : Bool) (init : Nat) (c : Int) (t : List Int) (may : Bool) (r : List Int) :
    (escOut (charEsc ascii init c) c t may = [c] ∧ cont c ∧ charEsc ascii init c = 0) ∨ (charEsc ascii init c ≠ 0 ∧ pk (escOut (charEsc ascii init c) c t may ++ r) 0 = 92 ∧ ¬ isNl (pk (escOut (charEsc ascii init c) c t may ++ r) 1)) := by
  unfold escOut
  by_cases h0 : charEsc ascii init c = 0
  · left
    rw [if_pos h0]
    refine ⟨rfl, ?_, h0⟩
    unfold charEsc at h0
    repeat' split at h0
    all_goals simp_all
  · right
    rw [if_neg h0]
    refine ⟨h0, ?_⟩
    by_cases h1 : charEsc ascii init c = 1 ∧ ¬ isHex c
    · rw [if_pos h1]
      refine ⟨by simp, ?_⟩
      have := h1.1
      have hc : ¬ isNl c := by
        unfold charEsc at this
        unfold isNl
        repeat' split at this
        all_goals (try (exfalso; omega))
        all_goals omega
      simpa using hc
    · rw [if_neg h1]
      refine ⟨by simp, ?_⟩
      rw [List.cons_append, pk_cons_one, List.append_assoc]
      have hf := hexs_first c ((if (decide ((hexs c).length < 6) && wantSp t may) = true then [32] else []) ++ r)
      exact fun hx => isSp_not_hex (.inl hx) hf
theorem identTail_first (ascii may : Bool) (c : Int) (t r : List Int) :
    (pk (identTail ascii may (c :: t) ++ r) 0 = c ∧ cont c ∧ identTail ascii may (c :: t) = c :: identTail ascii may t) ∨ (pk (identTail ascii may (c :: t) ++ r) 0 = 92 ∧ ¬ isNl (pk (identTail ascii may (c :: t) ++ r) 1)) := by
  have he : identTail ascii may (c :: t) = escOut (charEsc ascii 0 c) c t may ++ identTail ascii may t := rfl
  rw [he, List.append_assoc]
  rcases escOut_first2 ascii 0 c t may (identTail ascii may t ++ r) with ⟨h1, h2, _⟩ | ⟨_, h1, h2⟩
  · left; rw [h1]; exact ⟨by simp, h2, by simp⟩
  · right; exact ⟨h1, h2⟩
theorem charEsc_one_ne (ascii : Bool) (init : Nat) (h : init ≠ 0) (c : Int) : charEsc ascii init c ≠ 0 := by
  unfold charEsc; repeat' split
  all_goals first | omega | contradiction
theorem identOut_esc (ascii may : Bool) (init : Nat) (h : init ≠ 0) (c : Int) (t r : List Int) :
    pk (identOut ascii may init (c :: t) ++ r) 0 = 92 ∧ ¬ isNl (pk (identOut ascii may init (c :: t) ++ r) 1) := by
  unfold identOut
  rw [List.append_assoc]
  rcases escOut_first2 ascii init c t may (identTail ascii may t ++ r) with ⟨_, _, h3⟩ | ⟨_, h1, h2⟩
  · exact absurd h3 (charEsc_one_ne ascii init h c)
  · exact ⟨h1, h2⟩
structure NameEnd (may : Bool) (r : List Int) : Prop extends NameStop may r where
  gt : pk r 0 ≠ 62
  plus : pk r 0 ≠ 43
theorem tail_head (ascii may : Bool) (t r : List Int) (_hs : NameEnd may r) :
    (t = [] ∧ pk (identTail ascii may t ++ r) 0 = pk r 0) ∨ (∃ d t', t = d :: t' ∧ ((pk (identTail ascii may t ++ r) 0 = d ∧ cont d ∧ identTail ascii may t = d :: identTail ascii may t') ∨ (pk (identTail ascii may t ++ r) 0 = 92 ∧ ¬ isNl (pk (identTail ascii may t ++ r) 1)))) := by
  cases t with
  | nil => left; exact ⟨rfl, rfl⟩
  | cons d t' => right; exact ⟨d, t', rfl, identTail_first ascii may d t' r⟩
theorem tail_no (ascii may : Bool) (t r : List Int) (hs : NameEnd may r) :
    pk (identTail ascii may t ++ r) 0 ≠ 62 ∧ pk (identTail ascii may t ++ r) 0 ≠ 43 ∧ pk (identTail ascii may t ++ r) 0 ≠ 46 ∨ t = [] := by
  rcases tail_head ascii may t r hs with ⟨h, _⟩ | ⟨d, t', rfl, ⟨h, hc, _⟩ | ⟨h, _⟩⟩
  · exact .inr h
  · left; rw [h]; unfold cont starts isDg at hc; omega
  · left; rw [h]; omega
theorem ident_begins (ascii may : Bool) (mode : Nat) (hm : mode ≠ 1) (cs r : List Int) (hne : cs ≠ []) (hs : NameEnd may r) :
    ident3 (pk (ident ascii may mode cs ++ r) 0) (pk (ident ascii may mode cs ++ r) 1) (pk (ident ascii may mode cs ++ r) 2)
    ∧ ¬ (pk (ident ascii may mode cs ++ r) 0 = 45 ∧ pk (ident ascii may mode cs ++ r) 1 = 45 ∧ pk (ident ascii may mode cs ++ r) 2 = 62)
    ∧ ¬ counts (pk (ident ascii may mode cs ++ r) 0) (pk (ident ascii may mode cs ++ r) 1) (pk (ident ascii may mode cs ++ r) 2)
    ∧ (starts (pk (ident ascii may mode cs ++ r) 0) ∨ pk (ident ascii may mode cs ++ r) 0 = 45 ∨ pk (ident ascii may mode cs ++ r) 0 = 92) := by
  obtain ⟨c, t, rfl⟩ := List.exists_cons_of_ne_nil hne
  unfold ident
  by_cases hi : initEsc mode (c :: t) = 0
  · rw [hi, identOut_zero]
    have hw : would (c :: t) := by
      unfold initEsc at hi
      rw [if_neg hm] at hi
      by_cases hw : would (c :: t)
      · exact hw
      · rw [if_pos hw] at hi; omega
    rcases identTail_first ascii may c t r with ⟨h1, h2, h3⟩ | ⟨h1, h2⟩
    · rcases hw with hw | ⟨hw, hw2⟩
      · rw [pk_cons_zero] at hw
        rw [h1]
        refine ⟨.inr ⟨?_, .inl hw⟩, ?_, ?_, .inl hw⟩
        · unfold starts at hw; omega
        · unfold starts at hw; omega
        · unfold starts at hw; unfold counts num2 isDg; omega
      · rw [pk_cons_zero] at hw
        rw [pk_cons_one] at hw2
        rw [h3]
        simp only [List.cons_append, pk_cons_zero, pk_cons_one, pk_cons_two]
        subst hw
        rcases tail_head ascii may t r hs with ⟨rfl, _⟩ | ⟨d, t', rfl, ⟨h4, h5, h6⟩ | ⟨h4, h5⟩⟩
        · simp [starts] at hw2
        · rw [pk_cons_zero] at hw2
          rw [h4]
          refine ⟨.inl ⟨rfl, ?_⟩, ?_, ?_, .inr (.inl rfl)⟩
          · rcases hw2 with hw2 | hw2
            · exact .inl hw2
            · exact .inr (.inl hw2)
          · rw [h6, List.cons_append, pk_cons_one]
            rcases tail_no ascii may t' r hs with h7 | rfl
            · omega
            · have := hs.gt; simp only [identTail, List.nil_append]; omega
          · unfold counts num2 isDg; unfold starts at hw2; omega
        · rw [h4]
          refine ⟨.inl ⟨rfl, .inr (.inr ⟨rfl, h5⟩)⟩, ?_, ?_, .inr (.inl rfl)⟩
          · omega
          · unfold counts num2 isDg; omega
    · rw [h1]
      refine ⟨.inr ⟨by decide, .inr ⟨rfl, h2⟩⟩, by omega, ?_, .inr (.inr rfl)⟩
      unfold counts num2 isDg; omega
  · obtain ⟨h1, h2⟩ := identOut_esc ascii may _ hi c t r
    rw [h1]
    refine ⟨.inr ⟨by decide, .inr ⟨rfl, h2⟩⟩, by omega, ?_, .inr (.inr rfl)⟩
    unfold counts num2 isDg; omega
theorem unit_no_power (ascii may : Bool) (cs r : List Int) (hne : cs ≠ []) (hs : NameEnd may r) :
    ¬ ((pk (ident ascii may 2 cs ++ r) 0 = 101 ∨ pk (ident ascii may 2 cs ++ r) 0 = 69) ∧ (isDg (pk (ident ascii may 2 cs ++ r) 1) ∨ ((pk (ident ascii may 2 cs ++ r) 1 = 43 ∨ pk (ident ascii may 2 cs ++ r) 1 = 45) ∧ isDg (pk (ident ascii may 2 cs ++ r) 2)))) := by
  obtain ⟨c, t, rfl⟩ := List.exists_cons_of_ne_nil hne
  unfold ident
  by_cases hi : initEsc 2 (c :: t) = 0
  · rw [hi, identOut_zero]
    rcases identTail_first ascii may c t r with ⟨h1, h2, h3⟩ | ⟨h1, h2⟩
    · rw [h3]
      simp only [List.cons_append, pk_cons_zero, pk_cons_one, pk_cons_two]
      rintro ⟨he, hx⟩
      have hno : ¬ (isDg (pk t 0) ∨ (pk t 0 = 45 ∧ isDg (pk t 1))) := by
        intro hb
        unfold initEsc at hi
        rw [if_neg (by decide)] at hi
        have hw : would (c :: t) := .inl (by rw [pk_cons_zero]; unfold starts; omega)
        rw [if_neg (fun hn => hn hw), if_neg (by decide), if_neg (by rw [pk_cons_zero]; unfold isDg; omega), if_pos] at hi
        · omega
        · simp only [pk_cons_zero, pk_cons_one, pk_cons_two]; exact ⟨he, trivial, hb⟩
      rcases tail_head ascii may t r hs with ⟨rfl, _⟩ | ⟨d, t', rfl, ⟨h4, h5, h6⟩ | ⟨h4, h5⟩⟩
      · simp only [identTail, List.nil_append] at hx
        have h7 := hs.cont; have h8 := hs.plus
        unfold cont at h7
        rcases hx with hx | ⟨hx, _⟩
        · exact h7 (.inr (.inl hx))
        · rcases hx with hx | hx
          · exact h8 hx
          · exact h7 (.inr (.inr hx))
      · rw [h4, h6] at hx
        simp only [List.cons_append, pk_cons_one] at hx
        simp only [pk_cons_zero, pk_cons_one] at hno
        rcases hx with hx | ⟨hx, hx2⟩
        · exact hno (.inl hx)
        · rcases hx with hx | hx
          · subst hx; exact absurd h5 (by unfold cont starts isDg; omega)
          · apply hno; right; refine ⟨hx, ?_⟩
            rcases tail_head ascii may t' r hs with ⟨rfl, _⟩ | ⟨d2, t2, rfl, ⟨h7, h8, h9⟩ | ⟨h7, _⟩⟩
            · simp only [identTail, List.nil_append] at hx2
              exact absurd (.inr (.inl hx2)) hs.cont
            · rw [h7] at hx2; rw [pk_cons_zero]; exact hx2
            · rw [h7] at hx2; unfold isDg at hx2; omega
      · rw [h4] at hx; unfold isDg at hx; omega
    · rw [h1]; omega
  · obtain ⟨h1, h2⟩ := identOut_esc ascii may _ hi c t r
    rw [h1]; omega
theorem hash_begins (ascii may : Bool) (cs r : List Int) (hne : cs ≠ []) :
    cont (pk (ident ascii may 1 cs ++ r) 0) ∨ esc (pk (ident ascii may 1 cs ++ r) 0) (pk (ident ascii may 1 cs ++ r) 1) := by
  obtain ⟨c, t, rfl⟩ := List.exists_cons_of_ne_nil hne
  unfold ident
  have hi : initEsc 1 (c :: t) = 0 := rfl
  rw [hi, identOut_zero]
  rcases identTail_first ascii may c t r with ⟨h1, h2, h3⟩ | ⟨h1, h2⟩
  · left; rw [h1]; exact h2
  · right; exact ⟨h1, h2⟩
end Css
end Go.Proofs.YtkfdcbdlcipmfaaGreatFmt
namespace Go.Proofs.YtkfdcbdlcipmfaaGreatFmt
namespace Css
theorem comments_none {ds : List Int} (h : ¬ (pk ds 0 = 47 ∧ pk ds 1 = 42)) : comments ds = (0, false, ds) := by
  unfold comments; rw [dif_neg h]
structure Step (t : Tk) (out r : List Int) : Prop where
  com : ¬ (pk (out ++ r) 0 = 47 ∧ pk (out ++ r) 1 = 42)
  ne : pk (out ++ r) 0 ≠ -1
  next : next (out ++ r) = (t, false, r)
theorem Step.tokens {t : Tk} {out r : List Int} (h : Step t out r) :
    tokens (out ++ r) = ((t, out ++ r, r) :: (tokens r).1, (tokens r).2.1, (tokens r).2.2) := by
  rw [Css.tokens]
  simp only [comments_none h.com]
  rw [dif_neg h.ne]
  simp only [h.next, Bool.false_or, Nat.zero_add]
theorem NameEnd.stop {may : Bool} {r : List Int} (h : NameEnd may r) : NameStop may r := h.toNameStop
theorem quotes_not_name {a : Int} (h : starts a ∨ a = 45 ∨ a = 92) : ¬ (a = 47 ∧ True) ∧ a ≠ -1 ∧ ¬ isSp a ∧ ¬ (a = 34 ∨ a = 39) ∧ a ≠ 35 ∧ a ≠ 47 := by
  unfold starts at h; unfold isSp isNl; omega
theorem step_ident (ascii may : Bool) (cs r : List Int) (hg : Good ascii cs) (hne : cs ≠ []) (hs : NameEnd may r) (hp : pk r 0 ≠ 40) :
    Step ⟨29, 0, cs⟩ (ident ascii may 0 cs) r := by
  obtain ⟨h1, h2, h3, h4⟩ := ident_begins ascii may 0 (by decide) cs r hne hs
  obtain ⟨_, h5, h6, h7, h8, h9⟩ := quotes_not_name h4
  refine ⟨fun h => h9 h.1, h5, ?_⟩
  unfold next
  rw [if_neg h5, if_neg h6, if_neg h7, if_neg (fun h => h8 h.1), if_neg h3, if_neg h2, if_pos h1]
  unfold named
  simp only [name_ident ascii may 0 cs r hg hs.stop]
  rw [if_pos hp]
theorem step_function (ascii may : Bool) (cs r : List Int) (hg : Good ascii cs) (hne : cs ≠ []) (hu : isUrlB (enc cs) = false) :
    Step ⟨27, 0, cs⟩ (ident ascii may 0 cs ++ [40]) r := by
  have hs : NameEnd may (40 :: r) := ⟨⟨by simp [cont, starts, isDg], by simp, by simp [isSp, isNl]⟩, by simp, by simp⟩
  obtain ⟨h1, h2, h3, h4⟩ := ident_begins ascii may 0 (by decide) cs (40 :: r) hne hs
  obtain ⟨_, h5, h6, h7, h8, h9⟩ := quotes_not_name h4
  have e : ident ascii may 0 cs ++ [40] ++ r = ident ascii may 0 cs ++ 40 :: r := by simp
  refine ⟨by rw [e]; exact fun h => h9 h.1, by rw [e]; exact h5, ?_⟩
  rw [e]
  unfold next
  rw [if_neg h5, if_neg h6, if_neg h7, if_neg (fun h => h8 h.1), if_neg h3, if_neg h2, if_pos h1]
  unfold named
  simp only [name_ident ascii may 0 cs (40 :: r) hg hs.stop]
  rw [if_neg (by simp), if_neg (by simp [hu])]
  simp
theorem step_at (ascii may : Bool) (cs r : List Int) (hg : Good ascii cs) (hne : cs ≠ []) (hs : NameEnd may r) :
    Step ⟨1, 0, cs⟩ (64 :: ident ascii may 0 cs) r := by
  obtain ⟨h1, h2, h3, h4⟩ := ident_begins ascii may 0 (by decide) cs r hne hs
  refine ⟨by simp, by simp, ?_⟩
  rw [List.cons_append]
  unfold next
  simp only [pk_cons_zero, pk_cons_one, pk_cons_two, pk_cons_three, List.tail_cons]
  rw [if_neg (by decide), if_neg (by decide), if_neg (by decide), if_neg (by omega), if_neg (by unfold counts num2 isDg; omega), if_neg (by omega), if_neg (by unfold ident3 starts esc; omega), if_neg (by omega), if_pos ⟨trivial, h1⟩]
  simp only [name_ident ascii may 0 cs r hg hs.stop]
theorem step_hash (ascii may : Bool) (cs r : List Int) (hg : Good ascii cs) (hne : cs ≠ []) (hs : NameEnd may r) :
    Step ⟨28, 0, cs⟩ (35 :: ident ascii may 1 cs) r := by
  have h1 := hash_begins ascii may cs r hne
  refine ⟨by simp, by simp, ?_⟩
  rw [List.cons_append]
  unfold next
  simp only [pk_cons_zero, pk_cons_one, pk_cons_two, pk_cons_three, List.tail_cons]
  rw [if_neg (by decide), if_neg (by decide), if_neg (by decide), if_pos ⟨trivial, h1⟩]
  simp only [name_ident ascii may 1 cs r hg hs.stop]
inductive StrOut (q : Int) (ascii : Bool) : List Int → List Int → Prop
  | nil : StrOut q ascii [] []
  | plain (c : Int) (t out : List Int) : StrOut q ascii t out → c ≠ q → c ≠ 92 → ¬ isNl c → (ascii = true → c < 128) → c ≠ 65279 → StrOut q ascii (c :: t) (c :: out)
  | slash (c : Int) (t out : List Int) : StrOut q ascii t out → (c = q ∨ c = 92 ∨ c = 47) → StrOut q ascii (c :: t) (92 :: c :: out)
  | hex (c : Int) (t out : List Int) : StrOut q ascii t out → (isNl c ∨ c = 65279 ∨ (ascii = true ∧ 128 ≤ c)) → StrOut q ascii (c :: t) (92 :: (hexs c ++ ((if wantSp t false then [32] else []) ++ out)))
theorem strOut_first {q : Int} {ascii : Bool} {d : Int} {t out : List Int} (h : StrOut q ascii (d :: t) out) (r : List Int) (hd : ¬ (d = 32 ∨ d = 9 ∨ isHex d)) :
    ¬ isHex (pk (out ++ r) 0) ∧ ¬ isSp (pk (out ++ r) 0) := by
  cases h with
  | plain _ _ out h h1 h2 h3 h4 h5 =>
    simp only [List.cons_append, pk_cons_zero]
    refine ⟨fun hx => hd (.inr (.inr hx)), fun hx => ?_⟩
    rcases hx with hx | hx
    · exact h3 hx
    · omega
  | slash _ _ out h h1 => simp [isHex, isSp, isNl]
  | hex _ _ out h h1 => simp [isHex, isSp, isNl]
theorem quoted_strOut (q : Int) (hq : q = 34 ∨ q = 39) (ascii : Bool) (cs out : List Int) (h : StrOut q ascii cs out) (hg : Good ascii cs) (r : List Int) :
    quotedRun q (out ++ q :: r) = (36, cs, false, r) := by
  induction h with
  | nil => unfold quotedRun; simp
  | plain c t out h h1 h2 h3 h4 h5 ih =>
    have hv := (hg c (by simp)).1
    have ih := ih (fun x hx => hg x (by simp [hx]))
    rw [List.cons_append, quotedRun]
    simp only [pk_cons_zero, pk_cons_one, List.tail_cons]
    rw [if_neg h1, dif_neg (by unfold Valid at hv; omega), if_neg h3, if_neg (by omega), if_neg (fun hx => h2 hx.1), if_neg h2]
    simp only [ih, if_true]
  | slash c t out h h1 ih =>
    have hv := (hg c (by simp)).1
    have ih := ih (fun x hx => hg x (by simp [hx]))
    have he : escape (c :: (out ++ q :: r)) = (c, false, out ++ q :: r) := by
      unfold escape
      rw [if_pos (by rw [hexv_neg, pk_cons_zero]; unfold isHex; omega), if_neg (by rw [pk_cons_zero]; omega)]
      simp
    rw [List.cons_append, List.cons_append, quotedRun]
    simp only [pk_cons_zero, pk_cons_one, List.tail_cons]
    rw [if_neg (by omega), dif_neg (by omega), if_neg (by unfold isNl; omega), if_neg (by omega), if_neg (by unfold isNl; omega), if_pos trivial]
    simp [he, ih]
  | hex c t out h h1 ih =>
    have hv := (hg c (by simp)).1
    have hc : c < 1048576 := by
      rcases h1 with h1 | h1 | h1
      · unfold isNl at h1; omega
      · omega
      · exact (hg c (by simp)).2 h1.1
    have ih := ih (fun x hx => hg x (by simp [hx]))
    have hb : wantSp t false = true ∨ (¬ isHex (pk (out ++ q :: r) 0) ∧ ¬ isSp (pk (out ++ q :: r) 0)) := by
      cases t with
      | nil =>
        right
        cases h
        simp only [List.nil_append, pk_cons_zero]
        unfold isHex isSp isNl; omega
      | cons d t =>
        by_cases hd : d = 32 ∨ d = 9 ∨ isHex d
        · left; simpa [wantSp] using hd
        · right; exact strOut_first h _ hd
    have he := escape_hexs hv hc _ _ hb
    have hf := hexs_first c ((if wantSp t false = true then [32] else []) ++ (out ++ q :: r))
    have e : 92 :: (hexs c ++ ((if wantSp t false = true then [32] else []) ++ out)) ++ q :: r = 92 :: (hexs c ++ ((if wantSp t false = true then [32] else []) ++ (out ++ q :: r))) := by simp
    rw [e, quotedRun]
    simp only [pk_cons_zero, pk_cons_one, List.tail_cons]
    rw [if_neg (by omega), dif_neg (by omega), if_neg (by unfold isNl; omega), if_neg (by rintro ⟨_, hx⟩; rw [hx] at hf; unfold isHex at hf; omega), if_neg (fun hx => isSp_not_hex (.inl hx.2) hf), if_pos trivial]
    simp [he, ih]
theorem step_string (q : Int) (hq : q = 34 ∨ q = 39) (ascii : Bool) (cs out r : List Int) (h : StrOut q ascii cs out) (hg : Good ascii cs) :
    Step ⟨36, 0, cs⟩ (q :: (out ++ [q])) r := by
  have e : q :: (out ++ [q]) ++ r = q :: (out ++ q :: r) := by simp
  refine ⟨by rw [e]; simp; omega, by rw [e]; simp; omega, ?_⟩
  rw [e]
  unfold next
  simp only [pk_cons_zero, List.tail_cons]
  rw [if_neg (by omega), if_neg (by unfold isSp isNl; omega), if_pos hq]
  simp only [quoted_strOut q hq ascii cs out h hg r]
end Css
end Go.Proofs.YtkfdcbdlcipmfaaGreatFmt
namespace Go.Proofs.YtkfdcbdlcipmfaaGreatFmt
namespace Css
theorem pk_app {a : List Int} {k : Nat} (r : List Int) (h : pk a k ≠ -1) : pk (a ++ r) k = pk a k := by
  by_cases hk : k < a.length
  · exact pk_append_left hk
  · exfalso; apply h; unfold pk; simp [List.getD_eq_getElem?_getD, List.getElem?_eq_none (Nat.le_of_not_lt hk)]
theorem nil_of_pk {a : List Int} (hm : ∀ c ∈ a, c ≠ -1) (h : pk a 0 = -1) : a = [] := by
  cases a with
  | nil => rfl
  | cons c t => exact absurd (by simpa using h) (hm c (by simp))
theorem digits_sub (a : List Int) : ∀ c ∈ digits a, c ∈ a := by
  induction a with
  | nil => simp [digits]
  | cons d t ih => intro c hc; unfold digits at hc; split at hc <;> simp_all
theorem digits_all {a : List Int} (h : digits a = []) : ∀ c ∈ a, isDg c := by
  induction a with
  | nil => simp
  | cons d t ih =>
    unfold digits at h
    split at h
    · intro c hc; simp at hc; rcases hc with rfl | hc; assumption; exact ih h c hc
    · simp at h
theorem digits_app (a r : List Int) : digits (a ++ r) = if digits a = [] then digits r else digits a ++ r := by
  induction a with
  | nil => simp [digits]
  | cons d t ih =>
    rw [List.cons_append]
    by_cases hd : isDg d
    · have e1 : digits (d :: (t ++ r)) = digits (t ++ r) := by rw [digits, if_pos hd]
      have e2 : digits (d :: t) = digits t := by rw [digits, if_pos hd]
      rw [e1, e2]; exact ih
    · have e1 : digits (d :: (t ++ r)) = d :: (t ++ r) := by rw [digits, if_neg hd]
      have e2 : digits (d :: t) = d :: t := by rw [digits, if_neg hd]
      rw [e1, e2]; simp
theorem digits_stop {r : List Int} (h : ¬ isDg (pk r 0)) : digits r = r := by
  cases r with
  | nil => rfl
  | cons c t => unfold digits; rw [if_neg (by simpa using h)]
def power (r : List Int) : Prop := (pk r 0 = 101 ∨ pk r 0 = 69) ∧ (isDg (pk r 1) ∨ ((pk r 1 = 43 ∨ pk r 1 = 45) ∧ isDg (pk r 2)))
theorem numExp_stop {r : List Int} (h : ¬ power r) : numExp r = r := by unfold numExp; exact if_neg h
theorem numExp_go {r : List Int} (h : power r) : numExp r = digits r.tail.tail := by unfold numExp; exact if_pos h
theorem numDot_stop {r : List Int} (h : pk r 0 ≠ 46) : numDot r = r := by unfold numDot; rw [if_neg (by omega)]
theorem isDg_ne {c : Int} (h : isDg c) : c ≠ -1 := by unfold isDg at h; omega
theorem power_app {a : List Int} (r : List Int) (h : power a) : power (a ++ r) := by
  obtain ⟨h1, h2⟩ := h
  unfold power
  rw [pk_app r (by omega : pk a 0 ≠ -1)]
  refine ⟨h1, ?_⟩
  rcases h2 with h2 | ⟨h2, h3⟩
  · rw [pk_app r (isDg_ne h2)]; exact .inl h2
  · rw [pk_app r (by omega : pk a 1 ≠ -1), pk_app r (isDg_ne h3)]; exact .inr ⟨h2, h3⟩
theorem tail_app {a : List Int} (r : List Int) (h : pk a 0 ≠ -1) : (a ++ r).tail = a.tail ++ r := by
  cases a with
  | nil => simp at h
  | cons c t => rfl
theorem pk_tail (a : List Int) (k : Nat) : pk a.tail k = pk a (k + 1) := by cases a <;> simp
theorem numExp_digits {d2 : List Int} (h : numExp d2 = []) (hne : d2 ≠ []) : power d2 ∧ digits d2.tail.tail = [] := by
  unfold numExp at h
  split at h
  · rename_i hp; exact ⟨hp, h⟩
  · exact absurd h hne
theorem numExp_power_app {d2 r : List Int} (hp : power d2) (hd : digits d2.tail.tail = []) (hr : ¬ isDg (pk r 0)) : numExp (d2 ++ r) = r := by
  have hp2 := power_app r hp
  rw [numExp_go hp2]
  have h0 : pk d2 0 ≠ -1 := by have hx : pk d2 0 = 101 ∨ pk d2 0 = 69 := hp.1; omega
  have h1 : pk d2.tail 0 ≠ -1 := by
    rw [pk_tail]
    show pk d2 1 ≠ -1
    rcases hp.2 with h | ⟨h, _⟩
    · exact isDg_ne h
    · omega
  rw [tail_app r h0, tail_app r h1, digits_app, if_pos hd, digits_stop hr]
theorem numDot_cases (d1 : List Int) (ho : numOpen d1 = false) : (pk d1 0 = 46 ∧ isDg (pk d1 1) ∧ numDot d1 = digits d1.tail) ∨ (pk d1 0 ≠ 46 ∧ numDot d1 = d1) := by
  unfold numOpen at ho
  simp only [decide_eq_false_iff_not] at ho
  unfold numDot
  by_cases h : pk d1 0 = 46 ∧ isDg (pk d1 1)
  · left; rw [if_pos h]; exact ⟨h.1, h.2, rfl⟩
  · right; rw [if_neg h]; refine ⟨fun hx => ?_, rfl⟩
    by_cases hy : isDg (pk d1 1)
    · exact h ⟨hx, hy⟩
    · exact ho ⟨hx, hy⟩
theorem numEnd_app {cs : List Int} (hne : cs ≠ []) (h : numEnd cs = (false, [])) (hm : ∀ c ∈ cs, c ≠ -1) :
    ((∀ c ∈ cs, c ≠ 101 ∧ c ≠ 69) ∧ ∀ r, ¬ isDg (pk r 0) → pk r 0 ≠ 46 → ¬ power r → numEnd (cs ++ r) = (false, r))
    ∨ ((101 ∈ cs ∨ 69 ∈ cs) ∧ ∀ r, ¬ isDg (pk r 0) → numEnd (cs ++ r) = (false, r)) := by
  unfold numEnd at h
  simp only [Prod.mk.injEq] at h
  obtain ⟨ho, he⟩ := h
  have h0 : pk cs 0 ≠ -1 := fun hx => hne (nil_of_pk hm hx)
  have hs : ∀ r, numSign (cs ++ r) = numSign cs ++ r := by
    intro r; unfold numSign; rw [pk_app r h0]
    split
    · exact tail_app r h0
    · rfl
  have hsub : ∀ c ∈ numSign cs, c ∈ cs := by
    intro c hc; unfold numSign at hc; split at hc
    · exact List.mem_of_mem_tail hc
    · exact hc
  have hback : (∀ c ∈ numSign cs, c ≠ 101 ∧ c ≠ 69) → ∀ c ∈ cs, c ≠ 101 ∧ c ≠ 69 := by
    intro hb
    unfold numSign at hb
    split at hb
    · rename_i hx
      cases cs with
      | nil => simp
      | cons d t =>
        intro c hc; simp at hc
        rcases hc with rfl | hc
        · simp at hx; omega
        · exact hb c (by simpa using hc)
    · exact hb
  by_cases hd1 : digits (numSign cs) = []
  · left
    refine ⟨hback fun c hc => ?_, ?_⟩
    · have := digits_all hd1 c hc; unfold isDg at this; omega
    · intro r h1 h2 h3
      unfold numEnd
      rw [hs, digits_app, if_pos hd1, digits_stop h1, numDot_stop h2, numExp_stop h3]
      simp [numOpen, h2]
  · have hd1m : ∀ c ∈ digits (numSign cs), c ≠ -1 := fun c hc => hm c (hsub c (digits_sub _ c hc))
    have hp0 : pk (digits (numSign cs)) 0 ≠ -1 := fun hx => hd1 (nil_of_pk hd1m hx)
    have hopen : ∀ r, numOpen (digits (numSign cs) ++ r) = false := by
      intro r
      unfold numOpen at ho ⊢
      simp only [decide_eq_false_iff_not] at ho ⊢
      rw [pk_app r hp0]
      intro hx
      apply ho
      refine ⟨hx.1, fun hy => hx.2 ?_⟩
      rw [pk_app r (isDg_ne hy)]; exact hy
    rcases numDot_cases _ ho with ⟨hp, hp2, hdot⟩ | ⟨hp, hdot⟩
    · rw [hdot] at he
      have hda : ∀ r, numDot (digits (numSign cs) ++ r) = if digits (digits (numSign cs)).tail = [] then digits r else digits (digits (numSign cs)).tail ++ r := by
        intro r
        unfold numDot
        rw [pk_app r hp0, pk_app r (isDg_ne hp2), if_pos ⟨hp, hp2⟩, tail_app r hp0, digits_app]
      by_cases hd2 : digits (digits (numSign cs)).tail = []
      · left
        refine ⟨hback fun c hc => ?_, ?_⟩
        · -- the digits ahead of the point, the point, the digits behind it
          have key : ∀ a : List Int, (∀ c ∈ a, c ≠ -1) → pk (digits a) 0 = 46 → digits (digits a).tail = [] → ∀ c ∈ a, c ≠ 101 ∧ c ≠ 69 := by
            intro a
            induction a with
            | nil => simp
            | cons d t ih =>
              intro hma h1 h2 c hc
              by_cases hdd : isDg d
              · have e : digits (d :: t) = digits t := by rw [digits, if_pos hdd]
                rw [e] at h1 h2
                simp at hc
                rcases hc with rfl | hc
                · unfold isDg at hdd; omega
                · exact ih (fun x hx => hma x (by simp [hx])) h1 h2 c hc
              · have e : digits (d :: t) = d :: t := by rw [digits, if_neg hdd]
                rw [e] at h1 h2
                simp at h1 h2 hc
                rcases hc with rfl | hc
                · omega
                · have := digits_all h2 c hc; unfold isDg at this; omega
          exact key _ (fun c hc => hm c (hsub c hc)) hp hd2 c hc
        · intro r h1 h2 h3
          unfold numEnd
          rw [hs, digits_app, if_neg hd1, hopen, hda, if_pos hd2, digits_stop h1, numExp_stop h3]
      · right
        obtain ⟨hpow, hdd⟩ := numExp_digits he hd2
        refine ⟨?_, ?_⟩
        · have hin : pk (digits (digits (numSign cs)).tail) 0 ∈ cs := by
            apply hsub; apply digits_sub; apply List.mem_of_mem_tail; apply digits_sub
            exact pk_mem (List.length_pos_iff.2 hd2)
          rcases hpow.1 with hx | hx
          · left; rw [← hx]; exact hin
          · right; rw [← hx]; exact hin
        · intro r h1
          unfold numEnd
          rw [hs, digits_app, if_neg hd1, hopen, hda, if_neg hd2, numExp_power_app hpow hdd h1]
    · rw [hdot] at he
      right
      obtain ⟨hpow, hdd⟩ := numExp_digits he hd1
      refine ⟨?_, ?_⟩
      · have hin : pk (digits (numSign cs)) 0 ∈ cs := by
          apply hsub; apply digits_sub
          exact pk_mem (List.length_pos_iff.2 hd1)
        rcases hpow.1 with hx | hx
        · left; rw [← hx]; exact hin
        · right; rw [← hx]; exact hin
      · intro r h1
        have hda : numDot (digits (numSign cs) ++ r) = digits (numSign cs) ++ r := numDot_stop (by rw [pk_app r hp0]; exact hp)
        unfold numEnd
        rw [hs, digits_app, if_neg hd1, hopen, hda, numExp_power_app hpow hdd h1]
theorem numEnd_pct {cs : List Int} (h : numEnd cs = (false, [37])) (hm : ∀ c ∈ cs, c ≠ -1) (r : List Int) : numEnd (cs ++ r) = (false, 37 :: r) := by
  unfold numEnd at h
  simp only [Prod.mk.injEq] at h
  obtain ⟨ho, he⟩ := h
  have hne : cs ≠ [] := by rintro rfl; simp [numSign, digits, numDot, numExp, isDg] at he
  have h0 : pk cs 0 ≠ -1 := fun hx => hne (nil_of_pk hm hx)
  have hs : numSign (cs ++ r) = numSign cs ++ r := by
    unfold numSign; rw [pk_app r h0]
    split
    · exact tail_app r h0
    · rfl
  have hsub : ∀ c ∈ numSign cs, c ∈ cs := by
    intro c hc; unfold numSign at hc; split at hc
    · exact List.mem_of_mem_tail hc
    · exact hc
  have hx : ∀ d2 : List Int, numExp d2 = [37] → d2 ≠ [] ∧ numExp (d2 ++ r) = 37 :: r := by
    intro d2 h2
    unfold numExp at h2
    split at h2
    · rename_i hp
      have hp2 := power_app r hp
      refine ⟨by rintro rfl; simp at hp, ?_⟩
      rw [numExp_go hp2]
      have h0 : pk d2 0 ≠ -1 := by have hx : pk d2 0 = 101 ∨ pk d2 0 = 69 := hp.1; omega
      have h1 : pk d2.tail 0 ≠ -1 := by
        rw [pk_tail]
        show pk d2 1 ≠ -1
        rcases hp.2 with h | ⟨h, _⟩
        · exact isDg_ne h
        · omega
      rw [tail_app r h0, tail_app r h1, digits_app, if_neg (by rw [h2]; simp), h2]
      rfl
    · subst h2
      refine ⟨by simp, ?_⟩
      rw [numExp_stop (by unfold power; simp)]
      rfl
  by_cases hd1 : digits (numSign cs) = []
  · rw [hd1] at he; simp [numDot, numExp, isDg] at he
  · have hd1m : ∀ c ∈ digits (numSign cs), c ≠ -1 := fun c hc => hm c (hsub c (digits_sub _ c hc))
    have hp0 : pk (digits (numSign cs)) 0 ≠ -1 := fun hx => hd1 (nil_of_pk hd1m hx)
    have hopen : numOpen (digits (numSign cs) ++ r) = false := by
      unfold numOpen at ho ⊢
      simp only [decide_eq_false_iff_not] at ho ⊢
      rw [pk_app r hp0]
      intro hx
      apply ho
      refine ⟨hx.1, fun hy => hx.2 ?_⟩
      rw [pk_app r (isDg_ne hy)]; exact hy
    unfold numEnd
    rw [hs, digits_app, if_neg hd1, hopen]
    rcases numDot_cases _ ho with ⟨hp, hp2, hdot⟩ | ⟨hp, hdot⟩
    · rw [hdot] at he
      obtain ⟨h2, h3⟩ := hx _ he
      have hda : numDot (digits (numSign cs) ++ r) = digits (digits (numSign cs)).tail ++ r := by
        unfold numDot
        rw [pk_app r hp0, pk_app r (isDg_ne hp2), if_pos ⟨hp, hp2⟩, tail_app r hp0, digits_app, if_neg h2]
      rw [hda, h3]
    · rw [hdot] at he
      obtain ⟨h2, h3⟩ := hx _ he
      rw [numDot_stop (by rw [pk_app r hp0]; exact hp), h3]
theorem counts_app {cs : List Int} (r : List Int) (h : counts (pk cs 0) (pk cs 1) (pk cs 2)) : counts (pk (cs ++ r) 0) (pk (cs ++ r) 1) (pk (cs ++ r) 2) := by
  have hn : ∀ i j, num2 (pk cs i) (pk cs j) → num2 (pk (cs ++ r) i) (pk (cs ++ r) j) := by
    intro i j h
    rcases h with h | ⟨h, h2⟩
    · left; rw [pk_app r (isDg_ne h)]; exact h
    · right; rw [pk_app r (by omega : pk cs i ≠ -1), pk_app r (isDg_ne h2)]; exact ⟨h, h2⟩
  rcases h with ⟨h, h2⟩ | ⟨h, h2⟩
  · left; rw [pk_app r (by omega : pk cs 0 ≠ -1)]; exact ⟨h, hn 1 2 h2⟩
  · right
    have h0 := isDg_of_num2 h2
    refine ⟨?_, hn 0 1 h2⟩
    rw [pk_app r h0]; exact h
theorem counts_first {a b c : Int} (h : counts a b c) : isDg a ∨ a = 43 ∨ a = 45 ∨ a = 46 := by
  unfold counts num2 isDg at h; unfold isDg; omega
structure Lone (cs : List Int) (t : Tk) : Prop where
  com : ¬ (pk cs 0 = 47 ∧ pk cs 1 = 42)
  ne : pk cs 0 ≠ -1
  next : next cs = (t, false, [])
theorem comments_zero {ds : List Int} (h : (comments ds).1 = 0) : ¬ (pk ds 0 = 47 ∧ pk ds 1 = 42) := by
  intro hx
  unfold comments at h
  rw [dif_pos hx] at h
  split at h <;> simp at h
theorem lone_of_tokens {cs : List Int} {x : Tk × List Int × List Int} (hm : ∀ c ∈ cs, c ≠ -1) (hsuf : ∀ c ∈ (Css.next cs).2.2, c ∈ cs) (h : tokens cs = ([x], 0, false)) : Lone cs x.1 := by
  rw [tokens] at h
  split at h
  · simp at h
  · rename_i hne
    simp only [Prod.mk.injEq, List.cons.injEq] at h
    obtain ⟨⟨h1, h2⟩, h3, h4⟩ := h
    have hc : (comments cs).1 = 0 := by omega
    have hcom := comments_zero hc
    rw [comments_none hcom] at h1 h2 h3 h4 hne
    simp only [Bool.or_eq_false_iff] at h4
    have hr : (Css.next cs).2.2 = [] := by
      have ht : (comments (Css.next cs).2.2).1 = 0 := by
        rw [tokens] at h3; split at h3 <;> simp at h3 <;> omega
      have hcom2 := comments_zero ht
      rw [tokens] at h2
      split at h2
      · rename_i hp
        rw [comments_none hcom2] at hp
        exact nil_of_pk (fun c hc => hm c (hsuf c hc)) hp
      · simp at h2
    refine ⟨hcom, hne, ?_⟩
    rw [← h1]
    simp only
    rw [← hr, ← h4.1.2]
end Css
end Go.Proofs.YtkfdcbdlcipmfaaGreatFmt
