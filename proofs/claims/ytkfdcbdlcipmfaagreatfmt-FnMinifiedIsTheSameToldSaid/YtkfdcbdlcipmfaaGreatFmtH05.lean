/- PLAIN: what is printed is a plain text; the bytes of what is printed in ASCII. No program in sight. -/
import Derived.Test.YtkfdcbdlcipmfaaGreatFmtH04
set_option linter.unusedVariables false
set_option linter.unusedSimpArgs false
namespace Go.Proofs.YtkfdcbdlcipmfaaGreatFmt
namespace Css
def PV (ascii : Bool) (c : Int) : Prop := Valid c ∧ (ascii = true → c < 128)
theorem pv_low {ascii : Bool} {c : Int} (h1 : 1 ≤ c) (h2 : c < 128) : PV ascii c := ⟨by unfold Valid; omega, fun _ => h2⟩
theorem pv_hex {ascii : Bool} {c : Int} (h : isHex c) : PV ascii c := by unfold isHex at h; exact pv_low (by omega) (by omega)
theorem pv_hexs (ascii : Bool) (c : Int) : ∀ d ∈ hexs c, PV ascii d := fun d hd => pv_hex (hexsN_hex _ d hd)
theorem escOut_pv {ascii : Bool} {init : Nat} {c : Int} {t : List Int} {may : Bool} (hv : Valid c) (hi : init = 1 → c < 128) : ∀ d ∈ escOut (charEsc ascii init c) c t may, PV ascii d := by
  intro d hd
  unfold escOut at hd
  by_cases h0 : charEsc ascii init c = 0
  · rw [if_pos h0] at hd
    simp at hd
    subst hd
    refine ⟨hv, fun ha => ?_⟩
    unfold charEsc at h0
    by_cases hx : ascii = true ∧ 128 ≤ d
    · rw [if_pos hx] at h0; omega
    · have : ¬ 128 ≤ d := fun h => hx ⟨ha, h⟩
      omega
  · rw [if_neg h0] at hd
    by_cases h1 : charEsc ascii init c = 1 ∧ ¬ isHex c
    · rw [if_pos h1] at hd
      simp at hd
      rcases hd with rfl | rfl
      · exact pv_low (by decide) (by decide)
      · refine ⟨hv, fun ha => ?_⟩
        have h1 := h1.1
        unfold charEsc at h1
        by_cases hx : ascii = true ∧ 128 ≤ d
        · rw [if_pos hx] at h1; omega
        · have : ¬ 128 ≤ d := fun h => hx ⟨ha, h⟩
          omega
    · rw [if_neg h1] at hd
      simp only [List.mem_cons, List.mem_append] at hd
      rcases hd with rfl | hd | hd
      · exact pv_low (by decide) (by decide)
      · exact pv_hexs ascii c d hd
      · split at hd
        · simp at hd; subst hd; exact pv_low (by decide) (by decide)
        · simp at hd
theorem identTail_pv {ascii may : Bool} {cs : List Int} (hg : ∀ c ∈ cs, Valid c) : ∀ d ∈ identTail ascii may cs, PV ascii d := by
  induction cs with
  | nil => simp [identTail]
  | cons c t ih =>
    intro d hd
    unfold identTail at hd
    rw [List.mem_append] at hd
    rcases hd with hd | hd
    · exact escOut_pv (hg c (by simp)) (by omega) d hd
    · exact ih (fun x hx => hg x (by simp [hx])) d hd
theorem ident_pv {ascii may : Bool} {mode : Nat} {cs : List Int} (hg : ∀ c ∈ cs, Valid c) : ∀ d ∈ ident ascii may mode cs, PV ascii d := by
  intro d hd
  unfold ident at hd
  cases cs with
  | nil => simp [identOut] at hd
  | cons c t =>
    unfold identOut at hd
    rw [List.mem_append] at hd
    rcases hd with hd | hd
    · refine escOut_pv (hg c (by simp)) ?_ d hd
      intro hi
      have : ¬ would (c :: t) := by
        intro hw
        unfold initEsc at hi
        simp only [hw, not_true_eq_false, if_false] at hi
        repeat' split at hi
        all_goals omega
      unfold would at this
      rw [pk_cons_zero] at this
      unfold starts at this; omega
    · exact identTail_pv (fun x hx => hg x (by simp [hx])) d hd
theorem strOut_pv {q : Int} {ascii : Bool} {cs out : List Int} (hq : q = 34 ∨ q = 39) (h : StrOut q ascii cs out) (hg : ∀ c ∈ cs, Valid c) : ∀ d ∈ out, PV ascii d := by
  induction h with
  | nil => simp
  | plain c t out h h1 h2 h3 h4 h5 ih =>
    intro d hd
    simp at hd
    rcases hd with rfl | hd
    · exact ⟨hg d (by simp), h4⟩
    · exact ih (fun x hx => hg x (by simp [hx])) d hd
  | slash c t out h h1 ih =>
    intro d hd
    simp at hd
    rcases hd with rfl | rfl | hd
    · exact pv_low (by decide) (by decide)
    · exact pv_low (by omega) (by omega)
    · exact ih (fun x hx => hg x (by simp [hx])) d hd
  | hex c t out h h1 ih =>
    intro d hd
    simp only [List.mem_cons, List.mem_append] at hd
    rcases hd with rfl | hd | hd | hd
    · exact pv_low (by decide) (by decide)
    · exact pv_hexs ascii c d hd
    · split at hd
      · simp at hd; subst hd; exact pv_low (by decide) (by decide)
      · simp at hd
    · exact ih (fun x hx => hg x (by simp [hx])) d hd
theorem digits_back {a : List Int} (h : ∀ c ∈ digits a, c ≠ -1 → c < 128) : ∀ c ∈ a, c ≠ -1 → c < 128 := by
  induction a with
  | nil => simp
  | cons d t ih =>
    by_cases hd : isDg d
    · have e : digits (d :: t) = digits t := by rw [digits, if_pos hd]
      rw [e] at h
      intro c hc hne
      simp at hc
      rcases hc with rfl | hc
      · unfold isDg at hd; omega
      · exact ih h c hc hne
    · have e : digits (d :: t) = d :: t := by rw [digits, if_neg hd]
      rw [e] at h; exact h
theorem tail_back {a : List Int} (h0 : pk a 0 < 128) (h : ∀ c ∈ a.tail, c ≠ -1 → c < 128) : ∀ c ∈ a, c ≠ -1 → c < 128 := by
  cases a with
  | nil => simp
  | cons d t =>
    intro c hc hne
    simp at hc h0 h
    rcases hc with rfl | hc
    · exact h0
    · exact h c hc hne
theorem numEnd_ascii {cs l : List Int} (h : (numEnd cs).2 = l) (hl : ∀ c ∈ l, c ≠ -1 → c < 128) : ∀ c ∈ cs, c ≠ -1 → c < 128 := by
  unfold numEnd at h
  simp only [] at h
  have hE : ∀ d2, numExp d2 = l → ∀ c ∈ d2, c ≠ -1 → c < 128 := by
    intro d2 h2
    unfold numExp at h2
    split at h2
    · rename_i hp
      have h0 : pk d2 0 < 128 := by have := hp.1; omega
      have h1 : pk d2.tail 0 < 128 := by
        rw [pk_tail]
        show pk d2 1 < 128
        rcases hp.2 with h | ⟨h, _⟩
        · unfold isDg at h; omega
        · omega
      exact tail_back h0 (tail_back h1 (digits_back (by rw [h2]; exact hl)))
    · rw [h2]; exact hl
  have hD := hE _ h
  have hD1 : ∀ c ∈ digits (numSign cs), c ≠ -1 → c < 128 := by
    unfold numDot at hD
    split at hD
    · rename_i hp
      exact tail_back (by omega) (digits_back hD)
    · exact hD
  have hS := digits_back hD1
  unfold numSign at hS
  split at hS
  · rename_i hp; exact tail_back (by omega) hS
  · exact hS
theorem lone_ascii {cs : List Int} {t : Tk} (hm : ∀ c ∈ cs, c ≠ -1) (h : Lone cs t) (hk : t.kind = 30 ∨ t.kind = 34 ∨ signLike t.kind) : ∀ c ∈ cs, c < 128 := by
  intro c hc
  cases lone_is hm h with
  | num h1 h2 => exact numEnd_ascii (l := []) (by rw [h2]) (by simp) c hc (hm c hc)
  | pct h1 h2 => exact numEnd_ascii (l := [37]) (by rw [h2]) (by simp) c hc (hm c hc)
  | cdc h1 => rw [h1] at hc; simp at hc; omega
  | cdo h1 => rw [h1] at hc; simp at hc; omega
  | sign d h1 h2 h3 h4 h5 h6 h7 h8 h9 => rw [h1] at hc; simp at hc; subst hc; unfold starts at h8; omega
  | other h1 h2 h3 h4 h5 => unfold signLike at hk; omega
theorem own_pv {ascii may : Bool} {t : T} {out : List Int} (hok : OK1 ascii t) (ho : Own ascii may t out) : ∀ d ∈ out, PV ascii d := by
  have hgood : Good ascii t.text := by cases hok <;> assumption
  have hv : ∀ c ∈ t.text, Valid c := fun c hc => (hgood c hc).1
  have hm := good_ne hgood
  intro d hd
  cases ho with
  | ident => exact ident_pv hv d hd
  | func =>
    rw [List.mem_append] at hd
    rcases hd with hd | hd
    · exact ident_pv hv d hd
    · simp at hd; subst hd; exact pv_low (by decide) (by decide)
  | dim hk =>
    rw [List.mem_append] at hd
    rcases hd with hd | hd
    · cases hok with
      | dim _ hg hu hl hlone =>
        exact ⟨hv d (List.mem_of_mem_take hd), fun _ => lone_ascii (fun c hc => hm c (List.mem_of_mem_take hc)) hlone (.inl rfl) d hd⟩
      | name h1 | num h1 => omega
      | func h1 | str h1 => omega
      | sign h1 => unfold signLike at h1; omega
    · exact ident_pv (fun c hc => hv c (List.mem_of_mem_drop hc)) d hd
  | atk =>
    simp at hd
    rcases hd with rfl | hd
    · exact pv_low (by decide) (by decide)
    · exact ident_pv hv d hd
  | hash =>
    simp at hd
    rcases hd with rfl | hd
    · exact pv_low (by decide) (by decide)
    · exact ident_pv hv d hd
  | str q out hk hq hs =>
    simp at hd
    rcases hd with rfl | hd | rfl
    · exact pv_low (by omega) (by omega)
    · exact strOut_pv hq hs hv d hd
    · exact pv_low (by omega) (by omega)
  | plain k1 k2 k3 k4 k5 k6 =>
    refine ⟨hv d hd, fun _ => ?_⟩
    cases hok with
    | name h1 => omega
    | num h1 hg hl => exact lone_ascii hm hl (by simp only []; omega) d hd
    | func h1 | str h1 => omega
    | dim h1 => omega
    | sign h1 hg hl => exact lone_ascii hm hl (.inr (.inr h1)) d hd
theorem blank_pv {ascii : Bool} {w : List Int} (h : Blank w) : ∀ d ∈ w, PV ascii d := fun d hd => by
  have := h.2 d hd; exact pv_low (by omega) (by omega)
theorem ws_pv {ascii has : Bool} {ws : List Ch} (h1 : has = true → ∃ w, Blank w ∧ ws = [⟨none, w⟩]) (h2 : has = false → ws = []) : ∀ d ∈ flat ws, PV ascii d := by
  cases has with
  | true => obtain ⟨w, hw, rfl⟩ := h1 rfl; simp only [flat_cons, flat_nil, List.append_nil]; exact blank_pv hw
  | false => rw [h2 rfl]; simp
theorem close_pv {ascii : Bool} {k : Int} (hk : opens k) : PV ascii (closer k) := by
  unfold opens at hk; unfold closer
  rcases hk with rfl | rfl | rfl | rfl <;> exact pv_low (by decide) (by decide)
theorem prints_pv {ascii : Bool} {ts : List T} {has : Bool} {cl : List Ch} (h : Prints ascii ts has cl) : OKl ascii ts → ∀ d ∈ flat cl, PV ascii d := by
  induction h with
  | nil => intro _; simp
  | last w hw => intro _; simp only [flat_cons, flat_nil, List.append_nil]; exact blank_pv hw
  | plain t ts has ws out rest h1 h2 h3 h4 h5 ih =>
    intro hok d hd
    cases hok with
    | cons _ _ ht hk hts hadj =>
      rw [flat_append, flat_cons] at hd
      simp only [List.mem_append] at hd
      rcases hd with hd | hd | hd
      · exact ws_pv h1 h2 d hd
      · exact own_pv ht h4 d hd
      · exact ih hts d hd
  | opened t ts has ws nl out kc rest h1 h2 h3 h4 h5 h6 h7 ih1 ih2 =>
    intro hok d hd
    cases hok with
    | cons _ _ ht hk hts hadj =>
      rw [flat_append, flat_cons, flat_append, flat_append, flat_cons] at hd
      simp only [List.mem_append] at hd
      rcases hd with hd | hd | hd | hd | hd | hd
      · exact ws_pv h1 h2 d hd
      · exact own_pv ht h4 d hd
      · rcases h5 with rfl | ⟨w, hw, rfl⟩
        · simp at hd
        · simp only [flat_cons, flat_nil, List.append_nil] at hd; exact blank_pv hw d hd
      · exact ih1 hk d hd
      · simp at hd; subst hd; exact close_pv h3
      · exact ih2 hts d hd
end Css
end Go.Proofs.YtkfdcbdlcipmfaaGreatFmt
namespace Go.Proofs.YtkfdcbdlcipmfaaGreatFmt
namespace Css
def contL : Nat → List UInt8 → Int → Option Int
  | 0, _, b => some b
  | _ + 1, [], _ => none
  | k + 1, x :: t, b => if x.toNat / 64 = 2 then contL k t (b * 64 + (x.toNat % 64 : Nat)) else none
def headL (b : Nat) : Nat × Int × Int :=
  if 194 ≤ b ∧ b < 224 then (2, 128, (b % 32 : Nat))
  else if 224 ≤ b ∧ b < 240 then (3, 2048, (b % 16 : Nat))
  else if 240 ≤ b ∧ b < 245 then (4, 65536, (b % 8 : Nat))
  else (0, 0, 0)
def runeL : List UInt8 → Int × Nat
  | [] => (-1, 0)
  | x :: t =>
    if x.toNat < 128 then ((x.toNat : Int), 1)
    else if (headL x.toNat).1 = 0 then (-2, 1)
    else match contL ((headL x.toNat).1 - 1) t (headL x.toNat).2.2 with
      | none => (-2, 1)
      | some c => if c < (headL x.toNat).2.1 ∨ c > 1114111 ∨ (55296 ≤ c ∧ c < 57344) then (-2, 1) else (c, (headL x.toNat).1)
theorem runeL_cons (x : UInt8) (t : List UInt8) : runeL (x :: t) = (if x.toNat < 128 then ((x.toNat : Int), 1)
    else if (headL x.toNat).1 = 0 then (-2, 1)
    else match contL ((headL x.toNat).1 - 1) t (headL x.toNat).2.2 with
      | none => (-2, 1)
      | some c => if c < (headL x.toNat).2.1 ∨ c > 1114111 ∨ (55296 ≤ c ∧ c < 57344) then (-2, 1) else (c, (headL x.toNat).1)) := rfl
theorem contL_cons (k : Nat) (x : UInt8) (t : List UInt8) (b : Int) : contL (k + 1) (x :: t) b = if x.toNat / 64 = 2 then contL k t (b * 64 + (x.toNat % 64 : Nat)) else none := rfl
theorem contL_zero (t : List UInt8) (b : Int) : contL 0 t b = some b := rfl
theorem by8_eq {x : UInt8} {c : Int} (h : (x.toNat : Int) = c) (h0 : 0 ≤ c) (h1 : c < 256) : by8 c = x := by
  apply UInt8.toNat_inj.1
  have := by8_nat h0 h1
  omega
theorem x_lt (x : UInt8) : x.toNat < 256 := x.toNat_lt
theorem runeL_inv (x : UInt8) (t : List UInt8) : runeL (x :: t) = (-2, 1) ∨ ∃ (c : Int) (R : List UInt8), runeL (x :: t) = (c, wd c) ∧ x :: t = enc1 c ++ R ∧ 0 ≤ c ∧ c ≤ 1114111 ∧ ¬ (55296 ≤ c ∧ c < 57344) := by
  have hx := x_lt x
  rw [runeL_cons]
  by_cases h1 : x.toNat < 128
  · right
    rw [if_pos h1]
    refine ⟨(x.toNat : Int), t, ?_, ?_, by omega, by omega, by omega⟩
    · have : wd (x.toNat : Int) = 1 := by unfold wd; rw [if_pos (by omega)]
      rw [this]
    · unfold enc1
      rw [if_pos (by omega), by8_eq rfl (by omega) (by omega)]; rfl
  · rw [if_neg h1]
    by_cases h2 : (headL x.toNat).1 = 0
    · left; rw [if_pos h2]
    · rw [if_neg h2]
      cases hc : contL ((headL x.toNat).1 - 1) t (headL x.toNat).2.2 with
      | none => left; rfl
      | some c =>
        simp only []
        by_cases h3 : c < (headL x.toNat).2.1 ∨ c > 1114111 ∨ (55296 ≤ c ∧ c < 57344)
        · left; rw [if_pos h3]
        · right
          rw [if_neg h3]
          unfold headL at h2 hc h3 ⊢
          by_cases q2 : 194 ≤ x.toNat ∧ x.toNat < 224
          · rw [if_pos q2] at hc h3 ⊢
            simp only [] at hc h3 ⊢
            match t, hc with
            | [], hc => simp [contL] at hc
            | y :: R, hc =>
              have hy := x_lt y
              replace hc := (contL_cons 0 y R _).symm.trans hc
              split at hc
              · rename_i ey
                rw [contL_zero] at hc; simp only [Option.some.injEq] at hc
                refine ⟨c, R, ?_, ?_, by omega, by omega, by omega⟩
                · have : wd c = 2 := by unfold wd; rw [if_neg (by omega), if_pos (by omega)]
                  rw [this]
                · unfold enc1
                  rw [if_neg (by omega), if_pos (by omega), by8_eq (x := x) (by omega) (by omega) (by omega), by8_eq (x := y) (by omega) (by omega) (by omega)]; rfl
              · simp at hc
          · rw [if_neg q2] at hc h3 h2 ⊢
            by_cases q3 : 224 ≤ x.toNat ∧ x.toNat < 240
            · rw [if_pos q3] at hc h3 ⊢
              simp only [] at hc h3 ⊢
              match t, hc with
              | [], hc => simp [contL] at hc
              | [y], hc => simp [contL] at hc
              | y :: z :: R, hc =>
                have hy := x_lt y
                have hz := x_lt z
                replace hc := (contL_cons 1 y (z :: R) _).symm.trans hc
                split at hc
                · rename_i ey
                  replace hc := (contL_cons 0 z R _).symm.trans hc
                  split at hc
                  · rename_i ez
                    rw [contL_zero] at hc; simp only [Option.some.injEq] at hc
                    refine ⟨c, R, ?_, ?_, by omega, by omega, by omega⟩
                    · have : wd c = 3 := by unfold wd; rw [if_neg (by omega), if_neg (by omega), if_pos (by omega)]
                      rw [this]
                    · unfold enc1
                      rw [if_neg (by omega), if_neg (by omega), if_pos (by omega), by8_eq (x := x) (by omega) (by omega) (by omega), by8_eq (x := y) (by omega) (by omega) (by omega), by8_eq (x := z) (by omega) (by omega) (by omega)]; rfl
                  · simp at hc
                · simp at hc
            · rw [if_neg q3] at hc h3 h2 ⊢
              by_cases q4 : 240 ≤ x.toNat ∧ x.toNat < 245
              · rw [if_pos q4] at hc h3 ⊢
                simp only [] at hc h3 ⊢
                match t, hc with
                | [], hc => simp [contL] at hc
                | [y], hc => simp [contL] at hc
                | [y, z], hc => simp [contL] at hc
                | y :: z :: u :: R, hc =>
                  have hy := x_lt y
                  have hz := x_lt z
                  have hu := x_lt u
                  replace hc := (contL_cons 2 y (z :: u :: R) _).symm.trans hc
                  split at hc
                  · rename_i ey
                    replace hc := (contL_cons 1 z (u :: R) _).symm.trans hc
                    split at hc
                    · rename_i ez
                      replace hc := (contL_cons 0 u R _).symm.trans hc
                      split at hc
                      · rename_i eu
                        rw [contL_zero] at hc; simp only [Option.some.injEq] at hc
                        refine ⟨c, R, ?_, ?_, by omega, by omega, by omega⟩
                        · have : wd c = 4 := by unfold wd; rw [if_neg (by omega), if_neg (by omega), if_neg (by omega)]
                          rw [this]
                        · unfold enc1
                          rw [if_neg (by omega), if_neg (by omega), if_neg (by omega), by8_eq (x := x) (by omega) (by omega) (by omega), by8_eq (x := y) (by omega) (by omega) (by omega), by8_eq (x := z) (by omega) (by omega) (by omega), by8_eq (x := u) (by omega) (by omega) (by omega)]; rfl
                      · simp at hc
                    · simp at hc
                  · simp at hc
              · rw [if_neg q4] at h2; simp at h2
def Val0 (c : Int) : Prop := 0 ≤ c ∧ c ≤ 1114111 ∧ ¬ (55296 ≤ c ∧ c < 57344)
theorem runeL_enc {c : Int} (hv : Val0 c) (R : List UInt8) : runeL (enc1 c ++ R) = (c, wd c) := by
  unfold Val0 at hv
  by_cases h1 : c < 128
  · have e : enc1 c = [by8 c] := by unfold enc1; rw [if_pos h1]
    have hw : wd c = 1 := by unfold wd; rw [if_pos h1]
    have b := by8_nat (c := c) (by omega) (by omega)
    rw [e, hw]
    show runeL (by8 c :: R) = _
    rw [runeL_cons]
    rw [if_pos (by omega), b]
  · by_cases h2 : c < 2048
    · have e : enc1 c = [by8 (192 + c / 64), by8 (128 + c % 64)] := by unfold enc1; rw [if_neg h1, if_pos h2]
      have hw : wd c = 2 := by unfold wd; rw [if_neg h1, if_pos h2]
      have b0 := by8_nat (c := 192 + c / 64) (by omega) (by omega)
      have b1 := by8_nat (c := 128 + c % 64) (by omega) (by omega)
      rw [e, hw]
      show runeL (by8 (192 + c / 64) :: by8 (128 + c % 64) :: R) = _
      generalize by8 (192 + c / 64) = x0 at *
      generalize by8 (128 + c % 64) = x1 at *
      have hh : headL x0.toNat = (2, 128, ((x0.toNat % 32 : Nat) : Int)) := by unfold headL; rw [if_pos (by omega)]
      have hc : contL 1 (x1 :: R) ((x0.toNat % 32 : Nat) : Int) = some c := by
        rw [contL_cons, if_pos (by omega), contL_zero]; congr 1; omega
      rw [runeL_cons]
      rw [if_neg (by omega), hh]
      simp only [hc]
      rw [if_neg (by omega), if_neg (by omega)]
    · by_cases h3 : c < 65536
      · have e : enc1 c = [by8 (224 + c / 4096), by8 (128 + c / 64 % 64), by8 (128 + c % 64)] := by unfold enc1; rw [if_neg h1, if_neg h2, if_pos h3]
        have hw : wd c = 3 := by unfold wd; rw [if_neg h1, if_neg h2, if_pos h3]
        have b0 := by8_nat (c := 224 + c / 4096) (by omega) (by omega)
        have b1 := by8_nat (c := 128 + c / 64 % 64) (by omega) (by omega)
        have b2 := by8_nat (c := 128 + c % 64) (by omega) (by omega)
        rw [e, hw]
        show runeL (by8 (224 + c / 4096) :: by8 (128 + c / 64 % 64) :: by8 (128 + c % 64) :: R) = _
        generalize by8 (224 + c / 4096) = x0 at *
        generalize by8 (128 + c / 64 % 64) = x1 at *
        generalize by8 (128 + c % 64) = x2 at *
        have hh : headL x0.toNat = (3, 2048, ((x0.toNat % 16 : Nat) : Int)) := by unfold headL; rw [if_neg (by omega), if_pos (by omega)]
        have hc : contL 2 (x1 :: x2 :: R) ((x0.toNat % 16 : Nat) : Int) = some c := by
          rw [contL_cons, if_pos (by omega), contL_cons, if_pos (by omega), contL_zero]; congr 1; omega
        rw [runeL_cons]
        rw [if_neg (by omega), hh]
        simp only [hc]
        rw [if_neg (by omega), if_neg (by omega)]
      · have e : enc1 c = [by8 (240 + c / 262144), by8 (128 + c / 4096 % 64), by8 (128 + c / 64 % 64), by8 (128 + c % 64)] := by unfold enc1; rw [if_neg h1, if_neg h2, if_neg h3]
        have hw : wd c = 4 := by unfold wd; rw [if_neg h1, if_neg h2, if_neg h3]
        have b0 := by8_nat (c := 240 + c / 262144) (by omega) (by omega)
        have b1 := by8_nat (c := 128 + c / 4096 % 64) (by omega) (by omega)
        have b2 := by8_nat (c := 128 + c / 64 % 64) (by omega) (by omega)
        have b3 := by8_nat (c := 128 + c % 64) (by omega) (by omega)
        rw [e, hw]
        show runeL (by8 (240 + c / 262144) :: by8 (128 + c / 4096 % 64) :: by8 (128 + c / 64 % 64) :: by8 (128 + c % 64) :: R) = _
        generalize by8 (240 + c / 262144) = x0 at *
        generalize by8 (128 + c / 4096 % 64) = x1 at *
        generalize by8 (128 + c / 64 % 64) = x2 at *
        generalize by8 (128 + c % 64) = x3 at *
        have hh : headL x0.toNat = (4, 65536, ((x0.toNat % 8 : Nat) : Int)) := by unfold headL; rw [if_neg (by omega), if_neg (by omega), if_pos (by omega)]
        have hc : contL 3 (x1 :: x2 :: x3 :: R) ((x0.toNat % 8 : Nat) : Int) = some c := by
          rw [contL_cons, if_pos (by omega), contL_cons, if_pos (by omega), contL_cons, if_pos (by omega), contL_zero]; congr 1; omega
        rw [runeL_cons]
        rw [if_neg (by omega), hh]
        simp only [hc]
        rw [if_neg (by omega), if_neg (by omega)]
theorem runeL_wd (x : UInt8) (t : List UInt8) : (runeL (x :: t)).2 = wd (runeL (x :: t)).1 ∧ (runeL (x :: t)).1 ≠ -1 := by
  rcases runeL_inv x t with h | ⟨c, R, h, _, h0, _⟩
  · rw [h]; exact ⟨rfl, by decide⟩
  · rw [h]; exact ⟨rfl, by simp only []; omega⟩
def dec (l : List UInt8) : List Int :=
  match l with
  | [] => []
  | x :: t => (runeL (x :: t)).1 :: dec ((x :: t).drop (runeL (x :: t)).2)
 termination_by l.length
 decreasing_by
  have := (runeL_wd x t).1
  have := (wd_pos (runeL (x :: t)).1).1
  simp; omega
def bw : List Int → Nat
  | [] => 0
  | c :: t => wd c + bw t
theorem bw_append (a b : List Int) : bw (a ++ b) = bw a + bw b := by
  induction a with
  | nil => simp [bw]
  | cons c t ih => simp [bw, ih]; omega
theorem bw_enc (cs : List Int) : bw cs = (enc cs).length := by
  induction cs with
  | nil => rfl
  | cons c t ih => rw [enc_length_cons, ← ih]; rfl
theorem runeL_le (x : UInt8) (t : List UInt8) : (runeL (x :: t)).2 ≤ (x :: t).length := by
  rcases runeL_inv x t with h | ⟨c, R, h, e, _⟩
  · rw [h]; simp
  · rw [h, e, List.length_append, enc1_length]; simp only []; omega
theorem dec_bw (l : List UInt8) : bw (dec l) = l.length := by
  fun_induction dec l with
  | case1 => rfl
  | case2 x t ih =>
    have h1 := (runeL_wd x t).1
    have h2 := runeL_le x t
    simp only [bw]
    rw [ih, List.length_drop, ← h1]
    omega
theorem dec_enc {cs : List Int} (h : ∀ c ∈ cs, Val0 c) : dec (enc cs) = cs := by
  induction cs with
  | nil => simp [dec]
  | cons c t ih =>
    have hc := runeL_enc (h c (by simp)) (enc t)
    obtain ⟨b, tl, hb, -⟩ : ∃ b tl, enc1 c = b :: tl ∧ True := by
      have := enc1_length c
      have hw := (wd_pos c).1
      cases he : enc1 c with
      | nil => rw [he] at this; simp at this; omega
      | cons b tl => exact ⟨b, tl, rfl, trivial⟩
    rw [enc_cons] at *
    have e : enc1 c ++ enc t = b :: (tl ++ enc t) := by rw [hb]; rfl
    rw [e] at hc ⊢
    rw [dec, hc]
    simp only []
    rw [← e]
    have : (enc1 c ++ enc t).drop (wd c) = enc t := by rw [← enc1_length c, List.drop_left]
    rw [this, ih (fun x hx => h x (by simp [hx]))]
theorem enc_dec {l : List UInt8} (h : ∀ c ∈ dec l, c ≠ -2) : enc (dec l) = l ∧ ∀ c ∈ dec l, Val0 c := by
  fun_induction dec l with
  | case1 => exact ⟨rfl, by simp⟩
  | case2 x t ih =>
    have hi := ih (fun c hc => h c (by simp [hc]))
    rcases runeL_inv x t with h1 | ⟨c, R, h1, e, hv⟩
    · exact absurd (by rw [h1]) (h (runeL (x :: t)).1 (by simp))
    · rw [h1] at hi ⊢
      simp only [] at hi ⊢
      have ed : (x :: t).drop (wd c) = R := by rw [e, ← enc1_length c, List.drop_left]
      rw [ed] at hi ⊢
      refine ⟨by rw [enc_cons, hi.1, e], ?_⟩
      intro y hy
      simp at hy
      rcases hy with rfl | hy
      · exact hv
      · exact hi.2 y hy
theorem dec_drop : ∀ (X ds : List Int) (l : List UInt8), dec l = X ++ ds → dec (l.drop (bw X)) = ds := by
  intro X
  induction X with
  | nil => intro ds l h; simpa [bw] using h
  | cons c X ih =>
    intro ds l h
    cases l with
    | nil => simp [dec] at h
    | cons x t =>
      rw [dec] at h
      simp only [List.cons_append, List.cons.injEq] at h
      have := ih ds _ h.2
      rw [List.drop_drop] at this
      have e := (runeL_wd x t).1
      rw [h.1] at e
      simp only [bw]
      rw [← e]; exact this
theorem dec_head (l : List UInt8) : pk (dec l) 0 = (runeL l).1 := by
  cases l with
  | nil => simp [dec, runeL]
  | cons x t => rw [dec]; simp
def Suf (s : ByteArray) (ds : List Int) : Prop := ∃ X, dec s.data.toList = X ++ ds
def pos (s : ByteArray) (ds : List Int) : Nat := s.size - bw ds
theorem suf_all (s : ByteArray) : Suf s (dec s.data.toList) := ⟨[], rfl⟩
theorem pos_all (s : ByteArray) : pos s (dec s.data.toList) = 0 := by unfold pos; rw [dec_bw]; show s.size - s.data.toList.length = 0; have : s.data.toList.length = s.size := rfl; omega
theorem Suf.tail {s : ByteArray} {ds : List Int} (h : Suf s ds) : Suf s ds.tail := by
  obtain ⟨X, h⟩ := h
  cases ds with
  | nil => exact ⟨X, h⟩
  | cons c t => exact ⟨X ++ [c], by rw [h]; simp⟩
theorem Suf.bw_le {s : ByteArray} {ds : List Int} (h : Suf s ds) : bw ds ≤ s.size := by
  obtain ⟨X, h⟩ := h
  have := dec_bw s.data.toList
  rw [h, bw_append] at this
  have e : s.data.toList.length = s.size := rfl
  omega
theorem pos_le {s : ByteArray} {ds : List Int} : pos s ds ≤ s.size := by unfold pos; omega
theorem Suf.dec_pos {s : ByteArray} {ds : List Int} (h : Suf s ds) : dec (s.data.toList.drop (pos s ds)) = ds := by
  obtain ⟨X, h⟩ := h
  have h2 := dec_bw s.data.toList
  rw [h, bw_append] at h2
  have e : s.data.toList.length = s.size := rfl
  have : pos s ds = bw X := by unfold pos; omega
  rw [this]
  exact dec_drop X ds _ h
theorem Suf.rune {s : ByteArray} {ds : List Int} (h : Suf s ds) : (runeL (s.data.toList.drop (pos s ds))).1 = pk ds 0 ∧ pos s ds.tail = pos s ds + (runeL (s.data.toList.drop (pos s ds))).2 := by
  have hd := h.dec_pos
  have hb := h.bw_le
  refine ⟨by rw [← dec_head, hd], ?_⟩
  cases hl : s.data.toList.drop (pos s ds) with
  | nil =>
    rw [hl, dec] at hd
    subst hd
    simp [runeL]
  | cons x t =>
    rw [hl, dec] at hd
    subst hd
    have e := (runeL_wd x t).1
    unfold pos
    simp only [List.tail_cons, bw] at hb ⊢
    rw [← e] at hb ⊢
    omega
end Css
end Go.Proofs.YtkfdcbdlcipmfaaGreatFmt
namespace Go.Proofs.YtkfdcbdlcipmfaaGreatFmt
namespace Css
def ReadAs (spaces : Bool) (ds : List Int) (its : List It) : Prop := ∃ got, reads ds false = (got, 0, false) ∧ All2 (fun r x => IsIt r x ∧ (spaces = true → SpaceIs r x)) got its
def PlainTxt (ascii : Bool) (ds : List Int) : Prop := (∀ d ∈ ds, PV ascii d) ∧ pk ds 0 ≠ 65279
theorem reads_nil (sp : Bool) : reads [] sp = ([], 0, false) := by
  have h : tokens [] = ([], 0, false) := by
    have hc : comments [] = (0, false, []) := comments_none (by simp)
    rw [tokens]; simp [hc]
  unfold reads
  rw [h]
  simp [rd]
theorem chain_read {cl : List Ch} (h : Chain cl []) : reads (flat cl) false = (exp cl false, 0, false) := by
  have := chain_reads h false
  rw [List.append_nil, reads_nil, List.append_nil] at this
  exact this
theorem All2.mono {α β : Type} {R S : α → β → Prop} {a : List α} {b : List β} (h : All2 R a b) (hRS : ∀ x y, R x y → S x y) : All2 S a b := by
  induction h with
  | nil => exact .nil
  | cons h _ ih => exact .cons (hRS _ _ h) ih
theorem chain_readAs {cl : List Ch} {its : List It} {ds : List Int} (sp : Bool) (h : Chain cl []) (hd : flat cl = ds) (hf : All2 Fits (exp cl false) its) : ReadAs sp ds its := by
  subst hd
  exact ⟨_, chain_read h, hf.mono fun r x hx => ⟨hx.1, fun _ => hx.2⟩⟩
theorem fits_free {t : Tk} {out : List Int} {b : Bool} {x : It} (h : IsIt (t, out, b) x) (hs : x.space = -1) : Fits (t, out, b) x := ⟨h, fun h0 => by omega⟩
def plainSign (c : Int) : Prop := c = 59 ∨ c = 58 ∨ c = 123 ∨ c = 125 ∨ c = 33
theorem step_plain {c : Int} (hc : plainSign c) (r : List Int) : Step ⟨signKind c, 0, []⟩ [c] r := by
  unfold plainSign at hc
  refine step_sign c ?_ ?_ ?_ ?_ ?_ ?_ ?_ r ?_
  all_goals (try unfold isSp); (try unfold isNl); (try unfold isDg); (try unfold starts); (try unfold SignEnd); omega
theorem isIt_plain (c : Int) (hc : plainSign c) (b : Bool) (k : Int) (hk : k = signKind c) : IsIt (⟨k, 0, []⟩, [c], b) ⟨k, 0, [c], -1⟩ := by
  have h : k = 35 ∨ k = 9 ∨ k = 31 ∨ k = 6 ∨ k = 19 := by
    unfold plainSign at hc
    rcases hc with rfl | rfl | rfl | rfl | rfl <;> simp [hk, signKind]
  refine ⟨rfl, fun hx => ?_, fun hx => ?_, fun hx => rfl⟩
  · simp only [] at hx; omega
  · simp only [] at hx; omega
theorem isIt_name (k : Int) (hk : k = 29 ∨ k = 1) (x out : List Int) (b : Bool) : IsIt (⟨k, 0, x⟩, out, b) ⟨k, 0, x, -1⟩ := by
  refine ⟨rfl, fun _ => rfl, fun hx => ?_, fun hx => ?_⟩
  · simp only [] at hx; omega
  · simp only [] at hx; omega
def wsIf (b : Bool) (w : List Int) : List Ch := if b then [⟨none, w⟩] else []
theorem chain_wsIf {b : Bool} {w : List Int} (hw : Blank w) {cl : List Ch} {r : List Int} (h : Chain cl r) : Chain (wsIf b w ++ cl) r := by
  unfold wsIf
  cases b with
  | true => exact .blank w cl r hw h
  | false => exact h
theorem flat_wsIf (b : Bool) (w : List Int) : flat (wsIf b w) = if b then w else [] := by
  unfold wsIf; cases b <;> simp
theorem exp_wsIf (b : Bool) (w : List Int) (cl : List Ch) (sp : Bool) : exp (wsIf b w ++ cl) sp = exp cl (sp || b) := by
  unfold wsIf; cases b <;> simp [exp]
theorem blank32 : Blank [32] := ⟨by simp, by simp⟩
theorem blank10 : Blank [10] := ⟨by simp, by simp⟩
theorem nameEnd_of {may : Bool} {r : List Int} (h : (may = true ∧ pk r 0 = 32) ∨ pk r 0 = 59 ∨ pk r 0 = 58) : NameEnd may r := by
  refine ⟨⟨?_, ?_, ?_⟩, ?_, ?_⟩
  · unfold cont starts isDg; omega
  · omega
  · rcases h with h | h | h
    · exact .inl h.1
    · right; unfold isSp isNl; omega
    · right; unfold isSp isNl; omega
  · omega
  · omega
def atCh (ascii mini : Bool) (nm : List Int) (ts : List T) (cl : List Ch) : List Ch :=
  ⟨some ⟨1, 0, nm⟩, 64 :: ident ascii (!ts.isEmpty) 0 nm⟩ :: (wsIf (!ts.isEmpty) [32] ++ (cl ++ (⟨some ⟨35, 0, []⟩, [59]⟩ :: wsIf (!mini) [10])))
def atIts (nm : List Int) (its : List It) : List It := ⟨1, 0, nm, -1⟩ :: (its ++ [⟨35, 0, [59], -1⟩])
theorem prints_nil {ascii has : Bool} {cl : List Ch} (h : Prints ascii [] has cl) (hh : has = false) : cl = [] := by
  cases h with
  | nil => rfl
  | last => cases hh
theorem at_chain {ascii mini : Bool} {nm : List Int} {ts : List T} {cl : List Ch} (hne : nm ≠ []) (hg : Good ascii nm) (hp : Prints ascii ts (headBefore ts) cl) (hok : OKl ascii ts) : Chain (atCh ascii mini nm ts cl) [] := by
  have hend : Chain (⟨some ⟨35, 0, []⟩, [59]⟩ :: wsIf (!mini) [10]) [] := by
    refine .tok _ _ _ _ (by decide) (step_plain (c := 59) (.inl rfl) _) ?_
    have := chain_wsIf (b := !mini) blank10 (Chain.nil [])
    simpa using this
  have hmid : Chain (cl ++ (⟨some ⟨35, 0, []⟩, [59]⟩ :: wsIf (!mini) [10])) [] :=
    chain_append (prints_chain hp hok _ (.inl (by simp [EndR]))) hend
  refine .tok _ _ _ _ (by show (1 : Int) ≠ 38; decide) (step_at ascii _ nm _ hg hne (nameEnd_of ?_)) (chain_wsIf blank32 hmid)
  cases ts with
  | nil =>
    have hc : cl = [] := prints_nil hp rfl
    subst hc
    right; left
    simp [wsIf]
  | cons t ts => left; simp [wsIf]
theorem at_fits {ascii mini : Bool} {nm : List Int} {ts : List T} {cl : List Ch} (hp : Prints ascii ts (headBefore ts) cl) (hok : OKl ascii ts) : All2 Fits (exp (atCh ascii mini nm ts cl) false) (atIts nm (itemsF ts true false)) := by
  unfold atCh atIts
  simp only [exp]
  refine .cons (fits_free (isIt_name 1 (.inr rfl) _ _ _) rfl) ?_
  rw [exp_wsIf, exp_append]
  refine (prints_fits hp hok _ true false (.inl rfl)).append ?_
  simp only [exp]
  have : exp (wsIf (!mini) [10]) false = [] := by unfold wsIf; cases mini <;> simp [exp]
  rw [this]
  exact .cons (fits_free (isIt_plain 59 (.inl rfl) _ 35 (by decide)) rfl) .nil
theorem wsIf_pv {ascii : Bool} (b : Bool) {w : List Int} (hw : Blank w) : ∀ d ∈ flat (wsIf b w), PV ascii d := by
  rw [flat_wsIf]
  cases b with
  | true => exact blank_pv hw
  | false => simp
theorem pv_append {ascii : Bool} {a b : List Int} (h1 : ∀ d ∈ a, PV ascii d) (h2 : ∀ d ∈ b, PV ascii d) : ∀ d ∈ a ++ b, PV ascii d := by
  intro d hd; rw [List.mem_append] at hd
  rcases hd with hd | hd
  · exact h1 d hd
  · exact h2 d hd
theorem pv_cons {ascii : Bool} {c : Int} {b : List Int} (h1 : PV ascii c) (h2 : ∀ d ∈ b, PV ascii d) : ∀ d ∈ c :: b, PV ascii d := by
  intro d hd; simp at hd
  rcases hd with rfl | hd
  · exact h1
  · exact h2 d hd
theorem good_valid {ascii : Bool} {cs : List Int} (h : Good ascii cs) : ∀ c ∈ cs, Valid c := fun c hc => (h c hc).1
theorem at_plain {ascii mini : Bool} {nm : List Int} {ts : List T} {cl : List Ch} (hg : Good ascii nm) (hp : Prints ascii ts (headBefore ts) cl) (hok : OKl ascii ts) : PlainTxt ascii (flat (atCh ascii mini nm ts cl)) := by
  unfold atCh
  refine ⟨?_, by simp⟩
  rw [flat_cons, flat_append, flat_append, flat_cons]
  exact pv_append (pv_cons (pv_low (by decide) (by decide)) (ident_pv (good_valid hg))) (pv_append (wsIf_pv _ blank32) (pv_append (prints_pv hp hok) (pv_append (pv_cons (pv_low (by decide) (by decide)) (by simp)) (wsIf_pv _ blank10))))
end Css
end Go.Proofs.YtkfdcbdlcipmfaaGreatFmt
