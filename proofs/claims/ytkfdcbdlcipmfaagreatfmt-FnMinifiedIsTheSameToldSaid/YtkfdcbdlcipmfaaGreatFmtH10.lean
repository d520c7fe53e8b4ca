/- Walks: printWithEscape, all of it. -/
import Derived.Test.YtkfdcbdlcipmfaaGreatFmtH04
import Derived.Test.YtkfdcbdlcipmfaaGreatFmtH09
import Derived.Deep.LoopGhost
import Derived.Lib.OthersKept
import Derived.ScopeJumps
import Derived.WalkMore
set_option linter.unusedVariables false
set_option linter.unusedSimpArgs false
namespace Go.Proofs.YtkfdcbdlcipmfaaGreatFmt
open Go.RowKit Css Go.Stop
theorem enc_hex_len (l : List Int) (h : ∀ d ∈ l, isHex d) : (enc l).length = l.length := by
  induction l with
  | nil => rfl
  | cons d t ih =>
    have := h d (by simp)
    have e : wd d = 1 := by unfold isHex at this; unfold wd; rw [if_pos (by omega)]
    rw [enc_length_cons, ih (fun x hx => h x (by simp [hx])), e]; simp; omega
theorem hexT_list (F : Interp) (c : Int) (hv : Valid c) : (hexT F c).data.toList = 92 :: enc (hexs c) := by
  unfold Valid at hv
  exact hex_said F c (by omega) (by omega)
theorem hexT_size (F : Interp) (c : Int) (hv : Valid c) (hc : c < 1048576) : (hexT F c).size ≤ 6 := by
  have h := hexs_small hc
  have e := enc_hex_len (hexs c) (hexsN_hex _)
  have e2 := size_enc (hexT_list F c hv)
  rw [e2, List.length_cons, e]; omega
theorem enc_sp (b : Bool) : enc (if b then [32] else []) = spB8 b := by cases b <;> rfl
theorem pwe_any (F : Interp) (B g : Nat) (mini asc : Bool) (c : Int) (t : List Int) (hv : Valid c) (hvt : AllV t) (e : Nat) (he : e ≤ 2) (h1 : e = 1 → ¬ (65 ≤ c ∧ c ≤ 70) ∧ ¬ (97 ≤ c ∧ c ≤ 102)) (h2 : e = 2 → c < 1048576) (s : ByteArray) (hs : s.data.toList = enc (c :: t)) (may may' : Bool) (hm : t = [] → e ≠ 0 → may' = may) (w : World) (bs : List UInt8) (hst : St B g mini asc bs w) (hl : bs.length + 16 ≤ 140737488355328) (hF : F.told.answers w.tape) :
    Calls Tryz.prog 103 #[.pointer (some ⟨g, 0, none⟩), .int .i32 c, .int .u8 e, .string s, .bool may'] w fun e' w' => e' = .returned (.tuple #[]) ∧ Put B g mini asc (bs ++ enc (escOut e c t may)) w w' := by
  rcases Nat.eq_zero_or_pos e with rfl | hpos
  · refine (pwe_none B g mini asc c hv s may' w bs hst hl).mono ?_
    rintro e' w' ⟨rfl, hp⟩
    exact ⟨rfl, by unfold escOut; rw [if_pos rfl, enc_cons]; simpa [enc] using hp⟩
  · obtain ⟨v, H⟩ := hst.at_
    by_cases hx : e = 1 ∧ ¬ isHex c
    · obtain ⟨rfl, hx⟩ := hx
      refine (pwe_slash0 B g mini asc c hv (by unfold isHex at hx; omega) s may' w bs v H hl).mono ?_
      rintro e' w' ⟨rfl, hp⟩
      refine ⟨rfl, ?_⟩
      unfold escOut
      rw [if_neg (by decide), if_pos ⟨rfl, hx⟩]
      have : enc [92, c] = 92 :: enc1 c := by rw [enc_cons, enc_cons]; simp [enc]; rfl
      rw [this]; exact hp
    · have hc : c < 1048576 := by
        rcases Nat.lt_or_ge e 2 with h | h
        · have : isHex c := by
            by_cases hh : isHex c
            · exact hh
            · exact absurd ⟨by omega, hh⟩ hx
          unfold isHex at this; omega
        · exact h2 (by omega)
      have hd : (e = 1 ∧ 48 ≤ c ∧ c ≤ 57) ∨ e = 2 := by
        rcases Nat.lt_or_ge e 2 with h | h
        · have he1 : e = 1 := by omega
          have : isHex c := by
            by_cases hh : isHex c
            · exact hh
            · exact absurd ⟨by omega, hh⟩ hx
          have := h1 he1
          unfold isHex at *; omega
        · exact .inr (by omega)
      have hT := hexT_size F c hv hc
      have hlen := hexs_small hc
      have eout : enc (escOut e c t may) = (hexT F c).data.toList ++ spB8 (wantSp t may) := by
        unfold escOut
        rw [if_neg (by omega), if_neg hx, hexT_list F c hv, enc_cons, enc_append, enc_sp]
        have : decide ((hexs c).length < 6) = true := by simp; omega
        rw [this, Bool.true_and]
        rfl
      rw [eout]
      cases t with
      | nil =>
        rw [hm rfl (by omega)]
        have hsz : s.size = wd c := by
          rw [size_enc hs, enc_length_cons]; simp [enc]
        exact pwe_hexE F B g mini asc c hv e (by omega) hT s hsz may w bs v H hl hF
      | cons d t' =>
        have hvd := hvt d (by simp)
        obtain ⟨b, tl, hb, hcase⟩ := enc1_head d hvd
        have hsz : wd c < s.size := by
          rw [size_enc hs, enc_length_cons, enc_length_cons]; have := (wd_pos d).1; omega
        have hget : ∀ h : wd c < s.size, ((s[wd c]'h).toNat : Int) = (b.toNat : Int) := by
          intro h
          have e1 : s[wd c]'h = s.data.toList[wd c]'(by simpa using h) := by
            show s.data[wd c]'_ = _
            simp
          rw [e1]
          have : ∀ (l : List UInt8) (hl : l = enc (c :: d :: t')) (h : wd c < l.length), l[wd c] = b := by
            rintro l rfl h
            have q : (enc (c :: d :: t'))[wd c]? = some b := by
              rw [enc_cons, enc_cons, List.getElem?_append_right (by rw [enc1_length]; exact Nat.le_refl _), enc1_length, Nat.sub_self, hb]; rfl
            rw [List.getElem?_eq_getElem h] at q
            injection q
          rw [this _ hs]
        have hwant : wantSp (d :: t') may = wantB (b.toNat : Int) := by
          unfold wantSp
          rw [Bool.eq_iff_iff, wantB_iff, decide_eq_true_iff]
          unfold isHex
          omega
        rw [hwant]
        refine pwe_hexN F B g mini asc c hv e (e == 1) ?_ hT s hsz b.toNat hget (by omega) (by have := b.toNat_lt; omega) may' w bs v H hl hF
        rcases hd with ⟨rfl, h3⟩ | rfl
        · exact .inr ⟨rfl, rfl, h3⟩
        · exact .inl ⟨rfl, rfl⟩
end Go.Proofs.YtkfdcbdlcipmfaaGreatFmt
namespace Go.Proofs.YtkfdcbdlcipmfaaGreatFmt
open Go.RowKit Css Go.Stop
theorem wp_scope_leave {P : Program} {a : Act} {w : World} {Q : Exit → Act → World → Prop} {c : Code} (l : Nat) (hf : findLabel c l = some .skip) (first : c.wp P (Exit.jump l (fun a w => Q .normal a w) Q) a w) : (Code.scope c).wp P Q a w :=
  wp_scope_jumps l (fun a w => Q .normal a w) (fun _ _ => 0) hf first fun _ _ h => wp_skip h
section
variable {Q : Exit → Act → World → Prop} {a : Act} {w : World} {J : Act → World → Prop} {l : Nat}
@[go_sem] theorem Exit.jump_normal : Exit.jump l J Q .normal a w = Q .normal a w := rfl
@[go_sem] theorem Exit.jump_exit (id : Nat) : Exit.jump l J Q (.exit id) a w = Q (.exit id) a w := rfl
@[go_sem] theorem Exit.jump_ret : Exit.jump l J Q .ret a w = Q .ret a w := rfl
@[go_sem] theorem Exit.jump_panic (ch : List PanicEntry) : Exit.jump l J Q (.panic ch) a w = Q (.panic ch) a w := rfl
theorem Exit.jump_goto (h : J a w) : Exit.jump l J Q (.goto l) a w := ⟨rfl, h⟩
end
def initB (m : Int) (wb : Bool) (n b0 b1 b2 : Int) : Int :=
  if m = 1 then 0
  else if wb = false then 1
  else if m = 0 then 0
  else if 48 ≤ b0 ∧ b0 ≤ 57 then 2
  else if (b0 = 101 ∨ b0 = 69) ∧ m ≠ 3 ∧ ((2 ≤ n ∧ 48 ≤ b1 ∧ b1 ≤ 57) ∨ (3 ≤ n ∧ b1 = 45 ∧ 48 ≤ b2 ∧ b2 ≤ 57)) then 2
  else 0
def bt (s : ByteArray) (k : Nat) : Int := ((s.data.toList.getD k 0).toNat : Int)
theorem bt_get (s : ByteArray) (k : Nat) (h : k < s.size) : ((s[k]'h).toNat : Int) = bt s k := by
  unfold bt
  have h2 : k < s.data.toList.length := h
  rw [List.getD_eq_getElem?_getD, List.getElem?_eq_getElem h2]
  simp [ByteArray.getElem_eq_getElem_data]
theorem bt_range (s : ByteArray) (k : Nat) : 0 ≤ bt s k ∧ bt s k ≤ 255 := by
  unfold bt; have := (s.data.toList.getD k 0).toNat_lt; omega
theorem bt_at {s : ByteArray} {A : List UInt8} {c : Int} {R : List Int} (hv : Valid c) (h : s.data.toList = A ++ enc (c :: R)) (k : Nat) (hk : k = A.length) : (c < 128 ∧ bt s k = c) ∨ (128 ≤ c ∧ 128 ≤ bt s k) := by
  subst hk
  obtain ⟨b, t, hb, hc⟩ := enc1_head c hv
  have : s.data.toList.getD A.length 0 = b := by
    rw [h, enc_cons, hb, List.getD_eq_getElem?_getD, List.getElem?_append_right (Nat.le_refl _), Nat.sub_self]; rfl
  unfold bt; rw [this]; omega
set_option maxHeartbeats 1000000 in
theorem initB_eq (m : Int) (hm0 : 0 ≤ m) (hm3 : m ≤ 3) (cs : List Int) (hv : AllV cs) (s : ByteArray) (h : s.data.toList = enc cs) : initB m (wouldB cs) s.size (bt s 0) (bt s 1) (bt s 2) = (initEsc m.toNat cs : Nat) := by
  have hsz := size_enc h
  by_cases hw : would cs
  · have hb : wouldB cs = true := by simp [wouldB, hw]
    cases cs with
    | nil => exact absurd hw (by decide)
    | cons c t =>
      have hc := bt_at (A := []) (hv c (by simp)) h 0 rfl
      have hvc := hv c (by simp)
      have h1 : c < 128 → (2 ≤ s.size ∧ 48 ≤ bt s 1 ∧ bt s 1 ≤ 57 ↔ isDg (pk (c :: t) 1)) ∧ (3 ≤ s.size ∧ bt s 1 = 45 ∧ 48 ≤ bt s 2 ∧ bt s 2 ≤ 57 ↔ pk (c :: t) 1 = 45 ∧ isDg (pk (c :: t) 2)) := by
        intro h128
        have e1 : (enc1 c).length = 1 := by rw [enc1_length]; unfold wd; rw [if_pos h128]
        have ew : wd c = 1 := by unfold wd; rw [if_pos h128]
        rw [enc_length_cons, ew] at hsz
        cases t with
        | nil =>
          simp [enc] at hsz
          have p1 : pk [c] 1 = -1 := rfl
          have p2 : pk [c] 2 = -1 := rfl
          rw [p1, p2, hsz]; unfold isDg; omega
        | cons d t' =>
          have hd := bt_at (A := enc1 c) (hv d (by simp)) (by rw [h, enc_cons]) 1 e1.symm
          have p1 : pk (c :: d :: t') 1 = d := rfl
          rw [enc_length_cons] at hsz
          have := wd_pos d
          rw [p1]
          refine ⟨by unfold isDg; omega, ?_⟩
          by_cases hd45 : d = 45
          · subst hd45
            have ew : wd 45 = 1 := by decide
            rw [ew] at hsz
            cases t' with
            | nil =>
              have p2 : pk [c, 45] 2 = -1 := rfl
              simp [enc] at hsz
              rw [p2, hsz]; unfold isDg; omega
            | cons x t'' =>
              have hx := bt_at (A := enc1 c ++ enc1 45) (hv x (by simp)) (by rw [h, enc_cons, enc_cons, List.append_assoc]) 2 (by rw [List.length_append, e1, enc1_length]; rfl)
              have p2 : pk (c :: 45 :: x :: t'') 2 = x := rfl
              rw [enc_length_cons] at hsz
              have := wd_pos x
              rw [p2]; unfold isDg; omega
          · omega
      have p0 : pk (c :: t) 0 = c := rfl
      rw [hb]
      unfold initB initEsc
      rw [p0]
      by_cases h128 : c < 128
      · obtain ⟨h2, h3⟩ := h1 h128
        have em1 : m.toNat = 1 ↔ m = 1 := by omega
        have em0 : m.toNat = 0 ↔ m = 0 := by omega
        have em2 : ¬ m = 1 → ¬ m = 0 → (m.toNat = 2 ↔ m ≠ 3) := by omega
        have ec : bt s 0 = c := by omega
        rw [ec]
        by_cases q1 : m = 1
        · rw [if_pos q1, if_pos (em1.2 q1)]; rfl
        · rw [if_neg q1, if_neg (fun q => q1 (em1.1 q)), if_neg (by simp), if_neg (not_not_intro hw)]
          by_cases q0 : m = 0
          · rw [if_pos q0, if_pos (em0.2 q0)]; rfl
          · rw [if_neg q0, if_neg (fun q => q0 (em0.1 q))]
            by_cases qd : isDg c
            · rw [if_pos (show 48 ≤ c ∧ c ≤ 57 from qd), if_pos qd]; rfl
            · rw [if_neg (show ¬ (48 ≤ c ∧ c ≤ 57) from qd), if_neg qd]
              have e : ((c = 101 ∨ c = 69) ∧ m ≠ 3 ∧ ((2 ≤ (s.size : Int) ∧ 48 ≤ bt s 1 ∧ bt s 1 ≤ 57) ∨ (3 ≤ (s.size : Int) ∧ bt s 1 = 45 ∧ 48 ≤ bt s 2 ∧ bt s 2 ≤ 57))) ↔ ((c = 101 ∨ c = 69) ∧ m.toNat = 2 ∧ (isDg (pk (c :: t) 1) ∨ (pk (c :: t) 1 = 45 ∧ isDg (pk (c :: t) 2)))) := by
                have c2 : (2 ≤ (s.size : Int)) ↔ 2 ≤ s.size := by omega
                have c3 : (3 ≤ (s.size : Int)) ↔ 3 ≤ s.size := by omega
                rw [em2 q1 q0, ← h2, ← h3, c2, c3]
              by_cases qe : ((c = 101 ∨ c = 69) ∧ m.toNat = 2 ∧ (isDg (pk (c :: t) 1) ∨ (pk (c :: t) 1 = 45 ∧ isDg (pk (c :: t) 2))))
              · rw [if_pos (e.2 qe), if_pos qe]; rfl
              · rw [if_neg (fun q => qe (e.1 q)), if_neg qe]; rfl
      · have g0 : ¬ isDg c := by unfold isDg; omega
        have em1 : m.toNat = 1 ↔ m = 1 := by omega
        have em0 : m.toNat = 0 ↔ m = 0 := by omega
        by_cases q1 : m = 1
        · rw [if_pos q1, if_pos (em1.2 q1)]; rfl
        · rw [if_neg q1, if_neg (fun q => q1 (em1.1 q)), if_neg (by simp), if_neg (not_not_intro hw)]
          by_cases q0 : m = 0
          · rw [if_pos q0, if_pos (em0.2 q0)]; rfl
          · rw [if_neg q0, if_neg (fun q => q0 (em0.1 q)), if_neg (by omega), if_neg (by omega), if_neg g0, if_neg (by omega)]; rfl
  · have hb : wouldB cs = false := by simp [wouldB, hw]
    rw [hb]
    unfold initB initEsc
    have em1 : m.toNat = 1 ↔ m = 1 := by omega
    by_cases q1 : m = 1
    · rw [if_pos q1, if_pos (em1.2 q1)]; rfl
    · rw [if_neg q1, if_neg (fun q => q1 (em1.1 q)), if_pos rfl, if_pos hw]; rfl
theorem St.iterAt {B g : Nat} {mini asc : Bool} {bs : List UInt8} {w : World} (h : St B g mini asc bs w) {k : Nat} {s : ByteArray} {pos : Nat} (hk : w.heap[k]? = some (.stringIter s pos)) (pos' : Nat) : St B g mini asc bs (w.iterAt k s pos') := by
  obtain ⟨⟨v, hp, ho⟩, hB⟩ := h
  have hgk : g ≠ k := by
    rintro rfl
    have := hp.lim
    unfold World.cell? at this
    rw [hk] at this; simp at this
  refine ⟨⟨v, hp.same (Lib.iterAt_other w k g s pos' hgk), ?_⟩, by rw [Lib.iterAt_size]; exact hB⟩
  obtain ⟨h1, h2⟩ := ho
  refine ⟨h1, ?_⟩
  rcases h2 with h2 | ⟨q, cap, cur, hv, hg, hh, r⟩
  · exact Or.inl h2
  · refine Or.inr ⟨q, cap, cur, hv, hg, ?_, r⟩
    rw [Lib.iterAt_other w k q s pos' (by rintro rfl; rw [hk] at hh; cases hh)]; exact hh
theorem Ke.iterAt {B g : Nat} {a w : World} (h : Ke B g a w) {k : Nat} (hk : a.heap.size ≤ k) (hB : B ≤ k) (s : ByteArray) (pos : Nat) : Ke B g a (w.iterAt k s pos) := by
  have e : ∀ i, i < a.heap.size → (w.iterAt k s pos).heap[i]? = w.heap[i]? := fun i hi => Lib.iterAt_other w k i s pos (by omega)
  exact ⟨h.os, h.tape, h.output, by rw [Lib.iterAt_size]; exact h.size, fun i hi => (Lib.iterAt_other w k i s pos (by omega)).trans (h.low i hi), fun i hi hg hb => (e i hi).trans (h.block i hi hg hb)⟩
theorem Ke.iter {B g : Nat} {w w' : World} (h : Ke B g w w') {k : Nat} {s : ByteArray} {pos : Nat} (hk : w.heap[k]? = some (.stringIter s pos)) (hg : k ≠ g) : w'.heap[k]? = some (.stringIter s pos) := by
  have hlt : k < w.heap.size := (Array.getElem?_eq_some_iff.1 hk).1
  rw [h.block k hlt hg (by rintro ⟨cs, fr, e⟩; rw [hk] at e; cases e)]; exact hk
theorem St.ne_iter {B g : Nat} {mini asc : Bool} {bs : List UInt8} {w : World} (h : St B g mini asc bs w) {k : Nat} {s : ByteArray} {pos : Nat} (hk : w.heap[k]? = some (.stringIter s pos)) : k ≠ g := by
  rintro rfl
  obtain ⟨⟨v, hp, ho⟩, hB⟩ := h
  have := hp.lim
  unfold World.cell? at this
  rw [hk] at this; simp at this
theorem enc_pos {cs : List Int} (hv : AllV cs) : ∀ b ∈ enc cs, 1 ≤ b.toNat := by
  induction cs with
  | nil => intro b hb; simp [enc] at hb
  | cons c t ih =>
    intro b hb
    rw [enc_cons, List.mem_append] at hb
    rcases hb with hb | hb
    · have hvc := hv c (by simp)
      unfold Valid at hvc
      unfold enc1 at hb
      have k : ∀ x : Int, 1 ≤ x → x < 256 → b = by8 x → 1 ≤ b.toNat := by
        intro x h1 h2 e
        have := by8_nat (c := x) (by omega) h2
        rw [e]; omega
      repeat' split at hb
      all_goals
        simp only [List.mem_cons, List.not_mem_nil, or_false] at hb
        first
          | exact k _ (by omega) (by omega) hb
          | (rcases hb with hb | hb <;> exact k _ (by omega) (by omega) hb)
          | (rcases hb with hb | hb | hb <;> exact k _ (by omega) (by omega) hb)
          | (rcases hb with hb | hb | hb | hb <;> exact k _ (by omega) (by omega) hb)
    · exact ih (fun x hx => hv x (by simp [hx])) b hb
theorem ident_fast (asc may : Bool) {cs : List Int} (hv : AllV cs) (h : ∀ b ∈ enc cs, b.toNat < 128 ∧ cont (b.toNat : Int)) : identOut asc may 0 cs = cs := by
  rw [identOut_zero]
  induction cs with
  | nil => rfl
  | cons c t ih =>
    have hvc := hv c (by simp)
    obtain ⟨b, tl, hb, hc⟩ := enc1_head c hvc
    have := h b (by rw [enc_cons, hb]; simp)
    have ec : (b.toNat : Int) = c := by omega
    rw [ec] at this
    have e0 : charEsc asc 0 c = 0 := by
      have h128 : ¬ (128 ≤ c) := by omega
      have := this.2
      unfold charEsc
      rw [if_neg (by omega), if_neg (by unfold cont starts isDg at this; omega), if_neg (by simp), if_pos this]
    unfold identTail
    rw [e0, ih (fun x hx => hv x (by simp [hx])) (fun x hx => h x (by rw [enc_cons]; simp [hx]))]
    rfl
end Go.Proofs.YtkfdcbdlcipmfaaGreatFmt
