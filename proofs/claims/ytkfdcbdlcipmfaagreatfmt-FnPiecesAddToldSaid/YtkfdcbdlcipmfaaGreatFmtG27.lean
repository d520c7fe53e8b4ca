/- Walks: the reference's lexer: names. -/
import Derived.Test.YtkfdcbdlcipmfaaGreatFmtG26
set_option linter.unusedVariables false
set_option linter.unusedSimpArgs false
namespace Go.Proofs.YtkfdcbdlcipmfaaGreatFmt
open Go.RowKit Css
def Rng (c : Int) : Prop := -2 ≤ c ∧ c ≤ 1114111
theorem dec_rng (l : List UInt8) : ∀ c ∈ dec l, Rng c := by
  fun_induction dec l with
  | case1 => simp
  | case2 x t ih =>
    intro c hc
    simp at hc
    rcases hc with rfl | hc
    · rcases runeL_inv x t with h | ⟨c, R, h, _, h0, h1, _⟩
      · rw [h]; exact ⟨by decide, by decide⟩
      · rw [h]; exact ⟨by show -2 ≤ c; omega, h1⟩
    · exact ih c hc
theorem suf_rng {s : ByteArray} {ds : List Int} (h : Suf s ds) : ∀ c ∈ ds, Rng c := by
  obtain ⟨X, h⟩ := h
  intro c hc
  exact dec_rng _ c (by rw [h]; simp [hc])
theorem pk_rng {ds : List Int} (h : ∀ c ∈ ds, Rng c) (k : Nat) : Rng (pk ds k) := by
  by_cases hk : k < ds.length
  · exact h _ (pk_mem hk)
  · have : pk ds k = -1 := by unfold pk; simp [List.getD_eq_getElem?_getD, List.getElem?_eq_none (Nat.le_of_not_lt hk)]
    rw [this]; exact ⟨by decide, by decide⟩
theorem escape_rng {ds : List Int} (h : ∀ c ∈ ds, Rng c) : Rng (escape ds).1 := by
  have hf : ∀ v, 0 ≤ v → Rng (fixv v) := by
    intro v hv; unfold fixv; split
    · exact ⟨by decide, by decide⟩
    · exact ⟨by omega, by omega⟩
  have hr : ∀ (n : Nat) (v : Int) (D : List Int), 0 ≤ v → 0 ≤ (hexRun n v D).1 := by
    intro n
    induction n with
    | zero => intro v D hv; exact hv
    | succ n ih =>
      intro v D hv
      unfold hexRun
      split
      · exact ih _ _ (by omega)
      · exact hv
  unfold escape
  repeat' split
  · exact ⟨by show (-2 : Int) ≤ 65533; decide, by show (65533 : Int) ≤ 1114111; decide⟩
  · exact pk_rng h 0
  · exact hf _ (hr _ _ _ (by decide))
  · exact hf _ (hr _ _ _ (by decide))
  · exact hf _ (hr _ _ _ (by decide))
theorem bsOf_app (a b : List UInt8) : bsOf a ++ bsOf b = bsOf (a ++ b) := by
  apply ByteArray.ext
  simp [bsOf]
theorem len_le_bw (l : List Int) : l.length ≤ bw l := by
  induction l with
  | nil => exact Nat.le_refl _
  | cons c t ih => have := (wd_pos c).1; simp [bw]; omega
theorem suf_len {s : ByteArray} {ds : List Int} (h : Suf s ds) : ds.length ≤ s.size := Nat.le_trans (len_le_bw ds) h.bw_le
theorem enc_snoc (o : List Int) (c : Int) : enc (o ++ [c]) = enc o ++ enc1 c := by rw [enc_append]; simp [enc]
section
variable {b : Nat} {s : ByteArray} {ds : List Int} {cv : Value} {op : Bool} {w : World}
def NameR (b : Nat) (s : ByteArray) (ds : List Int) (cv : Value) (op : Bool) (w : World) (e : Ending) (w' : World) : Prop :=
  e = .returned (.string (bsOf (enc (name ds).1))) ∧ To b s (name ds).2.2 cv (op || (name ds).2.1) w w'
structure NameI (b : Nat) (s : ByteArray) (ds : List Int) (cv : Value) (op : Bool) (w0 : World) (o D : List Int) (op' : Bool) (wr : World) : Prop where
  text : o ++ (name D).1 = (name ds).1
  rest : (name D).2.2 = (name ds).2.2
  opn : (op' || (name D).2.1) = (op || (name ds).2.1)
  lex : To b s D cv op' w0 wr
  size : (enc o).length + 4 * D.length ≤ 4 * ds.length
theorem NameI.sum {b : Nat} {s : ByteArray} {ds : List Int} {cv : Value} {op : Bool} {w0 : World} {o D : List Int} {op' : Bool} {wr : World} (h : NameI b s ds cv op w0 o D op' wr) (hs : ds.length ≤ s.size) (hpos : 0 < D.length) (c : Int) :
    (bsOf (enc o)).size + (bsOf (enc1 c)).size ≤ 1125899906842624 := by
  rw [bsOf_size, bsOf_size, enc1_length]
  have := (wd_pos c).2
  have := h.size
  have := h.lex.lx.small
  omega
theorem To.below {w' w'' : World} (h : To b s ds cv op w w') (hb : Below w'.heap.size w' w'') : To b s ds cv op w w'' := ⟨h.lx.below hb, h.lk.trans (.of_below hb)⟩
theorem To.then {w' w'' : World} {ds' : List Int} {op' : Bool} (h : To b s ds cv op w w') (k : To b s ds' cv op' w' w'') : To b s ds' cv op' w w'' := ⟨k.lx, h.lk.trans k.lk⟩
set_option maxHeartbeats 1600000 in
set_option maxRecDepth 100000 in
theorem name_any (h : LX b s ds cv op w) : Calls Tryz.prog 47 #[.pointer (some ⟨b, 0, none⟩)] w (NameR b s ds cv op w) := by
  have HL := Lib.hid h
  clear h
  have HLEN := Lib.hid (suf_len HL.out.suf)
  rename World => w0
  go_enter Tryz.func47, Tryz.ntmps47
  go_wp2_with fail
  go_loopg [3] ds.length (fun k p3 wr => ∃ (o D : List Int) (op' : Bool), p3 = .string (bsOf (enc o)) ∧ D.length = k ∧ Hid (NameI b s ds cv op w0 o D op' wr))
  case atStart => exact ⟨[], ds, op, rfl, rfl, rfl, rfl, rfl, ⟨HL.out, Lk.refl _ _⟩, by simp⟩
  case round =>
    obtain ⟨o, D, op', rfl, hD, HI⟩ := hrel
    have hrng := suf_rng HI.out.lex.lx.suf
    have HR := Lib.hid hrng
    clear hrng
    go_wp2_with fail
    refine (peek_z HI.out.lex.lx).mono ?_
    rintro e w1 ⟨rfl, rfl⟩
    go_wp2_with fail
    refine (cn_any _ _).mono ?_
    rintro e w1 ⟨rfl, rfl⟩
    cases hc : cnQ (pk D 0)
    · have hc' : ¬ cont (pk D 0) := by intro hx; rw [cnQ_iff.2 hx] at hc; cases hc
      have HC := Lib.hid hc'
      clear hc'
      go_wp2_with fail
      refine (peek_z HI.out.lex.lx).mono ?_
      rintro e w1 ⟨rfl, rfl⟩
      go_wp2_with fail
      refine (peek_1 HI.out.lex.lx).mono ?_
      rintro e w1 ⟨rfl, rfl⟩
      go_wp2_with fail
      refine (es_any _ _ _).mono ?_
      rintro e w1 ⟨rfl, rfl⟩
      cases he : esQ (pk D 0) (pk D 1)
      · have he' : ¬ esc (pk D 0) (pk D 1) := by intro hx; rw [esQ_iff.2 hx] at he; cases he
        have HN : Hid (name D = ([], false, D)) := by
          show _ = _; rw [name, dif_neg HC.out, dif_neg he']
        clear he'
        go_wp2_with fail
        go_ret
        have hI := HI.out
        refine ⟨?_, ?_⟩
        · have := hI.text
          rw [HN.out, List.append_nil] at this
          rw [← this]; rfl
        · rw [← hI.rest, ← hI.opn, HN.out]
          show To b s D cv (op' || false) _ _
          rw [Bool.or_false]; exact hI.lex
      · have he' := esQ_iff.1 he
        obtain ⟨c, t, rfl⟩ : ∃ c t, D = c :: t := by
          cases D with
          | nil => have := he'.1; simp at this
          | cons c t => exact ⟨c, t, rfl⟩
        have HN : Hid (name (c :: t) = ((escape t).1 :: (name (escape t).2.2).1, (escape t).2.1 || (name (escape t).2.2).2.1, (name (escape t).2.2).2.2)) := by
          show _ = _; rw [name, dif_neg HC.out, dif_pos he']; rfl
        clear he'
        go_wp2_with fail
        refine (take_any HI.out.lex.lx).mono ?_
        rintro e w2 ⟨rfl, ht2⟩
        have HT2 := Lib.hid ht2
        clear ht2
        go_wp2_with fail
        refine (escape_any HT2.out.lx).mono ?_
        rintro e w3 ⟨rfl, ht3⟩
        have HT3 := Lib.hid ht3
        clear ht3
        go_wp2_with fail
        have hr := escape_rng (ds := t) (fun x hx => HR.out x (by simp [hx]))
        refine (encoded_any _ hr.1 hr.2 _).mono ?_
        rintro e w4 ⟨rfl, hb4⟩
        have HB4 := Lib.hid hb4
        clear hb4 hr
        have hsum := HI.out.sum HLEN.out (by simp) (escape t).1
        go_wp2_with fail
        go_roundg (escape t).2.2.length
        case measure => have := escape_len t; simp at hD; omega
        case rel =>
          refine ⟨o ++ [(escape t).1], _, _, ?_, rfl, ?_, ?_, ?_, (HI.out.lex.then HT2.out |>.then HT3.out).below HB4.out, ?_⟩
          · rw [bsOf_app, ← enc_snoc]
          · rw [← HI.out.text, HN.out]; simp
          · rw [← HI.out.rest, HN.out]
          · rw [← HI.out.opn, HN.out]; simp [Bool.or_assoc]
          · have h1 := HI.out.size
            have h2 := escape_len t
            rw [enc_snoc, List.length_append, enc1_length]
            have := (wd_pos (escape t).1).2
            simp at h1; omega
    · have hc' := cnQ_iff.1 hc
      obtain ⟨c, t, rfl⟩ : ∃ c t, D = c :: t := by
        cases D with
        | nil => exact absurd hc' (by decide)
        | cons c t => exact ⟨c, t, rfl⟩
      have HN : Hid (name (c :: t) = (c :: (name t).1, (name t).2.1, (name t).2.2)) := by
        show _ = _; rw [name, dif_pos hc']; rfl
      clear hc'
      go_wp2_with fail
      refine (take_any HI.out.lex.lx).mono ?_
      rintro e w2 ⟨rfl, ht2⟩
      have HT2 := Lib.hid ht2
      clear ht2
      go_wp2_with fail
      have hr := HR.out c (by simp)
      refine (encoded_any _ hr.1 hr.2 _).mono ?_
      rintro e w4 ⟨rfl, hb4⟩
      have HB4 := Lib.hid hb4
      clear hb4 hr
      have hsum := HI.out.sum HLEN.out (by simp) c
      go_wp2_with fail
      go_roundg t.length
      case measure => simp at hD; omega
      case rel =>
        refine ⟨o ++ [c], _, _, ?_, rfl, ?_, ?_, ?_, (HI.out.lex.then HT2.out).below HB4.out, ?_⟩
        · rw [bsOf_app, ← enc_snoc]
        · rw [← HI.out.text, HN.out]; simp
        · rw [← HI.out.rest, HN.out]
        · rw [← HI.out.opn, HN.out]
        · have h1 := HI.out.size
          rw [enc_snoc, List.length_append, enc1_length]
          have := (wd_pos c).2
          simp at h1 ⊢; omega
end
end Go.Proofs.YtkfdcbdlcipmfaaGreatFmt
