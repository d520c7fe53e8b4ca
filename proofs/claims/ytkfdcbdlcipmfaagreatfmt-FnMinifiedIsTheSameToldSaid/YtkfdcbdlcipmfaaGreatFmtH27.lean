/- Walks: the reference's lexer: addresses (printed by genS11.py). -/
import Derived.Test.YtkfdcbdlcipmfaaGreatFmtH26
set_option linter.unusedVariables false
set_option linter.unusedSimpArgs false
namespace Go.Proofs.YtkfdcbdlcipmfaaGreatFmt
open Go.RowKit Css
section
variable {b : Nat} {s : ByteArray} {ds : List Int} {cv : Value} {op : Bool} {w : World}
theorem badURL_unf (D : List Int) : badURL D = if pk D 0 = 41 then (false, D.tail) else if pk D 0 = -1 then (true, D.tail) else if esc (pk D 0) (pk D.tail 0) then ((escape D.tail).2.1 || (badURL (escape D.tail).2.2).1, (badURL (escape D.tail).2.2).2) else badURL D.tail := by
  rw [badURL]; simp only [dite_eq_ite]
structure BI (E : List Int) (op : Bool) (D : List Int) (op' : Bool) : Prop where
  rest : (badURL D).2 = (badURL E).2
  opn : (op' || (badURL D).1) = (op || (badURL E).1)
def BR (b : Nat) (s : ByteArray) (E : List Int) (cv : Value) (op : Bool) (w : World) (e : Ending) (w' : World) : Prop :=
  e = .returned (tkV 3 0 false []) ∧ To b s (badURL E).2 cv (op || (badURL E).1) w w'
set_option maxHeartbeats 3200000 in
set_option maxRecDepth 100000 in
theorem badURL_any (h : LX b s ds cv op w) : Calls Tryz.prog 125 #[.pointer (some ⟨b, 0, none⟩)] w (BR b s ds cv op w) := by
  have HL := Lib.hid h
  have hlt := h.lt
  clear h
  rename World => w0
  have HT0 : Hid (To b s ds cv op (w0.alloc (.cells #[.int .i64 0, .int .i64 0, .int .i64 0, .int .i64 0, .bool false, .string ⟨#[]⟩] 62)) (w0.alloc (.cells #[.int .i64 0, .int .i64 0, .int .i64 0, .int .i64 0, .bool false, .string ⟨#[]⟩] 62))) := To.start HL.out _
  go_enter Tryz.func125, Tryz.ntmps125
  go_wp2_with fail
  go_loopg [] ds.length (fun k wr => ∃ (D : List Int) (op' : Bool), D.length = k ∧ Hid (BI ds op D op') ∧ Hid (To b s D cv op' (w0.alloc (.cells #[.int .i64 0, .int .i64 0, .int .i64 0, .int .i64 0, .bool false, .string ⟨#[]⟩] 62)) wr))
  case atStart => exact ⟨ds, op, rfl, ⟨rfl, rfl⟩, HT0.out⟩
  case round =>
    obtain ⟨D, op', hD, HI, HT⟩ := hrel
    clear HT0
    have hto := HT.out
    have HU := Lib.hid (badURL_unf D)
    cases k1 : (pk D 0 == 41)
    · have n1 : ¬ pk D 0 = 41 := by simpa using k1
      cases k2 : (pk D 0 == -1)
      · have n2 : ¬ pk D 0 = -1 := by simpa using k2
        have HLT := Lib.hid (pk_lt n2)
        cases k3 : esQ (pk D 0) (pk D.tail 0)
        · have n3 : ¬ esc (pk D 0) (pk D.tail 0) := by intro hx; rw [esQ_iff.2 hx] at k3; cases k3
          have NE := Lib.hid k3
          have HN : Hid (badURL D = badURL D.tail) := by show _ = _; rw [HU.out, if_neg n1, if_neg n2, if_neg n3]
          clear k3 n1 n2 n3
          go_wp2_with (first | (go_at_call 61; go_must (refine (takeT (by assumption)).mono ?_; rintro e w1 ⟨rfl, hto1⟩)) | (go_at_call 59; go_must ((first | (with_reducible refine (peekT0 (by assumption)).mono ?_) | (with_reducible refine (peekT1 (by assumption)).mono ?_) | (with_reducible refine (peekT2 (by assumption)).mono ?_)); rintro e w1 ⟨rfl, rfl⟩)) | (go_at_call 62; go_must (refine (es_any _ _ _).mono ?_; rintro e w1 ⟨rfl, rfl⟩; rw [NE.out])))
          go_roundg D.tail.length
          case measure => rw [← hD]; exact HLT.out
          case rel => exact ⟨D.tail, op', rfl, ⟨by rw [← HI.out.rest, HN.out], by rw [← HI.out.opn, HN.out]⟩, hto1⟩
        · have n3 := esQ_iff.1 k3
          have NE := Lib.hid k3
          have HN : Hid (badURL D = ((escape D.tail).2.1 || (badURL (escape D.tail).2.2).1, (badURL (escape D.tail).2.2).2)) := by show _ = _; rw [HU.out, if_neg n1, if_neg n2, if_pos n3]
          clear k3 n1 n2 n3
          go_wp2_with (first | (go_at_call 61; go_must (refine (takeT (by assumption)).mono ?_; rintro e w1 ⟨rfl, hto1⟩)) | (go_at_call 59; go_must ((first | (with_reducible refine (peekT0 (by assumption)).mono ?_) | (with_reducible refine (peekT1 (by assumption)).mono ?_) | (with_reducible refine (peekT2 (by assumption)).mono ?_)); rintro e w1 ⟨rfl, rfl⟩)) | (go_at_call 62; go_must (refine (es_any _ _ _).mono ?_; rintro e w1 ⟨rfl, rfl⟩; rw [NE.out])) | (go_at_call 63; go_must (refine (escapeT (by assumption)).mono ?_; rintro e w1 ⟨rfl, hto2⟩)))
          go_roundg (escape D.tail).2.2.length
          case measure => have := escape_len D.tail; have := HLT.out; omega
          case rel => exact ⟨(escape D.tail).2.2, op' || (escape D.tail).2.1, rfl, ⟨by rw [← HI.out.rest, HN.out], by rw [← HI.out.opn, HN.out]; simp [Bool.or_assoc]⟩, hto2⟩
      · have n2 : pk D 0 = -1 := by simpa using k2
        have HN : Hid (badURL D = (true, D.tail)) := by show _ = _; rw [HU.out, if_neg n1, if_pos n2]
        clear n1 n2
        go_wp2_with fail
        refine (takeT (by assumption)).mono ?_
        rintro e w1 ⟨rfl, hto1⟩
        have hc3 := hto1.lx.c3
        have hf3 := hto1.lx.f 3
        have hto4 := hto1.open_ true
        have hres := hto4.res hlt
        have r0 := cell_blk hres 0
        have r1 := cell_blk hres 1
        have r2 := cell_blk hres 2
        have r3 := cell_blk hres 3
        have r4 := cell_blk hres 4
        have r5 := cell_blk hres 5
        have g0 := frozen_blk hres 0
        have g1 := frozen_blk hres 1
        have g2 := frozen_blk hres 2
        have g3 := frozen_blk hres 3
        have g4 := frozen_blk hres 4
        have g5 := frozen_blk hres 5
        clear hres
        go_wp2_with fail
        refine bodyPost_ret (v := tkV 3 0 false []) (by simp [results, Tryz.results125, go_sem, tkV, bsOf, r0, r1, r2, r3, r4, r5]) rfl ?_
        refine ⟨rfl, ?_⟩
        rw [← HI.out.rest, ← HI.out.opn, HN.out, Bool.or_true]
        exact hto4.store6 hlt _ _ _ _ _ _
    · have n1 : pk D 0 = 41 := by simpa using k1
      have HN : Hid (badURL D = (false, D.tail)) := by show _ = _; rw [HU.out, if_pos n1]
      clear n1
      go_wp2_with fail
      refine (takeT (by assumption)).mono ?_
      rintro e w1 ⟨rfl, hto1⟩
      have hres := hto1.res hlt
      have r0 := cell_blk hres 0
      have r1 := cell_blk hres 1
      have r2 := cell_blk hres 2
      have r3 := cell_blk hres 3
      have r4 := cell_blk hres 4
      have r5 := cell_blk hres 5
      have g0 := frozen_blk hres 0
      have g1 := frozen_blk hres 1
      have g2 := frozen_blk hres 2
      have g3 := frozen_blk hres 3
      have g4 := frozen_blk hres 4
      have g5 := frozen_blk hres 5
      clear hres
      go_wp2_with fail
      refine bodyPost_ret (v := tkV 3 0 false []) (by simp [results, Tryz.results125, go_sem, tkV, bsOf, r0, r1, r2, r3, r4, r5]) rfl ?_
      refine ⟨rfl, ?_⟩
      rw [← HI.out.rest, ← HI.out.opn, HN.out, Bool.or_false]
      exact hto1.store6 hlt _ _ _ _ _ _
theorem badURLT {w0 : World} (h : To b s ds cv op w0 w) : Calls Tryz.prog 125 #[.pointer (some ⟨b, 0, none⟩)] w fun e w' => e = .returned (.agg #[.int .i64 3, .int .i64 0, .int .i64 0, .int .i64 0, .bool false, .string ⟨#[]⟩]) ∧ To b s (badURL ds).2 cv (op || (badURL ds).1) w0 w' :=
  (badURL_any h.lx).mono fun _ _ k => ⟨k.1, h.then k.2⟩
def urlBad (D : List Int) : Prop := pk D 0 = 34 ∨ pk D 0 = 39 ∨ pk D 0 = 40 ∨ unpr (pk D 0) ∨ (pk D 0 = 92 ∧ ¬ esc (pk D 0) (pk D 1))
instance (D : List Int) : Decidable (urlBad D) := by unfold urlBad; infer_instance
theorem url_unf (D : List Int) : url D = if pk D 0 = 41 then (37, [], false, D.tail) else if pk D 0 = -1 then (37, [], true, D) else if isSp (pk D 0) then
    (if pk (spaces D) 0 ≠ 41 ∧ pk (spaces D) 0 ≠ -1 then (3, [], (badURL (spaces D)).1, (badURL (spaces D)).2) else url (spaces D))
    else if urlBad D then (3, [], (badURL D).1, (badURL D).2)
    else if pk D 0 = 92 then ((url (escape D.tail).2.2).1, (if (url (escape D.tail).2.2).1 = 37 then (escape D.tail).1 :: (url (escape D.tail).2.2).2.1 else []), (escape D.tail).2.1 || (url (escape D.tail).2.2).2.2.1, (url (escape D.tail).2.2).2.2.2)
    else ((url D.tail).1, (if (url D.tail).1 = 37 then pk D 0 :: (url D.tail).2.1 else []), (url D.tail).2.2.1, (url D.tail).2.2.2) := by
  rw [url]; simp only [dite_eq_ite, urlBad]
structure UI (E : List Int) (op : Bool) (o D : List Int) (op' : Bool) : Prop where
  kind : (url D).1 = (url E).1
  text : (url E).2.1 = if (url E).1 = 37 then o ++ (url D).2.1 else []
  rest : (url D).2.2.2 = (url E).2.2.2
  opn : (op' || (url D).2.2.1) = (op || (url E).2.2.1)
  size : (enc o).length + 4 * D.length ≤ 4 * E.length
theorem UI.sum {E : List Int} {o D : List Int} {op' : Bool} (h : UI E op o D op') (hE : (E.length : Int) ≤ 140737488355328) (hpos : 0 < D.length) (c : Int) :
    (bsOf (enc o)).size + (bsOf (enc1 c)).size ≤ 1125899906842624 := by
  rw [bsOf_size, bsOf_size, enc1_length]
  have := (wd_pos c).2
  have := h.size
  omega
theorem UI.more {E : List Int} {o D : List Int} {op' : Bool} (h : UI E op o D op') {D' : List Int} {c : Int} {f : Bool}
    (hq : url D = ((url D').1, (if (url D').1 = 37 then c :: (url D').2.1 else []), f || (url D').2.2.1, (url D').2.2.2)) (hl : D'.length < D.length) : UI E op (o ++ [c]) D' (op' || f) := by
  refine ⟨?_, ?_, ?_, ?_, ?_⟩
  · rw [← h.kind, hq]
  · rw [h.text, hq]
    by_cases hk : (url E).1 = 37
    · have : (url D').1 = 37 := by rw [← hk, ← h.kind, hq]
      rw [if_pos hk, if_pos hk]; simp [this]
    · rw [if_neg hk, if_neg hk]
  · rw [← h.rest, hq]
  · rw [← h.opn, hq]; simp [Bool.or_assoc]
  · have := h.size
    rw [enc_snoc, List.length_append, enc1_length]
    have := (wd_pos c).2
    omega
theorem UI.skip {E : List Int} {o D : List Int} {op' : Bool} (h : UI E op o D op') {D' : List Int} (hq : url D = url D') (hl : D'.length ≤ D.length) : UI E op o D' op' := by
  refine ⟨?_, ?_, ?_, ?_, ?_⟩
  · rw [← h.kind, hq]
  · rw [h.text, hq]
  · rw [← h.rest, hq]
  · rw [← h.opn, hq]
  · have := h.size; omega
theorem UI.end_ {E : List Int} {o D : List Int} {op' : Bool} (h : UI E op o D op') {f : Bool} {r : List Int} (hq : url D = (37, [], f, r)) :
    url E = (37, o, (url E).2.2.1, r) ∧ (op' || f) = (op || (url E).2.2.1) := by
  have k1 := h.kind
  have k2 := h.text
  have k3 := h.rest
  have k4 := h.opn
  rw [hq] at k1 k2 k3 k4
  simp only [] at k1 k2 k3 k4
  rw [if_pos k1.symm, List.append_nil] at k2
  refine ⟨?_, k4⟩
  rw [k1, ← k2, k3]
theorem UI.bad {E : List Int} {o D : List Int} {op' : Bool} (h : UI E op o D op') {f : Bool} {r : List Int} (hq : url D = (3, [], f, r)) :
    url E = (3, [], (url E).2.2.1, r) ∧ (op' || f) = (op || (url E).2.2.1) := by
  have k1 := h.kind
  have k2 := h.text
  have k3 := h.rest
  have k4 := h.opn
  rw [hq] at k1 k2 k3 k4
  simp only [] at k1 k2 k3 k4
  rw [if_neg (by rw [← k1]; decide)] at k2
  refine ⟨?_, k4⟩
  rw [k1, k3]
  have e : url E = ((url E).1, (url E).2.1, (url E).2.2.1, (url E).2.2.2) := rfl
  rw [e, k2]
theorem url_text (ds : List Int) (h : ¬ (url ds).1 = 37) : (url ds).2.1 = [] := by
  fun_induction url ds with
  | case1 => exact absurd rfl h
  | case2 => exact absurd rfl h
  | case3 => rfl
  | case4 ds h1 h2 h3 h4 ih => exact ih h
  | case5 => rfl
  | case6 ds h1 h2 h3 h4 h5 r ih => simp only [] at h ⊢; rw [if_neg h]
  | case7 ds h1 h2 h3 h4 h5 r ih => simp only [] at h ⊢; rw [if_neg h]
def UR (b : Nat) (s : ByteArray) (E : List Int) (cv : Value) (op : Bool) (w : World) (e : Ending) (w' : World) : Prop :=
  e = .returned (tkV (url E).1 0 false (enc (url E).2.1)) ∧ To b s (url E).2.2.2 cv (op || (url E).2.2.1) w w'
set_option maxHeartbeats 6400000 in
set_option maxRecDepth 100000 in
theorem url_any (h : LX b s ds cv op w) : Calls Tryz.prog 95 #[.pointer (some ⟨b, 0, none⟩)] w (UR b s ds cv op w) := by
  have HL := Lib.hid h
  have hlt := h.lt
  have hE : (ds.length : Int) ≤ 140737488355328 := by have := suf_len h.suf; have := h.small; omega
  have HE := Lib.hid hE
  clear h hE
  rename World => w0
  have HT0 : Hid (To b s ds cv op (w0.alloc (.cells #[.int .i64 0, .int .i64 0, .int .i64 0, .int .i64 0, .bool false, .string ⟨#[]⟩] 62)) (w0.alloc (.cells #[.int .i64 0, .int .i64 0, .int .i64 0, .int .i64 0, .bool false, .string ⟨#[]⟩] 62))) := To.start HL.out _
  go_enter Tryz.func95, Tryz.ntmps95
  go_wp2_with fail
  go_loopg [3] ds.length (fun k p3 wr => ∃ (o D : List Int) (op' : Bool), p3 = .string (bsOf (enc o)) ∧ D.length = k ∧ Hid (UI ds op o D op') ∧ Hid (To b s D cv op' (w0.alloc (.cells #[.int .i64 0, .int .i64 0, .int .i64 0, .int .i64 0, .bool false, .string ⟨#[]⟩] 62)) wr))
  case atStart => exact ⟨[], ds, op, rfl, rfl, ⟨rfl, by split; rfl; exact url_text ds (by assumption), rfl, rfl, by simp⟩, HT0.out⟩
  case round =>
    obtain ⟨o, D, op', rfl, hD, HI, HT⟩ := hrel
    clear HT0
    have hto := HT.out
    have HR := Lib.hid (suf_rng hto.lx.suf)
    have HU := Lib.hid (url_unf D)
    cases k1 : (pk D 0 == 41)
    · have n1 : ¬ pk D 0 = 41 := by simpa using k1
      cases k2 : (pk D 0 == -1)
      · have n2 : ¬ pk D 0 = -1 := by simpa using k2
        have HLT := Lib.hid (pk_lt n2)
        have HPOS := Lib.hid (len_of_pk n2)
        cases k3 : spQ (pk D 0)
        · have n3 : ¬ isSp (pk D 0) := by intro hx; rw [spQ_iff.2 hx] at k3; cases k3
          have N0 := Lib.hid k3
          clear k3
          have HBAD : Hid (urlBad D → url D = (3, [], (badURL D).1, (badURL D).2)) := fun hx => by rw [HU.out, if_neg n1, if_neg n2, if_neg n3, if_pos hx]
          have HGO : Hid (¬ urlBad D → url D = if pk D 0 = 92 then ((url (escape D.tail).2.2).1, (if (url (escape D.tail).2.2).1 = 37 then (escape D.tail).1 :: (url (escape D.tail).2.2).2.1 else []), (escape D.tail).2.1 || (url (escape D.tail).2.2).2.2.1, (url (escape D.tail).2.2).2.2.2)
    else ((url D.tail).1, (if (url D.tail).1 = 37 then pk D 0 :: (url D.tail).2.1 else []), (url D.tail).2.2.1, (url D.tail).2.2.2)) := fun hx => by rw [HU.out, if_neg n1, if_neg n2, if_neg n3, if_neg hx]
          clear n1 n2 n3
          have hways : ((pk D 0 == 34) = true ∧ Hid (urlBad D)) ∨ ((pk D 0 == 34) = false ∧ (pk D 0 == 39) = true ∧ Hid (urlBad D)) ∨ ((pk D 0 == 34) = false ∧ (pk D 0 == 39) = false ∧ (pk D 0 == 40) = true ∧ Hid (urlBad D)) ∨ ((pk D 0 == 34) = false ∧ (pk D 0 == 39) = false ∧ (pk D 0 == 40) = false ∧ Hid (upQ (pk D 0) = true) ∧ Hid (urlBad D)) ∨
              ((pk D 0 == 34) = false ∧ (pk D 0 == 39) = false ∧ (pk D 0 == 40) = false ∧ (pk D 0 == 92) = true ∧ Hid (upQ (pk D 0) = false) ∧ Hid (esQ (pk D 0) (pk D 1) = false) ∧ Hid (urlBad D)) ∨
              ((pk D 0 == 34) = false ∧ (pk D 0 == 39) = false ∧ (pk D 0 == 40) = false ∧ (pk D 0 == 92) = true ∧ Hid (upQ (pk D 0) = false) ∧ Hid (esQ (pk D 0) (pk D 1) = true) ∧ Hid (¬ urlBad D ∧ pk D 0 = 92)) ∨
              ((pk D 0 == 34) = false ∧ (pk D 0 == 39) = false ∧ (pk D 0 == 40) = false ∧ (pk D 0 == 92) = false ∧ Hid (upQ (pk D 0) = false) ∧ Hid (¬ urlBad D ∧ ¬ pk D 0 = 92)) := by
            have hid : ∀ p : Prop, Hid p = p := fun _ => rfl
            simp only [beq_iff_eq, beq_eq_false_iff_ne, hid]
            have eu : upQ (pk D 0) = false ↔ ¬ unpr (pk D 0) := by rw [← upQ_iff]; simp
            have ee : esQ (pk D 0) (pk D 1) = false ↔ ¬ esc (pk D 0) (pk D 1) := by rw [← esQ_iff]; simp
            rw [upQ_iff, esQ_iff, eu, ee]
            unfold urlBad
            by_cases c1 : pk D 0 = 34
            · left; exact ⟨c1, .inl c1⟩
            by_cases c2 : pk D 0 = 39
            · right; left; exact ⟨c1, c2, .inr (.inl c2)⟩
            by_cases c3 : pk D 0 = 40
            · right; right; left; exact ⟨c1, c2, c3, .inr (.inr (.inl c3))⟩
            by_cases c4 : unpr (pk D 0)
            · right; right; right; left; exact ⟨c1, c2, c3, c4, .inr (.inr (.inr (.inl c4)))⟩
            by_cases c5 : pk D 0 = 92
            · by_cases c6 : esc (pk D 0) (pk D 1)
              · right; right; right; right; right; left
                refine ⟨c1, c2, c3, c5, c4, c6, ?_, c5⟩
                rintro (h | h | h | h | h)
                · exact c1 h
                · exact c2 h
                · exact c3 h
                · exact c4 h
                · exact h.2 c6
              · right; right; right; right; left; exact ⟨c1, c2, c3, c5, c4, c6, .inr (.inr (.inr (.inr ⟨c5, c6⟩)))⟩
            · right; right; right; right; right; right
              refine ⟨c1, c2, c3, c5, c4, ?_, c5⟩
              rintro (h | h | h | h | h)
              · exact c1 h
              · exact c2 h
              · exact c3 h
              · exact c4 h
              · exact c5 h.1
          rcases hways with ⟨q1, HX⟩ | ⟨q1, q2, HX⟩ | ⟨q1, q2, q3, HX⟩ | ⟨q1, q2, q3, NU, HX⟩ | ⟨q1, q2, q3, q4, NU, NE, HX⟩ | ⟨q1, q2, q3, q4, NU, NE, HX⟩ | ⟨q1, q2, q3, q4, NU, HX⟩
          · go_wp2_with (first | (go_at_call 59; go_must ((first | (with_reducible refine (peekT0 (by assumption)).mono ?_) | (with_reducible refine (peekT1 (by assumption)).mono ?_) | (with_reducible refine (peekT2 (by assumption)).mono ?_)); rintro e w1 ⟨rfl, rfl⟩)) | (go_at_call 64; go_must (refine (sp_any _ _).mono ?_; rintro e w1 ⟨rfl, rfl⟩; rw [N0.out])))
            refine (badURLT (by assumption)).mono ?_
            rintro e w1 ⟨rfl, hto1⟩
            have hres := hto1.res hlt
            have r0 := cell_blk hres 0
            have r1 := cell_blk hres 1
            have r2 := cell_blk hres 2
            have r3 := cell_blk hres 3
            have r4 := cell_blk hres 4
            have r5 := cell_blk hres 5
            have g0 := frozen_blk hres 0
            have g1 := frozen_blk hres 1
            have g2 := frozen_blk hres 2
            have g3 := frozen_blk hres 3
            have g4 := frozen_blk hres 4
            have g5 := frozen_blk hres 5
            clear hres
            go_wp2_with fail
            refine bodyPost_ret (v := tkV 3 0 false []) (by simp [results, Tryz.results95, go_sem, tkV, bsOf, r0, r1, r2, r3, r4, r5]) rfl ?_
            have hx := HI.out.bad (HBAD.out HX.out)
            refine ⟨by rw [hx.1]; rfl, ?_⟩
            rw [← hx.2, hx.1]
            exact hto1.store6 hlt _ _ _ _ _ _
          · go_wp2_with (first | (go_at_call 59; go_must ((first | (with_reducible refine (peekT0 (by assumption)).mono ?_) | (with_reducible refine (peekT1 (by assumption)).mono ?_) | (with_reducible refine (peekT2 (by assumption)).mono ?_)); rintro e w1 ⟨rfl, rfl⟩)) | (go_at_call 64; go_must (refine (sp_any _ _).mono ?_; rintro e w1 ⟨rfl, rfl⟩; rw [N0.out])))
            refine (badURLT (by assumption)).mono ?_
            rintro e w1 ⟨rfl, hto1⟩
            have hres := hto1.res hlt
            have r0 := cell_blk hres 0
            have r1 := cell_blk hres 1
            have r2 := cell_blk hres 2
            have r3 := cell_blk hres 3
            have r4 := cell_blk hres 4
            have r5 := cell_blk hres 5
            have g0 := frozen_blk hres 0
            have g1 := frozen_blk hres 1
            have g2 := frozen_blk hres 2
            have g3 := frozen_blk hres 3
            have g4 := frozen_blk hres 4
            have g5 := frozen_blk hres 5
            clear hres
            go_wp2_with fail
            refine bodyPost_ret (v := tkV 3 0 false []) (by simp [results, Tryz.results95, go_sem, tkV, bsOf, r0, r1, r2, r3, r4, r5]) rfl ?_
            have hx := HI.out.bad (HBAD.out HX.out)
            refine ⟨by rw [hx.1]; rfl, ?_⟩
            rw [← hx.2, hx.1]
            exact hto1.store6 hlt _ _ _ _ _ _
          · go_wp2_with (first | (go_at_call 59; go_must ((first | (with_reducible refine (peekT0 (by assumption)).mono ?_) | (with_reducible refine (peekT1 (by assumption)).mono ?_) | (with_reducible refine (peekT2 (by assumption)).mono ?_)); rintro e w1 ⟨rfl, rfl⟩)) | (go_at_call 64; go_must (refine (sp_any _ _).mono ?_; rintro e w1 ⟨rfl, rfl⟩; rw [N0.out])))
            refine (badURLT (by assumption)).mono ?_
            rintro e w1 ⟨rfl, hto1⟩
            have hres := hto1.res hlt
            have r0 := cell_blk hres 0
            have r1 := cell_blk hres 1
            have r2 := cell_blk hres 2
            have r3 := cell_blk hres 3
            have r4 := cell_blk hres 4
            have r5 := cell_blk hres 5
            have g0 := frozen_blk hres 0
            have g1 := frozen_blk hres 1
            have g2 := frozen_blk hres 2
            have g3 := frozen_blk hres 3
            have g4 := frozen_blk hres 4
            have g5 := frozen_blk hres 5
            clear hres
            go_wp2_with fail
            refine bodyPost_ret (v := tkV 3 0 false []) (by simp [results, Tryz.results95, go_sem, tkV, bsOf, r0, r1, r2, r3, r4, r5]) rfl ?_
            have hx := HI.out.bad (HBAD.out HX.out)
            refine ⟨by rw [hx.1]; rfl, ?_⟩
            rw [← hx.2, hx.1]
            exact hto1.store6 hlt _ _ _ _ _ _
          · go_wp2_with (first | (go_at_call 59; go_must ((first | (with_reducible refine (peekT0 (by assumption)).mono ?_) | (with_reducible refine (peekT1 (by assumption)).mono ?_) | (with_reducible refine (peekT2 (by assumption)).mono ?_)); rintro e w1 ⟨rfl, rfl⟩)) | (go_at_call 64; go_must (refine (sp_any _ _).mono ?_; rintro e w1 ⟨rfl, rfl⟩; rw [N0.out])) | (go_at_call 126; go_must (refine (up_any _ _).mono ?_; rintro e w1 ⟨rfl, rfl⟩; rw [NU.out])))
            refine (badURLT (by assumption)).mono ?_
            rintro e w1 ⟨rfl, hto1⟩
            have hres := hto1.res hlt
            have r0 := cell_blk hres 0
            have r1 := cell_blk hres 1
            have r2 := cell_blk hres 2
            have r3 := cell_blk hres 3
            have r4 := cell_blk hres 4
            have r5 := cell_blk hres 5
            have g0 := frozen_blk hres 0
            have g1 := frozen_blk hres 1
            have g2 := frozen_blk hres 2
            have g3 := frozen_blk hres 3
            have g4 := frozen_blk hres 4
            have g5 := frozen_blk hres 5
            clear hres
            go_wp2_with fail
            refine bodyPost_ret (v := tkV 3 0 false []) (by simp [results, Tryz.results95, go_sem, tkV, bsOf, r0, r1, r2, r3, r4, r5]) rfl ?_
            have hx := HI.out.bad (HBAD.out HX.out)
            refine ⟨by rw [hx.1]; rfl, ?_⟩
            rw [← hx.2, hx.1]
            exact hto1.store6 hlt _ _ _ _ _ _
          · go_wp2_with (first | (go_at_call 59; go_must ((first | (with_reducible refine (peekT0 (by assumption)).mono ?_) | (with_reducible refine (peekT1 (by assumption)).mono ?_) | (with_reducible refine (peekT2 (by assumption)).mono ?_)); rintro e w1 ⟨rfl, rfl⟩)) | (go_at_call 64; go_must (refine (sp_any _ _).mono ?_; rintro e w1 ⟨rfl, rfl⟩; rw [N0.out])) | (go_at_call 126; go_must (refine (up_any _ _).mono ?_; rintro e w1 ⟨rfl, rfl⟩; rw [NU.out])) | (go_at_call 62; go_must (refine (es_any _ _ _).mono ?_; rintro e w1 ⟨rfl, rfl⟩; rw [NE.out])))
            refine (badURLT (by assumption)).mono ?_
            rintro e w1 ⟨rfl, hto1⟩
            have hres := hto1.res hlt
            have r0 := cell_blk hres 0
            have r1 := cell_blk hres 1
            have r2 := cell_blk hres 2
            have r3 := cell_blk hres 3
            have r4 := cell_blk hres 4
            have r5 := cell_blk hres 5
            have g0 := frozen_blk hres 0
            have g1 := frozen_blk hres 1
            have g2 := frozen_blk hres 2
            have g3 := frozen_blk hres 3
            have g4 := frozen_blk hres 4
            have g5 := frozen_blk hres 5
            clear hres
            go_wp2_with fail
            refine bodyPost_ret (v := tkV 3 0 false []) (by simp [results, Tryz.results95, go_sem, tkV, bsOf, r0, r1, r2, r3, r4, r5]) rfl ?_
            have hx := HI.out.bad (HBAD.out HX.out)
            refine ⟨by rw [hx.1]; rfl, ?_⟩
            rw [← hx.2, hx.1]
            exact hto1.store6 hlt _ _ _ _ _ _
          · have HN : Hid (url D = ((url (escape D.tail).2.2).1, (if (url (escape D.tail).2.2).1 = 37 then (escape D.tail).1 :: (url (escape D.tail).2.2).2.1 else []), (escape D.tail).2.1 || (url (escape D.tail).2.2).2.2.1, (url (escape D.tail).2.2).2.2.2)) := by
              show _ = _; rw [HGO.out HX.out.1, if_pos HX.out.2]
            have HRR := Lib.hid (escape_rng (tail_rng HR.out))
            have hsum := HI.out.sum HE.out HPOS.out (escape D.tail).1
            go_wp2_with (first | (go_at_call 59; go_must ((first | (with_reducible refine (peekT0 (by assumption)).mono ?_) | (with_reducible refine (peekT1 (by assumption)).mono ?_) | (with_reducible refine (peekT2 (by assumption)).mono ?_)); rintro e w1 ⟨rfl, rfl⟩)) | (go_at_call 61; go_must (refine (takeT (by assumption)).mono ?_; rintro e w1 ⟨rfl, hto1⟩)) | (go_at_call 64; go_must (refine (sp_any _ _).mono ?_; rintro e w1 ⟨rfl, rfl⟩; rw [N0.out])) | (go_at_call 126; go_must (refine (up_any _ _).mono ?_; rintro e w1 ⟨rfl, rfl⟩; rw [NU.out])) | (go_at_call 62; go_must (refine (es_any _ _ _).mono ?_; rintro e w1 ⟨rfl, rfl⟩; rw [NE.out])) | (go_at_call 63; go_must (refine (escapeT (by assumption)).mono ?_; rintro e w1 ⟨rfl, hto2⟩)) | (go_at_call 60; go_must (refine (encodedT _ (by assumption) HRR.out).mono ?_; rintro e w1 ⟨rfl, hto3⟩)))
            go_roundg (escape D.tail).2.2.length
            case measure => have := escape_len D.tail; have := HLT.out; omega
            case rel => exact ⟨o ++ [(escape D.tail).1], (escape D.tail).2.2, op' || (escape D.tail).2.1, by rw [bsOf_app, ← enc_snoc], rfl, HI.out.more HN.out (Nat.lt_of_le_of_lt (escape_len D.tail) HLT.out), hto3⟩
          · have HN : Hid (url D = ((url D.tail).1, (if (url D.tail).1 = 37 then pk D 0 :: (url D.tail).2.1 else []), (false || (url D.tail).2.2.1), (url D.tail).2.2.2)) := by
              show _ = _; rw [HGO.out HX.out.1, if_neg HX.out.2, Bool.false_or]
            have HRR := Lib.hid (pk_rng HR.out 0)
            have hsum := HI.out.sum HE.out HPOS.out (pk D 0)
            go_wp2_with (first | (go_at_call 59; go_must ((first | (with_reducible refine (peekT0 (by assumption)).mono ?_) | (with_reducible refine (peekT1 (by assumption)).mono ?_) | (with_reducible refine (peekT2 (by assumption)).mono ?_)); rintro e w1 ⟨rfl, rfl⟩)) | (go_at_call 61; go_must (refine (takeT (by assumption)).mono ?_; rintro e w1 ⟨rfl, hto1⟩)) | (go_at_call 64; go_must (refine (sp_any _ _).mono ?_; rintro e w1 ⟨rfl, rfl⟩; rw [N0.out])) | (go_at_call 126; go_must (refine (up_any _ _).mono ?_; rintro e w1 ⟨rfl, rfl⟩; rw [NU.out])) | (go_at_call 60; go_must (refine (encodedT _ (by assumption) HRR.out).mono ?_; rintro e w1 ⟨rfl, hto2⟩)))
            go_roundg D.tail.length
            case measure => rw [← hD]; exact HLT.out
            case rel => exact ⟨o ++ [pk D 0], D.tail, op' || false, by rw [bsOf_app, ← enc_snoc], rfl, HI.out.more HN.out HLT.out, by rw [Bool.or_false]; exact hto2⟩
        · have n3 := spQ_iff.1 k3
          have N0 := Lib.hid k3
          clear k3
          have HSP : Hid (spaces D = spaces D.tail) := by
            show _ = _
            cases D with
            | nil => rfl
            | cons c t => rw [spaces, if_pos (by simpa using n3)]; rfl
          have HLS : Hid ((spaces D).length < D.length) := by
            show _ < _
            rw [HSP.out]
            have := spaces_len D.tail; have := HLT.out; omega
          have HS : Hid (url D = if pk (spaces D) 0 ≠ 41 ∧ pk (spaces D) 0 ≠ -1 then (3, [], (badURL (spaces D)).1, (badURL (spaces D)).2) else url (spaces D)) := by
            show _ = _; rw [HU.out, if_neg n1, if_neg n2, if_pos n3]
          clear n1 n2 n3 HSP
          have hways : ((pk (spaces D) 0 == 41) = true ∧ (pk (spaces D) 0 != 41) = false ∧ Hid (url D = url (spaces D))) ∨ ((pk (spaces D) 0 == 41) = false ∧ (pk (spaces D) 0 != 41) = true ∧ (pk (spaces D) 0 == -1) = true ∧ (pk (spaces D) 0 != -1) = false ∧ Hid (url D = url (spaces D))) ∨ ((pk (spaces D) 0 == 41) = false ∧ (pk (spaces D) 0 != 41) = true ∧ (pk (spaces D) 0 == -1) = false ∧ (pk (spaces D) 0 != -1) = true ∧ Hid (url D = (3, [], (badURL (spaces D)).1, (badURL (spaces D)).2))) := by
            have hid : ∀ p : Prop, Hid p = p := fun _ => rfl
            simp only [beq_iff_eq, beq_eq_false_iff_ne, bne_iff_ne, bne_eq_false_iff_eq, hid]
            rw [HS.out]
            by_cases c1 : pk (spaces D) 0 = 41
            · left; exact ⟨c1, c1, by rw [if_neg (fun hx => hx.1 c1)]⟩
            by_cases c2 : pk (spaces D) 0 = -1
            · right; left; exact ⟨c1, c1, c2, c2, by rw [if_neg (fun hx => hx.2 c2)]⟩
            · right; right; exact ⟨c1, c1, c2, c2, by rw [if_pos ⟨c1, c2⟩]⟩
          rcases hways with ⟨q1, q2, HN⟩ | ⟨q1, q2, q3, q4, HN⟩ | ⟨q1, q2, q3, q4, HN⟩
          · go_wp2_with (first | (go_at_call 59; go_must ((first | (with_reducible refine (peekT0 (by assumption)).mono ?_) | (with_reducible refine (peekT1 (by assumption)).mono ?_) | (with_reducible refine (peekT2 (by assumption)).mono ?_)); rintro e w1 ⟨rfl, rfl⟩)) | (go_at_call 65; go_must (refine (spacesT (by assumption)).mono ?_; rintro e w1 ⟨rfl, hto2⟩)) | (go_at_call 64; go_must (refine (sp_any _ _).mono ?_; rintro e w1 ⟨rfl, rfl⟩; rw [N0.out])))
            go_roundg (spaces D).length
            case measure => rw [← hD]; exact HLS.out
            case rel => exact ⟨o, spaces D, op', rfl, rfl, HI.out.skip HN.out (Nat.le_of_lt HLS.out), hto2⟩
          · go_wp2_with (first | (go_at_call 59; go_must ((first | (with_reducible refine (peekT0 (by assumption)).mono ?_) | (with_reducible refine (peekT1 (by assumption)).mono ?_) | (with_reducible refine (peekT2 (by assumption)).mono ?_)); rintro e w1 ⟨rfl, rfl⟩)) | (go_at_call 65; go_must (refine (spacesT (by assumption)).mono ?_; rintro e w1 ⟨rfl, hto2⟩)) | (go_at_call 64; go_must (refine (sp_any _ _).mono ?_; rintro e w1 ⟨rfl, rfl⟩; rw [N0.out])))
            go_roundg (spaces D).length
            case measure => rw [← hD]; exact HLS.out
            case rel => exact ⟨o, spaces D, op', rfl, rfl, HI.out.skip HN.out (Nat.le_of_lt HLS.out), hto2⟩
          · go_wp2_with (first | (go_at_call 59; go_must ((first | (with_reducible refine (peekT0 (by assumption)).mono ?_) | (with_reducible refine (peekT1 (by assumption)).mono ?_) | (with_reducible refine (peekT2 (by assumption)).mono ?_)); rintro e w1 ⟨rfl, rfl⟩)) | (go_at_call 65; go_must (refine (spacesT (by assumption)).mono ?_; rintro e w1 ⟨rfl, hto2⟩)) | (go_at_call 64; go_must (refine (sp_any _ _).mono ?_; rintro e w1 ⟨rfl, rfl⟩; rw [N0.out])))
            refine (badURLT (by assumption)).mono ?_
            rintro e w1 ⟨rfl, hto1⟩
            have hres := hto1.res hlt
            have r0 := cell_blk hres 0
            have r1 := cell_blk hres 1
            have r2 := cell_blk hres 2
            have r3 := cell_blk hres 3
            have r4 := cell_blk hres 4
            have r5 := cell_blk hres 5
            have g0 := frozen_blk hres 0
            have g1 := frozen_blk hres 1
            have g2 := frozen_blk hres 2
            have g3 := frozen_blk hres 3
            have g4 := frozen_blk hres 4
            have g5 := frozen_blk hres 5
            clear hres
            go_wp2_with fail
            refine bodyPost_ret (v := tkV 3 0 false []) (by simp [results, Tryz.results95, go_sem, tkV, bsOf, r0, r1, r2, r3, r4, r5]) rfl ?_
            have hx := HI.out.bad HN.out
            refine ⟨by rw [hx.1]; rfl, ?_⟩
            rw [← hx.2, hx.1]
            exact hto1.store6 hlt _ _ _ _ _ _
      · have n2 : pk D 0 = -1 := by simpa using k2
        have HN : Hid (url D = (37, [], true, D)) := by show _ = _; rw [HU.out, if_neg n1, if_pos n2]
        have HF := Lib.hid (HI.out.end_ HN.out)
        have hc3 := hto.lx.c3
        have hf3 := hto.lx.f 3
        have hto4 := hto.open_ true
        have hres := hto4.res hlt
        have r0 := cell_blk hres 0
        have r1 := cell_blk hres 1
        have r2 := cell_blk hres 2
        have r3 := cell_blk hres 3
        have r4 := cell_blk hres 4
        have r5 := cell_blk hres 5
        have g0 := frozen_blk hres 0
        have g1 := frozen_blk hres 1
        have g2 := frozen_blk hres 2
        have g3 := frozen_blk hres 3
        have g4 := frozen_blk hres 4
        have g5 := frozen_blk hres 5
        clear hres
        clear n1 n2
        go_wp2_with (first | (go_at_call 59; go_must ((first | (with_reducible refine (peekT0 (by assumption)).mono ?_) | (with_reducible refine (peekT1 (by assumption)).mono ?_) | (with_reducible refine (peekT2 (by assumption)).mono ?_)); rintro e w1 ⟨rfl, rfl⟩)))
        refine bodyPost_ret (v := tkV 37 0 false (enc o)) (by simp [results, Tryz.results95, go_sem, tkV, bsOf, r0, r1, r2, r3, r4, r5]) rfl ?_
        have hx := HF.out
        refine ⟨by rw [hx.1], ?_⟩
        rw [← hx.2, hx.1, Bool.or_true]
        exact hto4.store6 hlt _ _ _ _ _ _
    · have n1 : pk D 0 = 41 := by simpa using k1
      have HN : Hid (url D = (37, [], false, D.tail)) := by show _ = _; rw [HU.out, if_pos n1]
      have HF := Lib.hid (HI.out.end_ HN.out)
      clear n1
      go_wp2_with (first | (go_at_call 59; go_must ((first | (with_reducible refine (peekT0 (by assumption)).mono ?_) | (with_reducible refine (peekT1 (by assumption)).mono ?_) | (with_reducible refine (peekT2 (by assumption)).mono ?_)); rintro e w1 ⟨rfl, rfl⟩)))
      refine (takeT (by assumption)).mono ?_
      rintro e w1 ⟨rfl, hto1⟩
      have hres := hto1.res hlt
      have r0 := cell_blk hres 0
      have r1 := cell_blk hres 1
      have r2 := cell_blk hres 2
      have r3 := cell_blk hres 3
      have r4 := cell_blk hres 4
      have r5 := cell_blk hres 5
      have g0 := frozen_blk hres 0
      have g1 := frozen_blk hres 1
      have g2 := frozen_blk hres 2
      have g3 := frozen_blk hres 3
      have g4 := frozen_blk hres 4
      have g5 := frozen_blk hres 5
      clear hres
      go_wp2_with fail
      refine bodyPost_ret (v := tkV 37 0 false (enc o)) (by simp [results, Tryz.results95, go_sem, tkV, bsOf, r0, r1, r2, r3, r4, r5]) rfl ?_
      have hx := HF.out
      refine ⟨by rw [hx.1], ?_⟩
      rw [← hx.2, hx.1, Bool.or_false]
      exact hto1.store6 hlt _ _ _ _ _ _
end
end Go.Proofs.YtkfdcbdlcipmfaaGreatFmt
