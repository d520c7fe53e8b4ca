/- Walks: the reference's lexer: texts in quotes (printed by genS10.py). -/
import Derived.Test.YtkfdcbdlcipmfaaGreatFmtH25
set_option linter.unusedVariables false
set_option linter.unusedSimpArgs false
namespace Go.Proofs.YtkfdcbdlcipmfaaGreatFmt
open Go.RowKit Css
section
variable {b : Nat} {s : ByteArray} {ds : List Int} {cv : Value} {op : Bool} {w : World}
structure QI (b : Nat) (s : ByteArray) (q : Int) (E : List Int) (cv : Value) (op : Bool) (w0 : World) (o D : List Int) (op' : Bool) (wr : World) : Prop where
  kind : (quotedRun q D).1 = (quotedRun q E).1
  text : (quotedRun q E).2.1 = if (quotedRun q E).1 = 36 then o ++ (quotedRun q D).2.1 else []
  rest : (quotedRun q D).2.2.2 = (quotedRun q E).2.2.2
  opn : (op' || (quotedRun q D).2.2.1) = (op || (quotedRun q E).2.2.1)
  size : (enc o).length + 4 * D.length ≤ 4 * E.length
theorem QI.sum {q : Int} {E : List Int} {w0 : World} {o D : List Int} {op' : Bool} {wr : World} (h : QI b s q E cv op w0 o D op' wr) (hE : (E.length : Int) ≤ 140737488355328) (hpos : 0 < D.length) (c : Int) :
    (bsOf (enc o)).size + (bsOf (enc1 c)).size ≤ 1125899906842624 := by
  rw [bsOf_size, bsOf_size, enc1_length]
  have := (wd_pos c).2
  have := h.size
  omega
theorem tail_rng {ds : List Int} (h : ∀ c ∈ ds, Rng c) : ∀ c ∈ ds.tail, Rng c := fun c hc => h c (List.mem_of_mem_tail hc)
theorem pk_lt {ds : List Int} (h : ¬ pk ds 0 = -1) : ds.tail.length < ds.length := by
  have := len_of_pk h; have := List.length_tail (l := ds); omega
theorem quoted_unf (q : Int) (D : List Int) : quotedRun q D = if pk D 0 = q then (36, [], false, D.tail) else if pk D 0 = -1 then (36, [], true, D) else if isNl (pk D 0) then (2, [], false, D)
    else if pk D 0 = 92 ∧ pk D 1 = -1 then quotedRun q D.tail else if pk D 0 = 92 ∧ isNl (pk D 1) then quotedRun q (newline D.tail)
    else if pk D 0 = 92 then ((quotedRun q (escape D.tail).2.2).1, (if (quotedRun q (escape D.tail).2.2).1 = 36 then (escape D.tail).1 :: (quotedRun q (escape D.tail).2.2).2.1 else []), (escape D.tail).2.1 || (quotedRun q (escape D.tail).2.2).2.2.1, (quotedRun q (escape D.tail).2.2).2.2.2)
    else ((quotedRun q D.tail).1, (if (quotedRun q D.tail).1 = 36 then pk D 0 :: (quotedRun q D.tail).2.1 else []), (quotedRun q D.tail).2.2.1, (quotedRun q D.tail).2.2.2) := by
  rw [quotedRun]; simp only [dite_eq_ite]
theorem quoted_text (q : Int) (ds : List Int) (h : ¬ (quotedRun q ds).1 = 36) : (quotedRun q ds).2.1 = [] := by
  fun_induction quotedRun q ds with
  | case1 => exact absurd rfl h
  | case2 => exact absurd rfl h
  | case3 => rfl
  | case4 ds h1 h2 h3 h4 ih => exact ih h
  | case5 ds h1 h2 h3 h4 h5 ih => exact ih h
  | case6 ds h1 h2 h3 h4 h5 h6 r ih => simp only [] at h ⊢; rw [if_neg h]
  | case7 ds h1 h2 h3 h4 h5 h6 r ih => simp only [] at h ⊢; rw [if_neg h]
def QR (b : Nat) (s : ByteArray) (q : Int) (E : List Int) (cv : Value) (op : Bool) (w : World) (e : Ending) (w' : World) : Prop :=
  e = .returned (tkV (quotedRun q E).1 0 false (enc (quotedRun q E).2.1)) ∧ To b s (quotedRun q E).2.2.2 cv (op || (quotedRun q E).2.2.1) w w'
theorem QI.more {q : Int} {E : List Int} {w0 : World} {o D : List Int} {op' : Bool} {wr : World} (h : QI b s q E cv op w0 o D op' wr) {D' : List Int} {c : Int} {f : Bool}
    (hq : quotedRun q D = ((quotedRun q D').1, (if (quotedRun q D').1 = 36 then c :: (quotedRun q D').2.1 else []), f || (quotedRun q D').2.2.1, (quotedRun q D').2.2.2)) (hl : D'.length < D.length) (wr' : World) : QI b s q E cv op w0 (o ++ [c]) D' (op' || f) wr' := by
  refine ⟨?_, ?_, ?_, ?_, ?_⟩
  · rw [← h.kind, hq]
  · rw [h.text, hq]
    by_cases hk : (quotedRun q E).1 = 36
    · have : (quotedRun q D').1 = 36 := by rw [← hk, ← h.kind, hq]
      rw [if_pos hk, if_pos hk]; simp [this]
    · rw [if_neg hk, if_neg hk]
  · rw [← h.rest, hq]
  · rw [← h.opn, hq]; simp [Bool.or_assoc]
  · have := h.size
    rw [enc_snoc, List.length_append, enc1_length]
    have := (wd_pos c).2
    omega
theorem QI.skip {q : Int} {E : List Int} {w0 : World} {o D : List Int} {op' : Bool} {wr : World} (h : QI b s q E cv op w0 o D op' wr) {D' : List Int}
    (hq : quotedRun q D = quotedRun q D') (hl : D'.length < D.length) (wr' : World) : QI b s q E cv op w0 o D' op' wr' := by
  refine ⟨?_, ?_, ?_, ?_, ?_⟩
  · rw [← h.kind, hq]
  · rw [h.text, hq]
  · rw [← h.rest, hq]
  · rw [← h.opn, hq]
  · have := h.size; omega
theorem QI.end_ {q : Int} {E : List Int} {w0 : World} {o D : List Int} {op' : Bool} {wr : World} (h : QI b s q E cv op w0 o D op' wr) {f : Bool} {r : List Int} (hq : quotedRun q D = (36, [], f, r)) :
    quotedRun q E = (36, o, (quotedRun q E).2.2.1, r) ∧ (op' || f) = (op || (quotedRun q E).2.2.1) := by
  have k1 := h.kind
  have k2 := h.text
  have k3 := h.rest
  have k4 := h.opn
  rw [hq] at k1 k2 k3 k4
  simp only [] at k1 k2 k3 k4
  rw [if_pos k1.symm, List.append_nil] at k2
  refine ⟨?_, k4⟩
  rw [k1, ← k2, k3]
theorem QI.bad {q : Int} {E : List Int} {w0 : World} {o D : List Int} {op' : Bool} {wr : World} (h : QI b s q E cv op w0 o D op' wr) {r : List Int} (hq : quotedRun q D = (2, [], false, r)) :
    quotedRun q E = (2, [], (quotedRun q E).2.2.1, r) ∧ op' = (op || (quotedRun q E).2.2.1) := by
  have k1 := h.kind
  have k2 := h.text
  have k3 := h.rest
  have k4 := h.opn
  rw [hq] at k1 k2 k3 k4
  simp only [Bool.or_false] at k1 k2 k3 k4
  rw [if_neg (by rw [← k1]; decide)] at k2
  refine ⟨?_, k4⟩
  rw [k1, k3]
  have e : quotedRun q E = ((quotedRun q E).1, (quotedRun q E).2.1, (quotedRun q E).2.2.1, (quotedRun q E).2.2.2) := rfl
  rw [e, k2]
set_option maxHeartbeats 6400000 in
set_option maxRecDepth 100000 in
theorem quoted_any (h : LX b s ds cv op w) (q : Int) (hq : pk ds 0 = q) (hqv : q = 34 ∨ q = 39) : Calls Tryz.prog 66 #[.pointer (some ⟨b, 0, none⟩)] w (QR b s q ds.tail cv op w) := by
  have HL := Lib.hid h
  have hlt := h.lt
  have HQ := Lib.hid hq
  have HQV := Lib.hid hqv
  have hE : (ds.tail.length : Int) ≤ 140737488355328 := by have := suf_len h.suf.tail; have := h.small; omega
  have HE := Lib.hid hE
  clear h hq hE hqv
  rename World => w0
  have hto : To b s ds cv op (w0.alloc (.cells #[.int .i64 0, .int .i64 0, .int .i64 0, .int .i64 0, .bool false, .string ⟨#[]⟩] 62)) (w0.alloc (.cells #[.int .i64 0, .int .i64 0, .int .i64 0, .int .i64 0, .bool false, .string ⟨#[]⟩] 62)) := To.start HL.out _
  generalize hds : ds.tail = E at HE
  have HDS := Lib.hid hds
  clear hds
  go_enter Tryz.func66, Tryz.ntmps66
  go_wp2_with (go_at_call 61; go_must (refine (takeT (by assumption)).mono ?_; rintro e w1 ⟨rfl, hto1⟩))
  rw [HQ.out]
  rw [HDS.out] at hto1
  clear hto
  have HT1 := Lib.hid hto1
  clear hto1
  go_loopg [4] E.length (fun k p4 wr => ∃ (o D : List Int) (op' : Bool), p4 = .string (bsOf (enc o)) ∧ D.length = k ∧ Hid (QI b s q E cv op w0 o D op' wr) ∧ Hid (To b s D cv op' (w0.alloc (.cells #[.int .i64 0, .int .i64 0, .int .i64 0, .int .i64 0, .bool false, .string ⟨#[]⟩] 62)) wr))
  case atStart => exact ⟨[], E, op, rfl, rfl, ⟨rfl, by split; rfl; exact quoted_text q E (by assumption), rfl, rfl, by simp⟩, HT1.out⟩
  case round =>
    obtain ⟨o, D, op', rfl, hD, HI, HT⟩ := hrel
    clear HT1
    have hto := HT.out
    have HR := Lib.hid (suf_rng hto.lx.suf)
    have HU := Lib.hid (quoted_unf q D)
    cases k1 : (pk D 0 == q)
    · have n1 : ¬ pk D 0 = q := by simpa using k1
      cases k2 : (pk D 0 == -1)
      · have n2 : ¬ pk D 0 = -1 := by simpa using k2
        have HLT := Lib.hid (pk_lt n2)
        have HPOS := Lib.hid (len_of_pk n2)
        cases k3 : nlQ (pk D 0)
        · have n3 : ¬ isNl (pk D 0) := by intro hx; rw [nlQ_iff.2 hx] at k3; cases k3
          have N0 := Lib.hid k3
          clear k3
          cases k4 : (pk D 0 == 92)
          · have n4 : ¬ pk D 0 = 92 := by simpa using k4
            have HN : Hid (quotedRun q D = ((quotedRun q D.tail).1, (if (quotedRun q D.tail).1 = 36 then pk D 0 :: (quotedRun q D.tail).2.1 else []), (false || (quotedRun q D.tail).2.2.1), (quotedRun q D.tail).2.2.2)) := by
              show _ = _; rw [HU.out, if_neg n1, if_neg n2, if_neg n3, if_neg (fun hx => n4 hx.1), if_neg (fun hx => n4 hx.1), if_neg n4, Bool.false_or]
            have N1 := True.intro
            have hr := pk_rng HR.out 0
            have HRR := Lib.hid hr
            have hsum := HI.out.sum HE.out HPOS.out (pk D 0)
            clear n1 n2 n3 n4 hr
            go_wp2_with (first | (go_at_call 59; go_must ((first | (with_reducible refine (peekT0 (by assumption)).mono ?_) | (with_reducible refine (peekT1 (by assumption)).mono ?_) | (with_reducible refine (peekT2 (by assumption)).mono ?_)); rintro e w1 ⟨rfl, rfl⟩)) | (go_at_call 61; go_must (refine (takeT (by assumption)).mono ?_; rintro e w1 ⟨rfl, hto1⟩)) | (go_at_call 91; go_must (refine (nl_any _ _).mono ?_; rintro e w1 ⟨rfl, rfl⟩; rw [N0.out])) | (go_at_call 60; go_must (refine (encodedT _ (by assumption) HRR.out).mono ?_; rintro e w1 ⟨rfl, hto2⟩)))
            go_roundg D.tail.length
            case measure => rw [← hD]; exact HLT.out
            case rel => exact ⟨o ++ [pk D 0], D.tail, op' || false, by rw [bsOf_app, ← enc_snoc], rfl, HI.out.more HN.out HLT.out _, by rw [Bool.or_false]; exact hto2⟩
          · have n4 : pk D 0 = 92 := by simpa using k4
            have hD0 : pk D 1 = pk D.tail 0 := (pk_tail D 0).symm
            cases k5 : (pk D 1 == -1)
            · have n5 : ¬ pk D 1 = -1 := by simpa using k5
              cases k6 : nlQ (pk D 1)
              · have n6 : ¬ isNl (pk D 1) := by intro hx; rw [nlQ_iff.2 hx] at k6; cases k6
                have N1 := Lib.hid k6
                clear k6
                have HN : Hid (quotedRun q D = ((quotedRun q (escape D.tail).2.2).1, (if (quotedRun q (escape D.tail).2.2).1 = 36 then (escape D.tail).1 :: (quotedRun q (escape D.tail).2.2).2.1 else []), (escape D.tail).2.1 || (quotedRun q (escape D.tail).2.2).2.2.1, (quotedRun q (escape D.tail).2.2).2.2.2)) := by
                  show _ = _; rw [HU.out, if_neg n1, if_neg n2, if_neg n3, if_neg (fun hx => n5 hx.2), if_neg (fun hx => n6 hx.2), if_pos n4]
                have hr := escape_rng (tail_rng HR.out)
                have HRR := Lib.hid hr
                have hsum := HI.out.sum HE.out HPOS.out (escape D.tail).1
                clear n1 n2 n3 n4 n5 n6 hr hD0
                go_wp2_with (first | (go_at_call 59; go_must ((first | (with_reducible refine (peekT0 (by assumption)).mono ?_) | (with_reducible refine (peekT1 (by assumption)).mono ?_) | (with_reducible refine (peekT2 (by assumption)).mono ?_)); rintro e w1 ⟨rfl, rfl⟩)) | (go_at_call 61; go_must (refine (takeT (by assumption)).mono ?_; rintro e w1 ⟨rfl, hto1⟩)) | (go_at_call 91; go_must ((first | ((with_reducible refine (nl_any (pk D 0) _).mono ?_); rintro e w1 ⟨rfl, rfl⟩; rw [N0.out]) | ((with_reducible refine (nl_any (pk D 1) _).mono ?_); rintro e w1 ⟨rfl, rfl⟩; rw [N1.out])))) | (go_at_call 63; go_must (refine (escapeT (by assumption)).mono ?_; rintro e w1 ⟨rfl, hto2⟩)) | (go_at_call 60; go_must (refine (encodedT _ (by assumption) HRR.out).mono ?_; rintro e w1 ⟨rfl, hto3⟩)))
                go_roundg (escape D.tail).2.2.length
                case measure => have := escape_len D.tail; have := HLT.out; omega
                case rel => exact ⟨o ++ [(escape D.tail).1], (escape D.tail).2.2, op' || (escape D.tail).2.1, by rw [bsOf_app, ← enc_snoc], rfl, HI.out.more HN.out (Nat.lt_of_le_of_lt (escape_len D.tail) HLT.out) _, hto3⟩
              · have n6 := nlQ_iff.1 k6
                have N1 := Lib.hid k6
                clear k6
                have HN : Hid (quotedRun q D = quotedRun q (newline D.tail)) := by
                  show _ = _; rw [HU.out, if_neg n1, if_neg n2, if_neg n3, if_neg (fun hx => n5 hx.2), if_pos ⟨n4, n6⟩]
                clear n1 n2 n3 n4 n5 n6 hD0
                go_wp2_with (first | (go_at_call 59; go_must ((first | (with_reducible refine (peekT0 (by assumption)).mono ?_) | (with_reducible refine (peekT1 (by assumption)).mono ?_) | (with_reducible refine (peekT2 (by assumption)).mono ?_)); rintro e w1 ⟨rfl, rfl⟩)) | (go_at_call 61; go_must (refine (takeT (by assumption)).mono ?_; rintro e w1 ⟨rfl, hto1⟩)) | (go_at_call 91; go_must ((first | ((with_reducible refine (nl_any (pk D 0) _).mono ?_); rintro e w1 ⟨rfl, rfl⟩; rw [N0.out]) | ((with_reducible refine (nl_any (pk D 1) _).mono ?_); rintro e w1 ⟨rfl, rfl⟩; rw [N1.out])))) | (go_at_call 93; go_must (refine (newlineT (by assumption)).mono ?_; rintro e w1 ⟨rfl, hto2⟩)))
                go_roundg (newline D.tail).length
                case measure => have := newline_len D.tail; have := HLT.out; omega
                case rel => exact ⟨o, newline D.tail, op', rfl, rfl, HI.out.skip HN.out (by have := newline_len D.tail; have := HLT.out; omega) _, hto2⟩
            · have n5 : pk D 1 = -1 := by simpa using k5
              have HN : Hid (quotedRun q D = quotedRun q D.tail) := by
                show _ = _; rw [HU.out, if_neg n1, if_neg n2, if_neg n3, if_pos ⟨n4, n5⟩]
              have N1 := True.intro
              clear n1 n2 n3 n4 n5 hD0
              go_wp2_with (first | (go_at_call 59; go_must ((first | (with_reducible refine (peekT0 (by assumption)).mono ?_) | (with_reducible refine (peekT1 (by assumption)).mono ?_) | (with_reducible refine (peekT2 (by assumption)).mono ?_)); rintro e w1 ⟨rfl, rfl⟩)) | (go_at_call 61; go_must (refine (takeT (by assumption)).mono ?_; rintro e w1 ⟨rfl, hto1⟩)) | (go_at_call 91; go_must (refine (nl_any _ _).mono ?_; rintro e w1 ⟨rfl, rfl⟩; rw [N0.out])))
              go_roundg D.tail.length
              case measure => have := HLT.out; omega
              case rel => exact ⟨o, D.tail, op', rfl, rfl, HI.out.skip HN.out HLT.out _, hto1⟩
        · have n3 := nlQ_iff.1 k3
          have N0 := Lib.hid k3
          clear k3
          have HN : Hid (quotedRun q D = (2, [], false, D)) := by show _ = _; rw [HU.out, if_neg n1, if_neg n2, if_pos n3]
          have HF := Lib.hid (HI.out.bad HN.out)
          have hres := hto.res hlt
          have r0 := cell_blk hres 0
          have r1 := cell_blk hres 1
          have r2 := cell_blk hres 2
          have r3 := cell_blk hres 3
          have r4 := cell_blk hres 4
          have r5 := cell_blk hres 5
          have g0 := frozen_blk hres 0
          have g1 := frozen_blk hres 1
          have g2 := frozen_blk hres 2
          have g3 := frozen_blk hres 3
          have g4 := frozen_blk hres 4
          have g5 := frozen_blk hres 5
          clear hres
          clear n1 n2 n3
          go_wp2_with (first | (go_at_call 59; go_must ((first | (with_reducible refine (peekT0 (by assumption)).mono ?_) | (with_reducible refine (peekT1 (by assumption)).mono ?_) | (with_reducible refine (peekT2 (by assumption)).mono ?_)); rintro e w1 ⟨rfl, rfl⟩)) | (go_at_call 91; go_must (refine (nl_any _ _).mono ?_; rintro e w1 ⟨rfl, rfl⟩; rw [N0.out])))
          refine bodyPost_ret (v := tkV 2 0 false []) (by simp [results, Tryz.results66, go_sem, tkV, bsOf, r0, r1, r2, r3, r4, r5]) rfl ?_
          have hx := HF.out
          refine ⟨by rw [hx.1]; rfl, ?_⟩
          rw [← hx.2, hx.1]
          exact hto.store6 hlt _ _ _ _ _ _
      · have n2 : pk D 0 = -1 := by simpa using k2
        have HN : Hid (quotedRun q D = (36, [], true, D)) := by show _ = _; rw [HU.out, if_neg n1, if_pos n2]
        have HF := Lib.hid (HI.out.end_ HN.out)
        have hc3 := hto.lx.c3
        have hf3 := hto.lx.f 3
        have hto4 := hto.open_ true
        have hres := hto4.res hlt
        have r0 := cell_blk hres 0
        have r1 := cell_blk hres 1
        have r2 := cell_blk hres 2
        have r3 := cell_blk hres 3
        have r4 := cell_blk hres 4
        have r5 := cell_blk hres 5
        have g0 := frozen_blk hres 0
        have g1 := frozen_blk hres 1
        have g2 := frozen_blk hres 2
        have g3 := frozen_blk hres 3
        have g4 := frozen_blk hres 4
        have g5 := frozen_blk hres 5
        clear hres
        clear n1 n2
        go_wp2_with (first | (go_at_call 59; go_must ((first | (with_reducible refine (peekT0 (by assumption)).mono ?_) | (with_reducible refine (peekT1 (by assumption)).mono ?_) | (with_reducible refine (peekT2 (by assumption)).mono ?_)); rintro e w1 ⟨rfl, rfl⟩)))
        refine bodyPost_ret (v := tkV 36 0 false (enc o)) (by simp [results, Tryz.results66, go_sem, tkV, bsOf, r0, r1, r2, r3, r4, r5]) rfl ?_
        have hx := HF.out
        refine ⟨by rw [hx.1], ?_⟩
        rw [← hx.2, hx.1, Bool.or_true]
        exact hto4.store6 hlt _ _ _ _ _ _
    · have n1 : pk D 0 = q := by simpa using k1
      have HN : Hid (quotedRun q D = (36, [], false, D.tail)) := by show _ = _; rw [HU.out, if_pos n1]
      have HF := Lib.hid (HI.out.end_ HN.out)
      clear n1
      go_wp2_with (first | (go_at_call 59; go_must ((first | (with_reducible refine (peekT0 (by assumption)).mono ?_) | (with_reducible refine (peekT1 (by assumption)).mono ?_) | (with_reducible refine (peekT2 (by assumption)).mono ?_)); rintro e w1 ⟨rfl, rfl⟩)))
      refine (takeT (by assumption)).mono ?_
      rintro e w1 ⟨rfl, hto1⟩
      have hres := hto1.res hlt
      have r0 := cell_blk hres 0
      have r1 := cell_blk hres 1
      have r2 := cell_blk hres 2
      have r3 := cell_blk hres 3
      have r4 := cell_blk hres 4
      have r5 := cell_blk hres 5
      have g0 := frozen_blk hres 0
      have g1 := frozen_blk hres 1
      have g2 := frozen_blk hres 2
      have g3 := frozen_blk hres 3
      have g4 := frozen_blk hres 4
      have g5 := frozen_blk hres 5
      clear hres
      go_wp2_with fail
      refine bodyPost_ret (v := tkV 36 0 false (enc o)) (by simp [results, Tryz.results66, go_sem, tkV, bsOf, r0, r1, r2, r3, r4, r5]) rfl ?_
      have hx := HF.out
      refine ⟨by rw [hx.1], ?_⟩
      rw [← hx.2, hx.1, Bool.or_false]
      exact hto1.store6 hlt _ _ _ _ _ _
end
end Go.Proofs.YtkfdcbdlcipmfaaGreatFmt
