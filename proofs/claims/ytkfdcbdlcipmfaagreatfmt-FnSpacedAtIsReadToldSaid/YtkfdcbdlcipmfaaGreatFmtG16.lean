/- Walks: the reference's lexer: texts in quotes (printed by genS10.py). -/
import Derived.Test.YtkfdcbdlcipmfaaGreatFmtG15
import Derived.Deep.Light
set_option linter.unusedVariables false
set_option linter.unusedSimpArgs false
namespace Go.Proofs.YtkfdcbdlcipmfaaGreatFmt
open Go.RowKit Css
section
variable {b : Nat} {s : ByteArray} {ds : List Int} {cv : Value} {op : Bool} {w : World}
structure QI (b : Nat) (s : ByteArray) (q : Int) (E : List Int) (cv : Value) (op : Bool) (w0 : World) (o D : List Int) (op' : Bool) (wr : World) : Prop where
  kind : (quotedRun q D).1 = (quotedRun q E).1
  text : (quotedRun q E).2.1 = if (quotedRun q E).1 = 36 then o ++ (quotedRun q D).2.1 else []
  rest : (quotedRun q D).2.2.2 = (quotedRun q E).2.2.2
  opn : (op' || (quotedRun q D).2.2.1) = (op || (quotedRun q E).2.2.1)
  size : (enc o).length + 4 * D.length ≤ 4 * E.length
theorem QI.sum {q : Int} {E : List Int} {w0 : World} {o D : List Int} {op' : Bool} {wr : World} (h : QI b s q E cv op w0 o D op' wr) (hE : (E.length : Int) ≤ 140737488355328) (hpos : 0 < D.length) (c : Int) :
    (bsOf (enc o)).size + (bsOf (enc1 c)).size ≤ 1125899906842624 := by
  rw [bsOf_size, bsOf_size, enc1_length]
  have := (wd_pos c).2
  have := h.size
  omega
theorem tail_rng {ds : List Int} (h : ∀ c ∈ ds, Rng c) : ∀ c ∈ ds.tail, Rng c := fun c hc => h c (List.mem_of_mem_tail hc)
theorem pk_lt {ds : List Int} (h : ¬ pk ds 0 = -1) : ds.tail.length < ds.length := by
  have := len_of_pk h; have := List.length_tail (l := ds); omega
theorem quoted_unf (q : Int) (D : List Int) : quotedRun q D = if pk D 0 = q then (36, [], false, D.tail) else if pk D 0 = -1 then (36, [], true, D) else if isNl (pk D 0) then (2, [], false, D)
    else if pk D 0 = 92 ∧ pk D 1 = -1 then quotedRun q D.tail else if pk D 0 = 92 ∧ isNl (pk D 1) then quotedRun q (newline D.tail)
    else if pk D 0 = 92 then ((quotedRun q (escape D.tail).2.2).1, (if (quotedRun q (escape D.tail).2.2).1 = 36 then (escape D.tail).1 :: (quotedRun q (escape D.tail).2.2).2.1 else []), (escape D.tail).2.1 || (quotedRun q (escape D.tail).2.2).2.2.1, (quotedRun q (escape D.tail).2.2).2.2.2)
    else ((quotedRun q D.tail).1, (if (quotedRun q D.tail).1 = 36 then pk D 0 :: (quotedRun q D.tail).2.1 else []), (quotedRun q D.tail).2.2.1, (quotedRun q D.tail).2.2.2) := by
  rw [quotedRun]; simp only [dite_eq_ite]
theorem quoted_text (q : Int) (ds : List Int) (h : ¬ (quotedRun q ds).1 = 36) : (quotedRun q ds).2.1 = [] := by
  fun_induction quotedRun q ds with
  | case1 => exact absurd rfl h
  | case2 => exact absurd rfl h
  | case3 => rfl
  | case4 ds h1 h2 h3 h4 ih => exact ih h
  | case5 ds h1 h2 h3 h4 h5 ih => exact ih h
  | case6 ds h1 h2 h3 h4 h5 h6 r ih => simp only [] at h ⊢; rw [if_neg h]
  | case7 ds h1 h2 h3 h4 h5 h6 r ih => simp only [] at h ⊢; rw [if_neg h]
def QR (b : Nat) (s : ByteArray) (q : Int) (E : List Int) (cv : Value) (op : Bool) (w : World) (e : Ending) (w' : World) : Prop :=
  e = .returned (tkV (quotedRun q E).1 0 false (enc (quotedRun q E).2.1)) ∧ To b s (quotedRun q E).2.2.2 cv (op || (quotedRun q E).2.2.1) w w'
theorem QI.more {q : Int} {E : List Int} {w0 : World} {o D : List Int} {op' : Bool} {wr : World} (h : QI b s q E cv op w0 o D op' wr) {D' : List Int} {c : Int} {f : Bool}
    (hq : quotedRun q D = ((quotedRun q D').1, (if (quotedRun q D').1 = 36 then c :: (quotedRun q D').2.1 else []), f || (quotedRun q D').2.2.1, (quotedRun q D').2.2.2)) (hl : D'.length < D.length) (wr' : World) : QI b s q E cv op w0 (o ++ [c]) D' (op' || f) wr' := by
  refine ⟨?_, ?_, ?_, ?_, ?_⟩
  · rw [← h.kind, hq]
  · rw [h.text, hq]
    by_cases hk : (quotedRun q E).1 = 36
    · have : (quotedRun q D').1 = 36 := by rw [← hk, ← h.kind, hq]
      rw [if_pos hk, if_pos hk]; simp [this]
    · rw [if_neg hk, if_neg hk]
  · rw [← h.rest, hq]
  · rw [← h.opn, hq]; simp [Bool.or_assoc]
  · have := h.size
    rw [enc_snoc, List.length_append, enc1_length]
    have := (wd_pos c).2
    omega
theorem QI.skip {q : Int} {E : List Int} {w0 : World} {o D : List Int} {op' : Bool} {wr : World} (h : QI b s q E cv op w0 o D op' wr) {D' : List Int}
    (hq : quotedRun q D = quotedRun q D') (hl : D'.length < D.length) (wr' : World) : QI b s q E cv op w0 o D' op' wr' := by
  refine ⟨?_, ?_, ?_, ?_, ?_⟩
  · rw [← h.kind, hq]
  · rw [h.text, hq]
  · rw [← h.rest, hq]
  · rw [← h.opn, hq]
  · have := h.size; omega
theorem QI.end_ {q : Int} {E : List Int} {w0 : World} {o D : List Int} {op' : Bool} {wr : World} (h : QI b s q E cv op w0 o D op' wr) {f : Bool} {r : List Int} (hq : quotedRun q D = (36, [], f, r)) :
    quotedRun q E = (36, o, (quotedRun q E).2.2.1, r) ∧ (op' || f) = (op || (quotedRun q E).2.2.1) := by
  have k1 := h.kind
  have k2 := h.text
  have k3 := h.rest
  have k4 := h.opn
  rw [hq] at k1 k2 k3 k4
  simp only [] at k1 k2 k3 k4
  rw [if_pos k1.symm, List.append_nil] at k2
  refine ⟨?_, k4⟩
  rw [k1, ← k2, k3]
theorem QI.bad {q : Int} {E : List Int} {w0 : World} {o D : List Int} {op' : Bool} {wr : World} (h : QI b s q E cv op w0 o D op' wr) {r : List Int} (hq : quotedRun q D = (2, [], false, r)) :
    quotedRun q E = (2, [], (quotedRun q E).2.2.1, r) ∧ op' = (op || (quotedRun q E).2.2.1) := by
  have k1 := h.kind
  have k2 := h.text
  have k3 := h.rest
  have k4 := h.opn
  rw [hq] at k1 k2 k3 k4
  simp only [Bool.or_false] at k1 k2 k3 k4
  rw [if_neg (by rw [← k1]; decide)] at k2
  refine ⟨?_, k4⟩
  rw [k1, k3]
  have e : quotedRun q E = ((quotedRun q E).1, (quotedRun q E).2.1, (quotedRun q E).2.2.1, (quotedRun q E).2.2.2) := rfl
  rw [e, k2]
set_option maxHeartbeats 6400000 in
set_option maxRecDepth 100000 in
theorem quoted_any (h : LX b s ds cv op w) (q : Int) (hq : pk ds 0 = q) (hqv : q = 34 ∨ q = 39) : Calls Tryz.prog 66 #[.pointer (some ⟨b, 0, none⟩)] w (QR b s q ds.tail cv op w) := by
  have HL := Lib.hid h
  have hlt := h.lt
  have HQ := Lib.hid hq
  have HQV := Lib.hid hqv
  have hE : (ds.tail.length : Int) ≤ 140737488355328 := by have := suf_len h.suf.tail; have := h.small; omega
  have HE := Lib.hid hE
  clear h hq hE hqv
  rename World => w0
  have hto : To b s ds cv op (w0.alloc (.cells #[.int .i64 0, .int .i64 0, .int .i64 0, .int .i64 0, .bool false, .string ⟨#[]⟩] 62)) (w0.alloc (.cells #[.int .i64 0, .int .i64 0, .int .i64 0, .int .i64 0, .bool false, .string ⟨#[]⟩] 62)) := To.start HL.out _
  generalize hds : ds.tail = E at HE
  have HDS := Lib.hid hds
  clear hds
  go_enter Tryz.func66, Tryz.ntmps66
  go_wp2_with (go_at_call 61; go_must (refine (takeT (by assumption)).mono ?_; rintro e w1 ⟨rfl, hto1⟩))
  rw [HQ.out]
  rw [HDS.out] at hto1
  clear hto
  have HT1 := Lib.hid hto1
  clear hto1
  go_loopg [4] E.length (fun k p4 wr => ∃ (o D : List Int) (op' : Bool), p4 = .string (bsOf (enc o)) ∧ D.length = k ∧ Hid (QI b s q E cv op w0 o D op' wr) ∧ Hid (To b s D cv op' (w0.alloc (.cells #[.int .i64 0, .int .i64 0, .int .i64 0, .int .i64 0, .bool false, .string ⟨#[]⟩] 62)) wr))
  case atStart => exact ⟨[], E, op, rfl, rfl, ⟨rfl, by split; rfl; exact quoted_text q E (by assumption), rfl, rfl, by simp⟩, HT1.out⟩
  case round =>
    obtain ⟨o, D, op', rfl, hD, HI, HT⟩ := hrel
    clear HT1
    have hto := HT.out
    have HR := Lib.hid (suf_rng hto.lx.suf)
    have HU := Lib.hid (quoted_unf q D)
    cases k1 : (pk D 0 == q)
    · have n1 : ¬ pk D 0 = q := by simpa using k1
      cases k2 : (pk D 0 == -1)
      · have n2 : ¬ pk D 0 = -1 := by simpa using k2
        have HLT := Lib.hid (pk_lt n2)
        have HPOS := Lib.hid (len_of_pk n2)
        cases k3 : nlQ (pk D 0)
        · have n3 : ¬ isNl (pk D 0) := by intro hx; rw [nlQ_iff.2 hx] at k3; cases k3
          have N0 := Lib.hid k3
          clear k3
          cases k4 : (pk D 0 == 92)
          · have n4 : ¬ pk D 0 = 92 := by simpa using k4
            have HN : Hid (quotedRun q D = ((quotedRun q D.tail).1, (if (quotedRun q D.tail).1 = 36 then pk D 0 :: (quotedRun q D.tail).2.1 else []), (false || (quotedRun q D.tail).2.2.1), (quotedRun q D.tail).2.2.2)) := by
              show _ = _; rw [HU.out, if_neg n1, if_neg n2, if_neg n3, if_neg (fun hx => n4 hx.1), if_neg (fun hx => n4 hx.1), if_neg n4, Bool.false_or]
            have N1 := True.intro
            have hr := pk_rng HR.out 0
            have HRR := Lib.hid hr
            have hsum := HI.out.sum HE.out HPOS.out (pk D 0)
            clear n1 n2 n3 n4 hr
            go_wp2_with (first | (go_at_call 59; go_must ((first | (with_reducible refine (peekT0 (by assumption)).mono ?_) | (with_reducible refine (peekT1 (by assumption)).mono ?_) | (with_reducible refine (peekT2 (by assumption)).mono ?_)); rintro e w1 ⟨rfl, rfl⟩)) | (go_at_call 61; go_must (refine (takeT (by assumption)).mono ?_; rintro e w1 ⟨rfl, hto1⟩)) | (go_at_call 91; go_must (refine (nl_any _ _).mono ?_; rintro e w1 ⟨rfl, rfl⟩; rw [N0.out])) | (go_at_call 60; go_must (refine (encodedT _ (by assumption) HRR.out).mono ?_; rintro e w1 ⟨rfl, hto2⟩)))
            go_roundg D.tail.length
            case measure => rw [← hD]; exact HLT.out
            case rel => exact ⟨o ++ [pk D 0], D.tail, op' || false, by rw [bsOf_app, ← enc_snoc], rfl, HI.out.more HN.out HLT.out _, by rw [Bool.or_false]; exact hto2⟩
          · have n4 : pk D 0 = 92 := by simpa using k4
            have hD0 : pk D 1 = pk D.tail 0 := (pk_tail D 0).symm
            cases k5 : (pk D 1 == -1)
            · have n5 : ¬ pk D 1 = -1 := by simpa using k5
              cases k6 : nlQ (pk D 1)
              · have n6 : ¬ isNl (pk D 1) := by intro hx; rw [nlQ_iff.2 hx] at k6; cases k6
                have N1 := Lib.hid k6
                clear k6
                have HN : Hid (quotedRun q D = ((quotedRun q (escape D.tail).2.2).1, (if (quotedRun q (escape D.tail).2.2).1 = 36 then (escape D.tail).1 :: (quotedRun q (escape D.tail).2.2).2.1 else []), (escape D.tail).2.1 || (quotedRun q (escape D.tail).2.2).2.2.1, (quotedRun q (escape D.tail).2.2).2.2.2)) := by
                  show _ = _; rw [HU.out, if_neg n1, if_neg n2, if_neg n3, if_neg (fun hx => n5 hx.2), if_neg (fun hx => n6 hx.2), if_pos n4]
                have hr := escape_rng (tail_rng HR.out)
                have HRR := Lib.hid hr
                have hsum := HI.out.sum HE.out HPOS.out (escape D.tail).1
                clear n1 n2 n3 n4 n5 n6 hr hD0
                go_wp2_with (first | (go_at_call 59; go_must ((first | (with_reducible refine (peekT0 (by assumption)).mono ?_) | (with_reducible refine (peekT1 (by assumption)).mono ?_) | (with_reducible refine (peekT2 (by assumption)).mono ?_)); rintro e w1 ⟨rfl, rfl⟩)) | (go_at_call 61; go_must (refine (takeT (by assumption)).mono ?_; rintro e w1 ⟨rfl, hto1⟩)) | (go_at_call 91; go_must ((first | ((with_reducible refine (nl_any (pk D 0) _).mono ?_); rintro e w1 ⟨rfl, rfl⟩; rw [N0.out]) | ((with_reducible refine (nl_any (pk D 1) _).mono ?_); rintro e w1 ⟨rfl, rfl⟩; rw [N1.out])))) | (go_at_call 63; go_must (refine (escapeT (by assumption)).mono ?_; rintro e w1 ⟨rfl, hto2⟩)) | (go_at_call 60; go_must (refine (encodedT _ (by assumption) HRR.out).mono ?_; rintro e w1 ⟨rfl, hto3⟩)))
                go_roundg (escape D.tail).2.2.length
                case measure => have := escape_len D.tail; have := HLT.out; omega
                case rel => exact ⟨o ++ [(escape D.tail).1], (escape D.tail).2.2, op' || (escape D.tail).2.1, by rw [bsOf_app, ← enc_snoc], rfl, HI.out.more HN.out (Nat.lt_of_le_of_lt (escape_len D.tail) HLT.out) _, hto3⟩
              · have n6 := nlQ_iff.1 k6
                have N1 := Lib.hid k6
                clear k6
                have HN : Hid (quotedRun q D = quotedRun q (newline D.tail)) := by
                  show _ = _; rw [HU.out, if_neg n1, if_neg n2, if_neg n3, if_neg (fun hx => n5 hx.2), if_pos ⟨n4, n6⟩]
                clear n1 n2 n3 n4 n5 n6 hD0
                go_wp2_with (first | (go_at_call 59; go_must ((first | (with_reducible refine (peekT0 (by assumption)).mono ?_) | (with_reducible refine (peekT1 (by assumption)).mono ?_) | (with_reducible refine (peekT2 (by assumption)).mono ?_)); rintro e w1 ⟨rfl, rfl⟩)) | (go_at_call 61; go_must (refine (takeT (by assumption)).mono ?_; rintro e w1 ⟨rfl, hto1⟩)) | (go_at_call 91; go_must ((first | ((with_reducible refine (nl_any (pk D 0) _).mono ?_); rintro e w1 ⟨rfl, rfl⟩; rw [N0.out]) | ((with_reducible refine (nl_any (pk D 1) _).mono ?_); rintro e w1 ⟨rfl, rfl⟩; rw [N1.out])))) | (go_at_call 93; go_must (refine (newlineT (by assumption)).mono ?_; rintro e w1 ⟨rfl, hto2⟩)))
                go_roundg (newline D.tail).length
                case measure => have := newline_len D.tail; have := HLT.out; omega
                case rel => exact ⟨o, newline D.tail, op', rfl, rfl, HI.out.skip HN.out (by have := newline_len D.tail; have := HLT.out; omega) _, hto2⟩
            · have n5 : pk D 1 = -1 := by simpa using k5
              have HN : Hid (quotedRun q D = quotedRun q D.tail) := by
                show _ = _; rw [HU.out, if_neg n1, if_neg n2, if_neg n3, if_pos ⟨n4, n5⟩]
              have N1 := True.intro
              clear n1 n2 n3 n4 n5 hD0
              go_wp2_with (first | (go_at_call 59; go_must ((first | (with_reducible refine (peekT0 (by assumption)).mono ?_) | (with_reducible refine (peekT1 (by assumption)).mono ?_) | (with_reducible refine (peekT2 (by assumption)).mono ?_)); rintro e w1 ⟨rfl, rfl⟩)) | (go_at_call 61; go_must (refine (takeT (by assumption)).mono ?_; rintro e w1 ⟨rfl, hto1⟩)) | (go_at_call 91; go_must (refine (nl_any _ _).mono ?_; rintro e w1 ⟨rfl, rfl⟩; rw [N0.out])))
              go_roundg D.tail.length
              case measure => have := HLT.out; omega
              case rel => exact ⟨o, D.tail, op', rfl, rfl, HI.out.skip HN.out HLT.out _, hto1⟩
        · have n3 := nlQ_iff.1 k3
          have N0 := Lib.hid k3
          clear k3
          have HN : Hid (quotedRun q D = (2, [], false, D)) := by show _ = _; rw [HU.out, if_neg n1, if_neg n2, if_pos n3]
          have HF := Lib.hid (HI.out.bad HN.out)
          have hres := hto.res hlt
          have r0 := cell_blk hres 0
          have r1 := cell_blk hres 1
          have r2 := cell_blk hres 2
          have r3 := cell_blk hres 3
          have r4 := cell_blk hres 4
          have r5 := cell_blk hres 5
          have g0 := frozen_blk hres 0
          have g1 := frozen_blk hres 1
          have g2 := frozen_blk hres 2
          have g3 := frozen_blk hres 3
          have g4 := frozen_blk hres 4
          have g5 := frozen_blk hres 5
          clear hres
          clear n1 n2 n3
          go_wp2_with (first | (go_at_call 59; go_must ((first | (with_reducible refine (peekT0 (by assumption)).mono ?_) | (with_reducible refine (peekT1 (by assumption)).mono ?_) | (with_reducible refine (peekT2 (by assumption)).mono ?_)); rintro e w1 ⟨rfl, rfl⟩)) | (go_at_call 91; go_must (refine (nl_any _ _).mono ?_; rintro e w1 ⟨rfl, rfl⟩; rw [N0.out])))
          refine bodyPost_ret (v := tkV 2 0 false []) (by simp [results, Tryz.results66, go_sem, tkV, bsOf, r0, r1, r2, r3, r4, r5]) rfl ?_
          have hx := HF.out
          refine ⟨by rw [hx.1]; rfl, ?_⟩
          rw [← hx.2, hx.1]
          exact hto.store6 hlt _ _ _ _ _ _
      · have n2 : pk D 0 = -1 := by simpa using k2
        have HN : Hid (quotedRun q D = (36, [], true, D)) := by show _ = _; rw [HU.out, if_neg n1, if_pos n2]
        have HF := Lib.hid (HI.out.end_ HN.out)
        have hc3 := hto.lx.c3
        have hf3 := hto.lx.f 3
        have hto4 := hto.open_ true
        have hres := hto4.res hlt
        have r0 := cell_blk hres 0
        have r1 := cell_blk hres 1
        have r2 := cell_blk hres 2
        have r3 := cell_blk hres 3
        have r4 := cell_blk hres 4
        have r5 := cell_blk hres 5
        have g0 := frozen_blk hres 0
        have g1 := frozen_blk hres 1
        have g2 := frozen_blk hres 2
        have g3 := frozen_blk hres 3
        have g4 := frozen_blk hres 4
        have g5 := frozen_blk hres 5
        clear hres
        clear n1 n2
        go_wp2_with (first | (go_at_call 59; go_must ((first | (with_reducible refine (peekT0 (by assumption)).mono ?_) | (with_reducible refine (peekT1 (by assumption)).mono ?_) | (with_reducible refine (peekT2 (by assumption)).mono ?_)); rintro e w1 ⟨rfl, rfl⟩)))
        refine bodyPost_ret (v := tkV 36 0 false (enc o)) (by simp [results, Tryz.results66, go_sem, tkV, bsOf, r0, r1, r2, r3, r4, r5]) rfl ?_
        have hx := HF.out
        refine ⟨by rw [hx.1], ?_⟩
        rw [← hx.2, hx.1, Bool.or_true]
        exact hto4.store6 hlt _ _ _ _ _ _
    · have n1 : pk D 0 = q := by simpa using k1
      have HN : Hid (quotedRun q D = (36, [], false, D.tail)) := by show _ = _; rw [HU.out, if_pos n1]
      have HF := Lib.hid (HI.out.end_ HN.out)
      clear n1
      go_wp2_with (first | (go_at_call 59; go_must ((first | (with_reducible refine (peekT0 (by assumption)).mono ?_) | (with_reducible refine (peekT1 (by assumption)).mono ?_) | (with_reducible refine (peekT2 (by assumption)).mono ?_)); rintro e w1 ⟨rfl, rfl⟩)))
      refine (takeT (by assumption)).mono ?_
      rintro e w1 ⟨rfl, hto1⟩
      have hres := hto1.res hlt
      have r0 := cell_blk hres 0
      have r1 := cell_blk hres 1
      have r2 := cell_blk hres 2
      have r3 := cell_blk hres 3
      have r4 := cell_blk hres 4
      have r5 := cell_blk hres 5
      have g0 := frozen_blk hres 0
      have g1 := frozen_blk hres 1
      have g2 := frozen_blk hres 2
      have g3 := frozen_blk hres 3
      have g4 := frozen_blk hres 4
      have g5 := frozen_blk hres 5
      clear hres
      go_wp2_with fail
      refine bodyPost_ret (v := tkV 36 0 false (enc o)) (by simp [results, Tryz.results66, go_sem, tkV, bsOf, r0, r1, r2, r3, r4, r5]) rfl ?_
      have hx := HF.out
      refine ⟨by rw [hx.1], ?_⟩
      rw [← hx.2, hx.1, Bool.or_false]
      exact hto1.store6 hlt _ _ _ _ _ _
end
end Go.Proofs.YtkfdcbdlcipmfaaGreatFmt
/- Walks: the reference's lexer: addresses (printed by genS11.py). -/
set_option linter.unusedVariables false
set_option linter.unusedSimpArgs false
namespace Go.Proofs.YtkfdcbdlcipmfaaGreatFmt
open Go.RowKit Css
section
variable {b : Nat} {s : ByteArray} {ds : List Int} {cv : Value} {op : Bool} {w : World}
theorem badURL_unf (D : List Int) : badURL D = if pk D 0 = 41 then (false, D.tail) else if pk D 0 = -1 then (true, D.tail) else if esc (pk D 0) (pk D.tail 0) then ((escape D.tail).2.1 || (badURL (escape D.tail).2.2).1, (badURL (escape D.tail).2.2).2) else badURL D.tail := by
  rw [badURL]; simp only [dite_eq_ite]
structure BI (E : List Int) (op : Bool) (D : List Int) (op' : Bool) : Prop where
  rest : (badURL D).2 = (badURL E).2
  opn : (op' || (badURL D).1) = (op || (badURL E).1)
def BR (b : Nat) (s : ByteArray) (E : List Int) (cv : Value) (op : Bool) (w : World) (e : Ending) (w' : World) : Prop :=
  e = .returned (tkV 3 0 false []) ∧ To b s (badURL E).2 cv (op || (badURL E).1) w w'
set_option maxHeartbeats 3200000 in
set_option maxRecDepth 100000 in
theorem badURL_any (h : LX b s ds cv op w) : Calls Tryz.prog 125 #[.pointer (some ⟨b, 0, none⟩)] w (BR b s ds cv op w) := by
  have HL := Lib.hid h
  have hlt := h.lt
  clear h
  rename World => w0
  have HT0 : Hid (To b s ds cv op (w0.alloc (.cells #[.int .i64 0, .int .i64 0, .int .i64 0, .int .i64 0, .bool false, .string ⟨#[]⟩] 62)) (w0.alloc (.cells #[.int .i64 0, .int .i64 0, .int .i64 0, .int .i64 0, .bool false, .string ⟨#[]⟩] 62))) := To.start HL.out _
  go_enter Tryz.func125, Tryz.ntmps125
  go_wp2_with fail
  go_loopg [] ds.length (fun k wr => ∃ (D : List Int) (op' : Bool), D.length = k ∧ Hid (BI ds op D op') ∧ Hid (To b s D cv op' (w0.alloc (.cells #[.int .i64 0, .int .i64 0, .int .i64 0, .int .i64 0, .bool false, .string ⟨#[]⟩] 62)) wr))
  case atStart => exact ⟨ds, op, rfl, ⟨rfl, rfl⟩, HT0.out⟩
  case round =>
    obtain ⟨D, op', hD, HI, HT⟩ := hrel
    clear HT0
    have hto := HT.out
    have HU := Lib.hid (badURL_unf D)
    cases k1 : (pk D 0 == 41)
    · have n1 : ¬ pk D 0 = 41 := by simpa using k1
      cases k2 : (pk D 0 == -1)
      · have n2 : ¬ pk D 0 = -1 := by simpa using k2
        have HLT := Lib.hid (pk_lt n2)
        cases k3 : esQ (pk D 0) (pk D.tail 0)
        · have n3 : ¬ esc (pk D 0) (pk D.tail 0) := by intro hx; rw [esQ_iff.2 hx] at k3; cases k3
          have NE := Lib.hid k3
          have HN : Hid (badURL D = badURL D.tail) := by show _ = _; rw [HU.out, if_neg n1, if_neg n2, if_neg n3]
          clear k3 n1 n2 n3
          go_wp2_with (first | (go_at_call 61; go_must (refine (takeT (by assumption)).mono ?_; rintro e w1 ⟨rfl, hto1⟩)) | (go_at_call 59; go_must ((first | (with_reducible refine (peekT0 (by assumption)).mono ?_) | (with_reducible refine (peekT1 (by assumption)).mono ?_) | (with_reducible refine (peekT2 (by assumption)).mono ?_)); rintro e w1 ⟨rfl, rfl⟩)) | (go_at_call 62; go_must (refine (es_any _ _ _).mono ?_; rintro e w1 ⟨rfl, rfl⟩; rw [NE.out])))
          go_roundg D.tail.length
          case measure => rw [← hD]; exact HLT.out
          case rel => exact ⟨D.tail, op', rfl, ⟨by rw [← HI.out.rest, HN.out], by rw [← HI.out.opn, HN.out]⟩, hto1⟩
        · have n3 := esQ_iff.1 k3
          have NE := Lib.hid k3
          have HN : Hid (badURL D = ((escape D.tail).2.1 || (badURL (escape D.tail).2.2).1, (badURL (escape D.tail).2.2).2)) := by show _ = _; rw [HU.out, if_neg n1, if_neg n2, if_pos n3]
          clear k3 n1 n2 n3
          go_wp2_with (first | (go_at_call 61; go_must (refine (takeT (by assumption)).mono ?_; rintro e w1 ⟨rfl, hto1⟩)) | (go_at_call 59; go_must ((first | (with_reducible refine (peekT0 (by assumption)).mono ?_) | (with_reducible refine (peekT1 (by assumption)).mono ?_) | (with_reducible refine (peekT2 (by assumption)).mono ?_)); rintro e w1 ⟨rfl, rfl⟩)) | (go_at_call 62; go_must (refine (es_any _ _ _).mono ?_; rintro e w1 ⟨rfl, rfl⟩; rw [NE.out])) | (go_at_call 63; go_must (refine (escapeT (by assumption)).mono ?_; rintro e w1 ⟨rfl, hto2⟩)))
          go_roundg (escape D.tail).2.2.length
          case measure => have := escape_len D.tail; have := HLT.out; omega
          case rel => exact ⟨(escape D.tail).2.2, op' || (escape D.tail).2.1, rfl, ⟨by rw [← HI.out.rest, HN.out], by rw [← HI.out.opn, HN.out]; simp [Bool.or_assoc]⟩, hto2⟩
      · have n2 : pk D 0 = -1 := by simpa using k2
        have HN : Hid (badURL D = (true, D.tail)) := by show _ = _; rw [HU.out, if_neg n1, if_pos n2]
        clear n1 n2
        go_wp2_with fail
        refine (takeT (by assumption)).mono ?_
        rintro e w1 ⟨rfl, hto1⟩
        have hc3 := hto1.lx.c3
        have hf3 := hto1.lx.f 3
        have hto4 := hto1.open_ true
        have hres := hto4.res hlt
        have r0 := cell_blk hres 0
        have r1 := cell_blk hres 1
        have r2 := cell_blk hres 2
        have r3 := cell_blk hres 3
        have r4 := cell_blk hres 4
        have r5 := cell_blk hres 5
        have g0 := frozen_blk hres 0
        have g1 := frozen_blk hres 1
        have g2 := frozen_blk hres 2
        have g3 := frozen_blk hres 3
        have g4 := frozen_blk hres 4
        have g5 := frozen_blk hres 5
        clear hres
        go_wp2_with fail
        refine bodyPost_ret (v := tkV 3 0 false []) (by simp [results, Tryz.results125, go_sem, tkV, bsOf, r0, r1, r2, r3, r4, r5]) rfl ?_
        refine ⟨rfl, ?_⟩
        rw [← HI.out.rest, ← HI.out.opn, HN.out, Bool.or_true]
        exact hto4.store6 hlt _ _ _ _ _ _
    · have n1 : pk D 0 = 41 := by simpa using k1
      have HN : Hid (badURL D = (false, D.tail)) := by show _ = _; rw [HU.out, if_pos n1]
      clear n1
      go_wp2_with fail
      refine (takeT (by assumption)).mono ?_
      rintro e w1 ⟨rfl, hto1⟩
      have hres := hto1.res hlt
      have r0 := cell_blk hres 0
      have r1 := cell_blk hres 1
      have r2 := cell_blk hres 2
      have r3 := cell_blk hres 3
      have r4 := cell_blk hres 4
      have r5 := cell_blk hres 5
      have g0 := frozen_blk hres 0
      have g1 := frozen_blk hres 1
      have g2 := frozen_blk hres 2
      have g3 := frozen_blk hres 3
      have g4 := frozen_blk hres 4
      have g5 := frozen_blk hres 5
      clear hres
      go_wp2_with fail
      refine bodyPost_ret (v := tkV 3 0 false []) (by simp [results, Tryz.results125, go_sem, tkV, bsOf, r0, r1, r2, r3, r4, r5]) rfl ?_
      refine ⟨rfl, ?_⟩
      rw [← HI.out.rest, ← HI.out.opn, HN.out, Bool.or_false]
      exact hto1.store6 hlt _ _ _ _ _ _
theorem badURLT {w0 : World} (h : To b s ds cv op w0 w) : Calls Tryz.prog 125 #[.pointer (some ⟨b, 0, none⟩)] w fun e w' => e = .returned (.agg #[.int .i64 3, .int .i64 0, .int .i64 0, .int .i64 0, .bool false, .string ⟨#[]⟩]) ∧ To b s (badURL ds).2 cv (op || (badURL ds).1) w0 w' :=
  (badURL_any h.lx).mono fun _ _ k => ⟨k.1, h.then k.2⟩

def urlBad (D : List Int) : Prop := pk D 0 = 34 ∨ pk D 0 = 39 ∨ pk D 0 = 40 ∨ unpr (pk D 0) ∨ (pk D 0 = 92 ∧ ¬ esc (pk D 0) (pk D 1))
instance (D : List Int) : Decidable (urlBad D) := by unfold urlBad; infer_instance
theorem url_unf (D : List Int) : url D = if pk D 0 = 41 then (37, [], false, D.tail) else if pk D 0 = -1 then (37, [], true, D) else if isSp (pk D 0) then
    (if pk (spaces D) 0 ≠ 41 ∧ pk (spaces D) 0 ≠ -1 then (3, [], (badURL (spaces D)).1, (badURL (spaces D)).2) else url (spaces D))
    else if urlBad D then (3, [], (badURL D).1, (badURL D).2)
    else if pk D 0 = 92 then ((url (escape D.tail).2.2).1, (if (url (escape D.tail).2.2).1 = 37 then (escape D.tail).1 :: (url (escape D.tail).2.2).2.1 else []), (escape D.tail).2.1 || (url (escape D.tail).2.2).2.2.1, (url (escape D.tail).2.2).2.2.2)
    else ((url D.tail).1, (if (url D.tail).1 = 37 then pk D 0 :: (url D.tail).2.1 else []), (url D.tail).2.2.1, (url D.tail).2.2.2) := by
  rw [url]; simp only [dite_eq_ite, urlBad]
structure UI (E : List Int) (op : Bool) (o D : List Int) (op' : Bool) : Prop where
  kind : (url D).1 = (url E).1
  text : (url E).2.1 = if (url E).1 = 37 then o ++ (url D).2.1 else []
  rest : (url D).2.2.2 = (url E).2.2.2
  opn : (op' || (url D).2.2.1) = (op || (url E).2.2.1)
  size : (enc o).length + 4 * D.length ≤ 4 * E.length
theorem UI.sum {E : List Int} {o D : List Int} {op' : Bool} (h : UI E op o D op') (hE : (E.length : Int) ≤ 140737488355328) (hpos : 0 < D.length) (c : Int) :
    (bsOf (enc o)).size + (bsOf (enc1 c)).size ≤ 1125899906842624 := by
  rw [bsOf_size, bsOf_size, enc1_length]
  have := (wd_pos c).2
  have := h.size
  omega
theorem UI.more {E : List Int} {o D : List Int} {op' : Bool} (h : UI E op o D op') {D' : List Int} {c : Int} {f : Bool}
    (hq : url D = ((url D').1, (if (url D').1 = 37 then c :: (url D').2.1 else []), f || (url D').2.2.1, (url D').2.2.2)) (hl : D'.length < D.length) : UI E op (o ++ [c]) D' (op' || f) := by
  refine ⟨?_, ?_, ?_, ?_, ?_⟩
  · rw [← h.kind, hq]
  · rw [h.text, hq]
    by_cases hk : (url E).1 = 37
    · have : (url D').1 = 37 := by rw [← hk, ← h.kind, hq]
      rw [if_pos hk, if_pos hk]; simp [this]
    · rw [if_neg hk, if_neg hk]
  · rw [← h.rest, hq]
  · rw [← h.opn, hq]; simp [Bool.or_assoc]
  · have := h.size
    rw [enc_snoc, List.length_append, enc1_length]
    have := (wd_pos c).2
    omega
theorem UI.skip {E : List Int} {o D : List Int} {op' : Bool} (h : UI E op o D op') {D' : List Int} (hq : url D = url D') (hl : D'.length ≤ D.length) : UI E op o D' op' := by
  refine ⟨?_, ?_, ?_, ?_, ?_⟩
  · rw [← h.kind, hq]
  · rw [h.text, hq]
  · rw [← h.rest, hq]
  · rw [← h.opn, hq]
  · have := h.size; omega
theorem UI.end_ {E : List Int} {o D : List Int} {op' : Bool} (h : UI E op o D op') {f : Bool} {r : List Int} (hq : url D = (37, [], f, r)) :
    url E = (37, o, (url E).2.2.1, r) ∧ (op' || f) = (op || (url E).2.2.1) := by
  have k1 := h.kind
  have k2 := h.text
  have k3 := h.rest
  have k4 := h.opn
  rw [hq] at k1 k2 k3 k4
  simp only [] at k1 k2 k3 k4
  rw [if_pos k1.symm, List.append_nil] at k2
  refine ⟨?_, k4⟩
  rw [k1, ← k2, k3]
theorem UI.bad {E : List Int} {o D : List Int} {op' : Bool} (h : UI E op o D op') {f : Bool} {r : List Int} (hq : url D = (3, [], f, r)) :
    url E = (3, [], (url E).2.2.1, r) ∧ (op' || f) = (op || (url E).2.2.1) := by
  have k1 := h.kind
  have k2 := h.text
  have k3 := h.rest
  have k4 := h.opn
  rw [hq] at k1 k2 k3 k4
  simp only [] at k1 k2 k3 k4
  rw [if_neg (by rw [← k1]; decide)] at k2
  refine ⟨?_, k4⟩
  rw [k1, k3]
  have e : url E = ((url E).1, (url E).2.1, (url E).2.2.1, (url E).2.2.2) := rfl
  rw [e, k2]
theorem url_text (ds : List Int) (h : ¬ (url ds).1 = 37) : (url ds).2.1 = [] := by
  fun_induction url ds with
  | case1 => exact absurd rfl h
  | case2 => exact absurd rfl h
  | case3 => rfl
  | case4 ds h1 h2 h3 h4 ih => exact ih h
  | case5 => rfl
  | case6 ds h1 h2 h3 h4 h5 r ih => simp only [] at h ⊢; rw [if_neg h]
  | case7 ds h1 h2 h3 h4 h5 r ih => simp only [] at h ⊢; rw [if_neg h]
def UR (b : Nat) (s : ByteArray) (E : List Int) (cv : Value) (op : Bool) (w : World) (e : Ending) (w' : World) : Prop :=
  e = .returned (tkV (url E).1 0 false (enc (url E).2.1)) ∧ To b s (url E).2.2.2 cv (op || (url E).2.2.1) w w'
set_option maxHeartbeats 6400000 in
set_option maxRecDepth 100000 in
theorem url_any (h : LX b s ds cv op w) : Calls Tryz.prog 95 #[.pointer (some ⟨b, 0, none⟩)] w (UR b s ds cv op w) := by
  have HL := Lib.hid h
  have hlt := h.lt
  have hE : (ds.length : Int) ≤ 140737488355328 := by have := suf_len h.suf; have := h.small; omega
  have HE := Lib.hid hE
  clear h hE
  rename World => w0
  have HT0 : Hid (To b s ds cv op (w0.alloc (.cells #[.int .i64 0, .int .i64 0, .int .i64 0, .int .i64 0, .bool false, .string ⟨#[]⟩] 62)) (w0.alloc (.cells #[.int .i64 0, .int .i64 0, .int .i64 0, .int .i64 0, .bool false, .string ⟨#[]⟩] 62))) := To.start HL.out _
  go_enter Tryz.func95, Tryz.ntmps95
  go_wp2_with fail
  go_loopg [3] ds.length (fun k p3 wr => ∃ (o D : List Int) (op' : Bool), p3 = .string (bsOf (enc o)) ∧ D.length = k ∧ Hid (UI ds op o D op') ∧ Hid (To b s D cv op' (w0.alloc (.cells #[.int .i64 0, .int .i64 0, .int .i64 0, .int .i64 0, .bool false, .string ⟨#[]⟩] 62)) wr))
  case atStart => exact ⟨[], ds, op, rfl, rfl, ⟨rfl, by split; rfl; exact url_text ds (by assumption), rfl, rfl, by simp⟩, HT0.out⟩
  case round =>
    obtain ⟨o, D, op', rfl, hD, HI, HT⟩ := hrel
    clear HT0
    have hto := HT.out
    have HR := Lib.hid (suf_rng hto.lx.suf)
    have HU := Lib.hid (url_unf D)
    cases k1 : (pk D 0 == 41)
    · have n1 : ¬ pk D 0 = 41 := by simpa using k1
      cases k2 : (pk D 0 == -1)
      · have n2 : ¬ pk D 0 = -1 := by simpa using k2
        have HLT := Lib.hid (pk_lt n2)
        have HPOS := Lib.hid (len_of_pk n2)
        cases k3 : spQ (pk D 0)
        · have n3 : ¬ isSp (pk D 0) := by intro hx; rw [spQ_iff.2 hx] at k3; cases k3
          have N0 := Lib.hid k3
          clear k3
          have HBAD : Hid (urlBad D → url D = (3, [], (badURL D).1, (badURL D).2)) := fun hx => by rw [HU.out, if_neg n1, if_neg n2, if_neg n3, if_pos hx]
          have HGO : Hid (¬ urlBad D → url D = if pk D 0 = 92 then ((url (escape D.tail).2.2).1, (if (url (escape D.tail).2.2).1 = 37 then (escape D.tail).1 :: (url (escape D.tail).2.2).2.1 else []), (escape D.tail).2.1 || (url (escape D.tail).2.2).2.2.1, (url (escape D.tail).2.2).2.2.2)
    else ((url D.tail).1, (if (url D.tail).1 = 37 then pk D 0 :: (url D.tail).2.1 else []), (url D.tail).2.2.1, (url D.tail).2.2.2)) := fun hx => by rw [HU.out, if_neg n1, if_neg n2, if_neg n3, if_neg hx]
          clear n1 n2 n3
          have hways : ((pk D 0 == 34) = true ∧ Hid (urlBad D)) ∨ ((pk D 0 == 34) = false ∧ (pk D 0 == 39) = true ∧ Hid (urlBad D)) ∨ ((pk D 0 == 34) = false ∧ (pk D 0 == 39) = false ∧ (pk D 0 == 40) = true ∧ Hid (urlBad D)) ∨ ((pk D 0 == 34) = false ∧ (pk D 0 == 39) = false ∧ (pk D 0 == 40) = false ∧ Hid (upQ (pk D 0) = true) ∧ Hid (urlBad D)) ∨
              ((pk D 0 == 34) = false ∧ (pk D 0 == 39) = false ∧ (pk D 0 == 40) = false ∧ (pk D 0 == 92) = true ∧ Hid (upQ (pk D 0) = false) ∧ Hid (esQ (pk D 0) (pk D 1) = false) ∧ Hid (urlBad D)) ∨
              ((pk D 0 == 34) = false ∧ (pk D 0 == 39) = false ∧ (pk D 0 == 40) = false ∧ (pk D 0 == 92) = true ∧ Hid (upQ (pk D 0) = false) ∧ Hid (esQ (pk D 0) (pk D 1) = true) ∧ Hid (¬ urlBad D ∧ pk D 0 = 92)) ∨
              ((pk D 0 == 34) = false ∧ (pk D 0 == 39) = false ∧ (pk D 0 == 40) = false ∧ (pk D 0 == 92) = false ∧ Hid (upQ (pk D 0) = false) ∧ Hid (¬ urlBad D ∧ ¬ pk D 0 = 92)) := by
            have hid : ∀ p : Prop, Hid p = p := fun _ => rfl
            simp only [beq_iff_eq, beq_eq_false_iff_ne, hid]
            have eu : upQ (pk D 0) = false ↔ ¬ unpr (pk D 0) := by rw [← upQ_iff]; simp
            have ee : esQ (pk D 0) (pk D 1) = false ↔ ¬ esc (pk D 0) (pk D 1) := by rw [← esQ_iff]; simp
            rw [upQ_iff, esQ_iff, eu, ee]
            unfold urlBad
            by_cases c1 : pk D 0 = 34
            · left; exact ⟨c1, .inl c1⟩
            by_cases c2 : pk D 0 = 39
            · right; left; exact ⟨c1, c2, .inr (.inl c2)⟩
            by_cases c3 : pk D 0 = 40
            · right; right; left; exact ⟨c1, c2, c3, .inr (.inr (.inl c3))⟩
            by_cases c4 : unpr (pk D 0)
            · right; right; right; left; exact ⟨c1, c2, c3, c4, .inr (.inr (.inr (.inl c4)))⟩
            by_cases c5 : pk D 0 = 92
            · by_cases c6 : esc (pk D 0) (pk D 1)
              · right; right; right; right; right; left
                refine ⟨c1, c2, c3, c5, c4, c6, ?_, c5⟩
                rintro (h | h | h | h | h)
                · exact c1 h
                · exact c2 h
                · exact c3 h
                · exact c4 h
                · exact h.2 c6
              · right; right; right; right; left; exact ⟨c1, c2, c3, c5, c4, c6, .inr (.inr (.inr (.inr ⟨c5, c6⟩)))⟩
            · right; right; right; right; right; right
              refine ⟨c1, c2, c3, c5, c4, ?_, c5⟩
              rintro (h | h | h | h | h)
              · exact c1 h
              · exact c2 h
              · exact c3 h
              · exact c4 h
              · exact c5 h.1
          rcases hways with ⟨q1, HX⟩ | ⟨q1, q2, HX⟩ | ⟨q1, q2, q3, HX⟩ | ⟨q1, q2, q3, NU, HX⟩ | ⟨q1, q2, q3, q4, NU, NE, HX⟩ | ⟨q1, q2, q3, q4, NU, NE, HX⟩ | ⟨q1, q2, q3, q4, NU, HX⟩
          · go_wp2_with (first | (go_at_call 59; go_must ((first | (with_reducible refine (peekT0 (by assumption)).mono ?_) | (with_reducible refine (peekT1 (by assumption)).mono ?_) | (with_reducible refine (peekT2 (by assumption)).mono ?_)); rintro e w1 ⟨rfl, rfl⟩)) | (go_at_call 64; go_must (refine (sp_any _ _).mono ?_; rintro e w1 ⟨rfl, rfl⟩; rw [N0.out])))
            refine (badURLT (by assumption)).mono ?_
            rintro e w1 ⟨rfl, hto1⟩
            have hres := hto1.res hlt
            have r0 := cell_blk hres 0
            have r1 := cell_blk hres 1
            have r2 := cell_blk hres 2
            have r3 := cell_blk hres 3
            have r4 := cell_blk hres 4
            have r5 := cell_blk hres 5
            have g0 := frozen_blk hres 0
            have g1 := frozen_blk hres 1
            have g2 := frozen_blk hres 2
            have g3 := frozen_blk hres 3
            have g4 := frozen_blk hres 4
            have g5 := frozen_blk hres 5
            clear hres
            go_wp2_with fail
            refine bodyPost_ret (v := tkV 3 0 false []) (by simp [results, Tryz.results95, go_sem, tkV, bsOf, r0, r1, r2, r3, r4, r5]) rfl ?_
            have hx := HI.out.bad (HBAD.out HX.out)
            refine ⟨by rw [hx.1]; rfl, ?_⟩
            rw [← hx.2, hx.1]
            exact hto1.store6 hlt _ _ _ _ _ _
          · go_wp2_with (first | (go_at_call 59; go_must ((first | (with_reducible refine (peekT0 (by assumption)).mono ?_) | (with_reducible refine (peekT1 (by assumption)).mono ?_) | (with_reducible refine (peekT2 (by assumption)).mono ?_)); rintro e w1 ⟨rfl, rfl⟩)) | (go_at_call 64; go_must (refine (sp_any _ _).mono ?_; rintro e w1 ⟨rfl, rfl⟩; rw [N0.out])))
            refine (badURLT (by assumption)).mono ?_
            rintro e w1 ⟨rfl, hto1⟩
            have hres := hto1.res hlt
            have r0 := cell_blk hres 0
            have r1 := cell_blk hres 1
            have r2 := cell_blk hres 2
            have r3 := cell_blk hres 3
            have r4 := cell_blk hres 4
            have r5 := cell_blk hres 5
            have g0 := frozen_blk hres 0
            have g1 := frozen_blk hres 1
            have g2 := frozen_blk hres 2
            have g3 := frozen_blk hres 3
            have g4 := frozen_blk hres 4
            have g5 := frozen_blk hres 5
            clear hres
            go_wp2_with fail
            refine bodyPost_ret (v := tkV 3 0 false []) (by simp [results, Tryz.results95, go_sem, tkV, bsOf, r0, r1, r2, r3, r4, r5]) rfl ?_
            have hx := HI.out.bad (HBAD.out HX.out)
            refine ⟨by rw [hx.1]; rfl, ?_⟩
            rw [← hx.2, hx.1]
            exact hto1.store6 hlt _ _ _ _ _ _
          · go_wp2_with (first | (go_at_call 59; go_must ((first | (with_reducible refine (peekT0 (by assumption)).mono ?_) | (with_reducible refine (peekT1 (by assumption)).mono ?_) | (with_reducible refine (peekT2 (by assumption)).mono ?_)); rintro e w1 ⟨rfl, rfl⟩)) | (go_at_call 64; go_must (refine (sp_any _ _).mono ?_; rintro e w1 ⟨rfl, rfl⟩; rw [N0.out])))
            refine (badURLT (by assumption)).mono ?_
            rintro e w1 ⟨rfl, hto1⟩
            have hres := hto1.res hlt
            have r0 := cell_blk hres 0
            have r1 := cell_blk hres 1
            have r2 := cell_blk hres 2
            have r3 := cell_blk hres 3
            have r4 := cell_blk hres 4
            have r5 := cell_blk hres 5
            have g0 := frozen_blk hres 0
            have g1 := frozen_blk hres 1
            have g2 := frozen_blk hres 2
            have g3 := frozen_blk hres 3
            have g4 := frozen_blk hres 4
            have g5 := frozen_blk hres 5
            clear hres
            go_wp2_with fail
            refine bodyPost_ret (v := tkV 3 0 false []) (by simp [results, Tryz.results95, go_sem, tkV, bsOf, r0, r1, r2, r3, r4, r5]) rfl ?_
            have hx := HI.out.bad (HBAD.out HX.out)
            refine ⟨by rw [hx.1]; rfl, ?_⟩
            rw [← hx.2, hx.1]
            exact hto1.store6 hlt _ _ _ _ _ _
          · go_wp2_with (first | (go_at_call 59; go_must ((first | (with_reducible refine (peekT0 (by assumption)).mono ?_) | (with_reducible refine (peekT1 (by assumption)).mono ?_) | (with_reducible refine (peekT2 (by assumption)).mono ?_)); rintro e w1 ⟨rfl, rfl⟩)) | (go_at_call 64; go_must (refine (sp_any _ _).mono ?_; rintro e w1 ⟨rfl, rfl⟩; rw [N0.out])) | (go_at_call 126; go_must (refine (up_any _ _).mono ?_; rintro e w1 ⟨rfl, rfl⟩; rw [NU.out])))
            refine (badURLT (by assumption)).mono ?_
            rintro e w1 ⟨rfl, hto1⟩
            have hres := hto1.res hlt
            have r0 := cell_blk hres 0
            have r1 := cell_blk hres 1
            have r2 := cell_blk hres 2
            have r3 := cell_blk hres 3
            have r4 := cell_blk hres 4
            have r5 := cell_blk hres 5
            have g0 := frozen_blk hres 0
            have g1 := frozen_blk hres 1
            have g2 := frozen_blk hres 2
            have g3 := frozen_blk hres 3
            have g4 := frozen_blk hres 4
            have g5 := frozen_blk hres 5
            clear hres
            go_wp2_with fail
            refine bodyPost_ret (v := tkV 3 0 false []) (by simp [results, Tryz.results95, go_sem, tkV, bsOf, r0, r1, r2, r3, r4, r5]) rfl ?_
            have hx := HI.out.bad (HBAD.out HX.out)
            refine ⟨by rw [hx.1]; rfl, ?_⟩
            rw [← hx.2, hx.1]
            exact hto1.store6 hlt _ _ _ _ _ _
          · go_wp2_with (first | (go_at_call 59; go_must ((first | (with_reducible refine (peekT0 (by assumption)).mono ?_) | (with_reducible refine (peekT1 (by assumption)).mono ?_) | (with_reducible refine (peekT2 (by assumption)).mono ?_)); rintro e w1 ⟨rfl, rfl⟩)) | (go_at_call 64; go_must (refine (sp_any _ _).mono ?_; rintro e w1 ⟨rfl, rfl⟩; rw [N0.out])) | (go_at_call 126; go_must (refine (up_any _ _).mono ?_; rintro e w1 ⟨rfl, rfl⟩; rw [NU.out])) | (go_at_call 62; go_must (refine (es_any _ _ _).mono ?_; rintro e w1 ⟨rfl, rfl⟩; rw [NE.out])))
            refine (badURLT (by assumption)).mono ?_
            rintro e w1 ⟨rfl, hto1⟩
            have hres := hto1.res hlt
            have r0 := cell_blk hres 0
            have r1 := cell_blk hres 1
            have r2 := cell_blk hres 2
            have r3 := cell_blk hres 3
            have r4 := cell_blk hres 4
            have r5 := cell_blk hres 5
            have g0 := frozen_blk hres 0
            have g1 := frozen_blk hres 1
            have g2 := frozen_blk hres 2
            have g3 := frozen_blk hres 3
            have g4 := frozen_blk hres 4
            have g5 := frozen_blk hres 5
            clear hres
            go_wp2_with fail
            refine bodyPost_ret (v := tkV 3 0 false []) (by simp [results, Tryz.results95, go_sem, tkV, bsOf, r0, r1, r2, r3, r4, r5]) rfl ?_
            have hx := HI.out.bad (HBAD.out HX.out)
            refine ⟨by rw [hx.1]; rfl, ?_⟩
            rw [← hx.2, hx.1]
            exact hto1.store6 hlt _ _ _ _ _ _
          · have HN : Hid (url D = ((url (escape D.tail).2.2).1, (if (url (escape D.tail).2.2).1 = 37 then (escape D.tail).1 :: (url (escape D.tail).2.2).2.1 else []), (escape D.tail).2.1 || (url (escape D.tail).2.2).2.2.1, (url (escape D.tail).2.2).2.2.2)) := by
              show _ = _; rw [HGO.out HX.out.1, if_pos HX.out.2]
            have HRR := Lib.hid (escape_rng (tail_rng HR.out))
            have hsum := HI.out.sum HE.out HPOS.out (escape D.tail).1
            go_wp2_with (first | (go_at_call 59; go_must ((first | (with_reducible refine (peekT0 (by assumption)).mono ?_) | (with_reducible refine (peekT1 (by assumption)).mono ?_) | (with_reducible refine (peekT2 (by assumption)).mono ?_)); rintro e w1 ⟨rfl, rfl⟩)) | (go_at_call 61; go_must (refine (takeT (by assumption)).mono ?_; rintro e w1 ⟨rfl, hto1⟩)) | (go_at_call 64; go_must (refine (sp_any _ _).mono ?_; rintro e w1 ⟨rfl, rfl⟩; rw [N0.out])) | (go_at_call 126; go_must (refine (up_any _ _).mono ?_; rintro e w1 ⟨rfl, rfl⟩; rw [NU.out])) | (go_at_call 62; go_must (refine (es_any _ _ _).mono ?_; rintro e w1 ⟨rfl, rfl⟩; rw [NE.out])) | (go_at_call 63; go_must (refine (escapeT (by assumption)).mono ?_; rintro e w1 ⟨rfl, hto2⟩)) | (go_at_call 60; go_must (refine (encodedT _ (by assumption) HRR.out).mono ?_; rintro e w1 ⟨rfl, hto3⟩)))
            go_roundg (escape D.tail).2.2.length
            case measure => have := escape_len D.tail; have := HLT.out; omega
            case rel => exact ⟨o ++ [(escape D.tail).1], (escape D.tail).2.2, op' || (escape D.tail).2.1, by rw [bsOf_app, ← enc_snoc], rfl, HI.out.more HN.out (Nat.lt_of_le_of_lt (escape_len D.tail) HLT.out), hto3⟩
          · have HN : Hid (url D = ((url D.tail).1, (if (url D.tail).1 = 37 then pk D 0 :: (url D.tail).2.1 else []), (false || (url D.tail).2.2.1), (url D.tail).2.2.2)) := by
              show _ = _; rw [HGO.out HX.out.1, if_neg HX.out.2, Bool.false_or]
            have HRR := Lib.hid (pk_rng HR.out 0)
            have hsum := HI.out.sum HE.out HPOS.out (pk D 0)
            go_wp2_with (first | (go_at_call 59; go_must ((first | (with_reducible refine (peekT0 (by assumption)).mono ?_) | (with_reducible refine (peekT1 (by assumption)).mono ?_) | (with_reducible refine (peekT2 (by assumption)).mono ?_)); rintro e w1 ⟨rfl, rfl⟩)) | (go_at_call 61; go_must (refine (takeT (by assumption)).mono ?_; rintro e w1 ⟨rfl, hto1⟩)) | (go_at_call 64; go_must (refine (sp_any _ _).mono ?_; rintro e w1 ⟨rfl, rfl⟩; rw [N0.out])) | (go_at_call 126; go_must (refine (up_any _ _).mono ?_; rintro e w1 ⟨rfl, rfl⟩; rw [NU.out])) | (go_at_call 60; go_must (refine (encodedT _ (by assumption) HRR.out).mono ?_; rintro e w1 ⟨rfl, hto2⟩)))
            go_roundg D.tail.length
            case measure => rw [← hD]; exact HLT.out
            case rel => exact ⟨o ++ [pk D 0], D.tail, op' || false, by rw [bsOf_app, ← enc_snoc], rfl, HI.out.more HN.out HLT.out, by rw [Bool.or_false]; exact hto2⟩
        · have n3 := spQ_iff.1 k3
          have N0 := Lib.hid k3
          clear k3
          have HSP : Hid (spaces D = spaces D.tail) := by
            show _ = _
            cases D with
            | nil => rfl
            | cons c t => rw [spaces, if_pos (by simpa using n3)]; rfl
          have HLS : Hid ((spaces D).length < D.length) := by
            show _ < _
            rw [HSP.out]
            have := spaces_len D.tail; have := HLT.out; omega
          have HS : Hid (url D = if pk (spaces D) 0 ≠ 41 ∧ pk (spaces D) 0 ≠ -1 then (3, [], (badURL (spaces D)).1, (badURL (spaces D)).2) else url (spaces D)) := by
            show _ = _; rw [HU.out, if_neg n1, if_neg n2, if_pos n3]
          clear n1 n2 n3 HSP
          have hways : ((pk (spaces D) 0 == 41) = true ∧ (pk (spaces D) 0 != 41) = false ∧ Hid (url D = url (spaces D))) ∨ ((pk (spaces D) 0 == 41) = false ∧ (pk (spaces D) 0 != 41) = true ∧ (pk (spaces D) 0 == -1) = true ∧ (pk (spaces D) 0 != -1) = false ∧ Hid (url D = url (spaces D))) ∨ ((pk (spaces D) 0 == 41) = false ∧ (pk (spaces D) 0 != 41) = true ∧ (pk (spaces D) 0 == -1) = false ∧ (pk (spaces D) 0 != -1) = true ∧ Hid (url D = (3, [], (badURL (spaces D)).1, (badURL (spaces D)).2))) := by
            have hid : ∀ p : Prop, Hid p = p := fun _ => rfl
            simp only [beq_iff_eq, beq_eq_false_iff_ne, bne_iff_ne, bne_eq_false_iff_eq, hid]
            rw [HS.out]
            by_cases c1 : pk (spaces D) 0 = 41
            · left; exact ⟨c1, c1, by rw [if_neg (fun hx => hx.1 c1)]⟩
            by_cases c2 : pk (spaces D) 0 = -1
            · right; left; exact ⟨c1, c1, c2, c2, by rw [if_neg (fun hx => hx.2 c2)]⟩
            · right; right; exact ⟨c1, c1, c2, c2, by rw [if_pos ⟨c1, c2⟩]⟩
          rcases hways with ⟨q1, q2, HN⟩ | ⟨q1, q2, q3, q4, HN⟩ | ⟨q1, q2, q3, q4, HN⟩
          · go_wp2_with (first | (go_at_call 59; go_must ((first | (with_reducible refine (peekT0 (by assumption)).mono ?_) | (with_reducible refine (peekT1 (by assumption)).mono ?_) | (with_reducible refine (peekT2 (by assumption)).mono ?_)); rintro e w1 ⟨rfl, rfl⟩)) | (go_at_call 65; go_must (refine (spacesT (by assumption)).mono ?_; rintro e w1 ⟨rfl, hto2⟩)) | (go_at_call 64; go_must (refine (sp_any _ _).mono ?_; rintro e w1 ⟨rfl, rfl⟩; rw [N0.out])))
            go_roundg (spaces D).length
            case measure => rw [← hD]; exact HLS.out
            case rel => exact ⟨o, spaces D, op', rfl, rfl, HI.out.skip HN.out (Nat.le_of_lt HLS.out), hto2⟩
          · go_wp2_with (first | (go_at_call 59; go_must ((first | (with_reducible refine (peekT0 (by assumption)).mono ?_) | (with_reducible refine (peekT1 (by assumption)).mono ?_) | (with_reducible refine (peekT2 (by assumption)).mono ?_)); rintro e w1 ⟨rfl, rfl⟩)) | (go_at_call 65; go_must (refine (spacesT (by assumption)).mono ?_; rintro e w1 ⟨rfl, hto2⟩)) | (go_at_call 64; go_must (refine (sp_any _ _).mono ?_; rintro e w1 ⟨rfl, rfl⟩; rw [N0.out])))
            go_roundg (spaces D).length
            case measure => rw [← hD]; exact HLS.out
            case rel => exact ⟨o, spaces D, op', rfl, rfl, HI.out.skip HN.out (Nat.le_of_lt HLS.out), hto2⟩
          · go_wp2_with (first | (go_at_call 59; go_must ((first | (with_reducible refine (peekT0 (by assumption)).mono ?_) | (with_reducible refine (peekT1 (by assumption)).mono ?_) | (with_reducible refine (peekT2 (by assumption)).mono ?_)); rintro e w1 ⟨rfl, rfl⟩)) | (go_at_call 65; go_must (refine (spacesT (by assumption)).mono ?_; rintro e w1 ⟨rfl, hto2⟩)) | (go_at_call 64; go_must (refine (sp_any _ _).mono ?_; rintro e w1 ⟨rfl, rfl⟩; rw [N0.out])))
            refine (badURLT (by assumption)).mono ?_
            rintro e w1 ⟨rfl, hto1⟩
            have hres := hto1.res hlt
            have r0 := cell_blk hres 0
            have r1 := cell_blk hres 1
            have r2 := cell_blk hres 2
            have r3 := cell_blk hres 3
            have r4 := cell_blk hres 4
            have r5 := cell_blk hres 5
            have g0 := frozen_blk hres 0
            have g1 := frozen_blk hres 1
            have g2 := frozen_blk hres 2
            have g3 := frozen_blk hres 3
            have g4 := frozen_blk hres 4
            have g5 := frozen_blk hres 5
            clear hres
            go_wp2_with fail
            refine bodyPost_ret (v := tkV 3 0 false []) (by simp [results, Tryz.results95, go_sem, tkV, bsOf, r0, r1, r2, r3, r4, r5]) rfl ?_
            have hx := HI.out.bad HN.out
            refine ⟨by rw [hx.1]; rfl, ?_⟩
            rw [← hx.2, hx.1]
            exact hto1.store6 hlt _ _ _ _ _ _
      · have n2 : pk D 0 = -1 := by simpa using k2
        have HN : Hid (url D = (37, [], true, D)) := by show _ = _; rw [HU.out, if_neg n1, if_pos n2]
        have HF := Lib.hid (HI.out.end_ HN.out)
        have hc3 := hto.lx.c3
        have hf3 := hto.lx.f 3
        have hto4 := hto.open_ true
        have hres := hto4.res hlt
        have r0 := cell_blk hres 0
        have r1 := cell_blk hres 1
        have r2 := cell_blk hres 2
        have r3 := cell_blk hres 3
        have r4 := cell_blk hres 4
        have r5 := cell_blk hres 5
        have g0 := frozen_blk hres 0
        have g1 := frozen_blk hres 1
        have g2 := frozen_blk hres 2
        have g3 := frozen_blk hres 3
        have g4 := frozen_blk hres 4
        have g5 := frozen_blk hres 5
        clear hres
        clear n1 n2
        go_wp2_with (first | (go_at_call 59; go_must ((first | (with_reducible refine (peekT0 (by assumption)).mono ?_) | (with_reducible refine (peekT1 (by assumption)).mono ?_) | (with_reducible refine (peekT2 (by assumption)).mono ?_)); rintro e w1 ⟨rfl, rfl⟩)))
        refine bodyPost_ret (v := tkV 37 0 false (enc o)) (by simp [results, Tryz.results95, go_sem, tkV, bsOf, r0, r1, r2, r3, r4, r5]) rfl ?_
        have hx := HF.out
        refine ⟨by rw [hx.1], ?_⟩
        rw [← hx.2, hx.1, Bool.or_true]
        exact hto4.store6 hlt _ _ _ _ _ _
    · have n1 : pk D 0 = 41 := by simpa using k1
      have HN : Hid (url D = (37, [], false, D.tail)) := by show _ = _; rw [HU.out, if_pos n1]
      have HF := Lib.hid (HI.out.end_ HN.out)
      clear n1
      go_wp2_with (first | (go_at_call 59; go_must ((first | (with_reducible refine (peekT0 (by assumption)).mono ?_) | (with_reducible refine (peekT1 (by assumption)).mono ?_) | (with_reducible refine (peekT2 (by assumption)).mono ?_)); rintro e w1 ⟨rfl, rfl⟩)))
      refine (takeT (by assumption)).mono ?_
      rintro e w1 ⟨rfl, hto1⟩
      have hres := hto1.res hlt
      have r0 := cell_blk hres 0
      have r1 := cell_blk hres 1
      have r2 := cell_blk hres 2
      have r3 := cell_blk hres 3
      have r4 := cell_blk hres 4
      have r5 := cell_blk hres 5
      have g0 := frozen_blk hres 0
      have g1 := frozen_blk hres 1
      have g2 := frozen_blk hres 2
      have g3 := frozen_blk hres 3
      have g4 := frozen_blk hres 4
      have g5 := frozen_blk hres 5
      clear hres
      go_wp2_with fail
      refine bodyPost_ret (v := tkV 37 0 false (enc o)) (by simp [results, Tryz.results95, go_sem, tkV, bsOf, r0, r1, r2, r3, r4, r5]) rfl ?_
      have hx := HF.out
      refine ⟨by rw [hx.1], ?_⟩
      rw [← hx.2, hx.1, Bool.or_false]
      exact hto1.store6 hlt _ _ _ _ _ _
end
end Go.Proofs.YtkfdcbdlcipmfaaGreatFmt
/- Walks: the reference: whether a name is url; whether a text is trimmed. -/
set_option linter.unusedVariables false
set_option linter.unusedSimpArgs false
namespace Go.Proofs.YtkfdcbdlcipmfaaGreatFmt
open Go.RowKit Css
def urlI (a b c : Int) : Bool := (a == 117 || a == 85) && (b == 114 || b == 82) && (c == 108 || c == 76)
theorem isUrlB_bt (s : ByteArray) (h : s.size = 3) : isUrlB s.data.toList = urlI (bt s 0) (bt s 1) (bt s 2) := by
  have hl : s.data.toList.length = 3 := h
  unfold bt
  match hs : s.data.toList, hl with
  | [a, b, c], _ =>
    have e : ∀ (x : UInt8) (n : Nat) (hn : n < 256), (x == UInt8.ofNat n) = (((x.toNat : Nat) : Int) == (n : Int)) := by
      intro x n hn
      rw [Bool.eq_iff_iff]
      simp only [beq_iff_eq]
      rw [← UInt8.toNat_inj, UInt8.toNat_ofNat']
      omega
    have e117 := e
    simp only [isUrlB, urlI, List.getD_cons_zero, List.getD_cons_succ]
    have f := fun x : UInt8 => e x 117 (by decide)
    have f2 := fun x : UInt8 => e x 85 (by decide)
    have f3 := fun x : UInt8 => e x 114 (by decide)
    have f4 := fun x : UInt8 => e x 82 (by decide)
    have f5 := fun x : UInt8 => e x 108 (by decide)
    have f6 := fun x : UInt8 => e x 76 (by decide)
    show ((a == UInt8.ofNat 117 || a == UInt8.ofNat 85) && (b == UInt8.ofNat 114 || b == UInt8.ofNat 82) && (c == UInt8.ofNat 108 || c == UInt8.ofNat 76)) = _
    rw [f, f2, f3, f4, f5, f6]; rfl
theorem isUrlB_len (l : List UInt8) (h : l.length ≠ 3) : isUrlB l = false := by
  unfold isUrlB
  match l, h with
  | [], _ => rfl
  | [_], _ => rfl
  | [_, _], _ => rfl
  | [_, _, _], h => exact absurd rfl h
  | _ :: _ :: _ :: _ :: _, _ => rfl
set_option maxHeartbeats 3200000 in
set_option maxRecDepth 100000 in
theorem isURL_any (s : ByteArray) (w : World) : Calls Tryz.prog 48 #[.string s] w (RetB (isUrlB s.data.toList) w) := by
  by_cases h3 : s.size = 3
  · have HU := Lib.hid (isUrlB_bt s h3)
    have hs : ((s.size : Int) == 3) = true := by simp; omega
    have hs0 : (0 : Int) < (s.size : Int) := by omega
    have hs1 : (1 : Int) < (s.size : Int) := by omega
    have hs2 : (2 : Int) < (s.size : Int) := by omega
    have hx0 := bt_get s 0
    have hx1 := bt_get s 1
    have hx2 := bt_get s 2
    clear h3
    have b0 := bt_range s 0
    have b1 := bt_range s 1
    have b2 := bt_range s 2
    generalize bt s 0 = x0 at *
    generalize bt s 1 = x1 at *
    generalize bt s 2 = x2 at *
    cases a1 : (x0 == 117) <;> cases a2 : (x0 == 85) <;> cases a3 : (x1 == 114) <;> cases a4 : (x1 == 82) <;> cases a5 : (x2 == 108) <;> cases a6 : (x2 == 76)
    all_goals
      go_enter Tryz.func48, Tryz.ntmps48
      go_wp2
      go_ret
      exact RetB.mk' (by rw [HU.out]; unfold urlI; rw [a1, a2, a3, a4, a5, a6]; rfl)
  · have HU := Lib.hid (isUrlB_len s.data.toList h3)
    have hs : ((s.size : Int) == 3) = false := by simp; omega
    clear h3
    go_enter Tryz.func48, Tryz.ntmps48
    go_wp2
    go_ret
    exact RetB.mk' (by rw [HU.out])
theorem loop_ne (bs : ByteArray) : ∀ (k i : Nat) (r : List UInt8), bs.size - i = k → (r ≠ [] ∨ i < bs.size) → ByteArray.toList.loop bs i r ≠ [] := by
  intro k
  induction k with
  | zero =>
    intro i r hk h
    rw [ByteArray.toList.loop, if_neg (by omega)]
    have : r ≠ [] := by rcases h with h | h; exact h; omega
    simpa using this
  | succ k ih =>
    intro i r hk h
    rw [ByteArray.toList.loop, if_pos (by omega)]
    exact ih (i + 1) _ (by omega) (.inl (by simp))
theorem toList_ne (s : ByteArray) (h : 0 < s.size) : s.toList ≠ [] := loop_ne s _ 0 [] rfl (.inr h)
theorem spB_int (b : UInt8) : spB b = spQ (b.toNat : Int) := by
  rw [Bool.eq_iff_iff, spQ_iff]
  have e : ∀ (n : Nat) (hn : n < 256), (b = UInt8.ofNat n) ↔ ((b.toNat : Int) = (n : Int)) := by
    intro n hn
    rw [← UInt8.toNat_inj, UInt8.toNat_ofNat']
    omega
  have f1 := e 10 (by decide)
  have f2 := e 13 (by decide)
  have f3 := e 12 (by decide)
  have f4 := e 9 (by decide)
  have f5 := e 32 (by decide)
  unfold spB isSp isNl
  simp only [Bool.or_eq_true, beq_iff_eq]
  show ((((b = UInt8.ofNat 10 ∨ b = UInt8.ofNat 13) ∨ b = UInt8.ofNat 12) ∨ b = UInt8.ofNat 9) ∨ b = UInt8.ofNat 32) ↔ _
  rw [f1, f2, f3, f4, f5]
  constructor
  · rintro ((((h | h) | h) | h) | h)
    · exact .inl (.inl h)
    · exact .inl (.inr (.inl h))
    · exact .inl (.inr (.inr h))
    · exact .inr (.inl h)
    · exact .inr (.inr h)
  · rintro ((h | h | h) | h | h)
    · exact .inl (.inl (.inl (.inl h)))
    · exact .inl (.inl (.inl (.inr h)))
    · exact .inl (.inl (.inr h))
    · exact .inl (.inr h)
    · exact .inr h
theorem trimmedB_bt (s : ByteArray) (h : 0 < s.size) : trimmedB s.data.toList = (!spQ (bt s 0) && !spQ (bt s (s.size - 1))) := by
  have hl : s.data.toList.length = s.size := rfl
  unfold trimmedB bt
  rw [spB_int, spB_int]
  cases hs : s.data.toList with
  | nil => rw [hs] at hl; simp at hl; omega
  | cons a t =>
    rw [hs] at hl
    have e : (a :: t).getLastD 0 = (a :: t).getD (s.size - 1) 0 := by
      rw [← hl, List.getLastD_cons, List.getD_eq_getElem?_getD, ← List.getLast?_eq_getElem?]
      simp [List.getLast?_cons]
    rw [e]
    simp
set_option maxHeartbeats 3200000 in
set_option maxRecDepth 100000 in
theorem trimmed_any (s : ByteArray) (hs : (s.size : Int) ≤ 1125899906842624) (w : World) : Calls Tryz.prog 96 #[.string s] w (RetB (trimmedB s.data.toList) w) := by
  by_cases h3 : s.size = 0
  · have hd : s = ⟨#[]⟩ := by
      obtain ⟨a⟩ := s
      have : a.size = 0 := h3
      rw [Array.size_eq_zero_iff] at this
      rw [this]
    subst hd
    clear h3
    go_enter Tryz.func96, Tryz.ntmps96
    go_wp2
    go_ret
    exact RetB.mk' rfl
  · have HU := Lib.hid (trimmedB_bt s (by omega))
    obtain ⟨m, hm⟩ : ∃ m : Nat, (s.size : Int) - 1 = (m : Int) := ⟨s.size - 1, by omega⟩
    have hm2 : s.size - 1 = m := by omega
    rw [hm2] at HU
    have hml : (m : Int) < (s.size : Int) := by omega
    have hs0 : (0 : Int) < (s.size : Int) := by omega
    have hse : s.toList.isEmpty = false ∧ (!s.toList.isEmpty) = true := by
      have := toList_ne s (by omega)
      simp [this]
    obtain ⟨hse1, hse2⟩ := hse
    have hx0 := bt_get s 0
    have hxm := bt_get s m
    have b0 := bt_range s 0
    have bm := bt_range s m
    clear h3 hm2
    generalize bt s 0 = x0 at *
    generalize bt s m = xm at *
    cases q1 : spQ x0 <;> cases q2 : spQ xm
    all_goals
      have Q1 := Lib.hid q1
      have Q2 := Lib.hid q2
      clear q1 q2
      go_enter Tryz.func96, Tryz.ntmps96
      go_wp2_with fail
      refine (sp_any _ _).mono ?_
      rintro e w' ⟨rfl, rfl⟩
      rw [Q1.out]
      go_wp2_with (go_at_call 64; go_must (refine (sp_any _ _).mono ?_; rintro e w' ⟨rfl, rfl⟩; rw [Q2.out]))
      go_ret
      exact RetB.mk' (by rw [HU.out, Q1.out, Q2.out]; rfl)
end Go.Proofs.YtkfdcbdlcipmfaaGreatFmt
/- Walks: the reference's lexer: names and what belongs to them (printed by genS13.py). -/
set_option linter.unusedVariables false
set_option linter.unusedSimpArgs false
namespace Go.Proofs.YtkfdcbdlcipmfaaGreatFmt
open Go.RowKit Css
theorem url_size (ds : List Int) : (enc (url ds).2.1).length ≤ 4 * ds.length := by
  have ht := fun l : List Int => List.length_tail (l := l)
  have he := fun l : List Int => escape_len l
  fun_induction url ds with
  | case1 => simp
  | case2 => simp
  | case3 => simp
  | case4 ds h1 h2 h3 h4 ih => have := spaces_len ds; omega
  | case5 => simp
  | case6 ds h1 h2 h3 h4 h5 r ih =>
    have q1 := ht ds
    have q2 := he ds.tail
    have q3 := len_of_pk h2
    have q4 := (wd_pos (escape ds.tail).1).2
    simp only []
    split
    · rw [enc_length_cons]; simp only [r] at *; omega
    · simp
  | case7 ds h1 h2 h3 h4 h5 r ih =>
    have q1 := ht ds
    have q3 := len_of_pk h2
    have q4 := (wd_pos (pk ds 0)).2
    simp only []
    split
    · rw [enc_length_cons]; simp only [r] at *; omega
    · simp
theorem hexRun_split (n : Nat) : ∀ (v : Int) (ds : List Int), ∃ X, ds = X ++ (hexRun n v ds).2 := by
  induction n with
  | zero => intro v ds; exact ⟨[], rfl⟩
  | succ n ih =>
    intro v ds
    unfold hexRun
    split
    · obtain ⟨X, h⟩ := ih (v * 16 + hexv (pk ds 0)) ds.tail
      cases ds with
      | nil => exact ⟨[], by rename_i h0; exact absurd h0 (by decide)⟩
      | cons c t => exact ⟨c :: X, by rw [List.cons_append, ← h]; rfl⟩
    · exact ⟨[], rfl⟩
theorem tail_split' (ds : List Int) : ∃ X, ds = X ++ ds.tail := by
  cases ds with
  | nil => exact ⟨[], rfl⟩
  | cons c t => exact ⟨[c], rfl⟩
theorem split_trans' {a b c : List Int} (h1 : ∃ X, a = X ++ b) (h2 : ∃ X, b = X ++ c) : ∃ X, a = X ++ c := by
  obtain ⟨X, e1⟩ := h1
  obtain ⟨Y, e2⟩ := h2
  exact ⟨X ++ Y, by rw [e1, e2, List.append_assoc]⟩
theorem newline_split (ds : List Int) : ∃ X, ds = X ++ newline ds := by
  unfold newline; split
  · exact split_trans' (tail_split' _) (tail_split' _)
  · exact tail_split' _
theorem escape_split (ds : List Int) : ∃ X, ds = X ++ (escape ds).2.2 := by
  unfold escape
  repeat' split
  · exact tail_split' _
  · exact tail_split' _
  · exact split_trans' (hexRun_split _ _ _) (newline_split _)
  · exact split_trans' (hexRun_split _ _ _) (tail_split' _)
  · exact hexRun_split _ _ _
/-- An escape that takes nothing stands at the end. -/
theorem escape_none {ds : List Int} (h : (escape ds).2.2.length = ds.length) : (escape ds).1 = 65533 := by
  cases ds with
  | nil => decide
  | cons c t =>
    exfalso
    have hr : 0 ≤ hexv c → (hexRun 6 0 (c :: t)).2.length ≤ t.length := by
      intro hc
      unfold hexRun
      rw [pk_cons_zero, if_pos hc]
      exact hexRun_len 5 _ t
    have hn := newline_len (hexRun 6 0 (c :: t)).2
    have ht := List.length_tail (l := (hexRun 6 0 (c :: t)).2)
    unfold escape at h
    rw [pk_cons_zero] at h
    by_cases hx : hexv c < 0
    · rw [if_pos hx] at h
      split at h <;> simp at h
    · rw [if_neg hx] at h
      have hr := hr (by omega)
      repeat' split at h
      all_goals simp only [List.length_cons] at h; omega
/-- What a name takes of a text: as many code points as it has, or more; if as many, and all of them low, itself. -/
theorem name_split (ds : List Int) : ∃ X, ds = X ++ (name ds).2.2 ∧ (name ds).1.length ≤ X.length ∧ (X.length = (name ds).1.length → (∀ c ∈ (name ds).1, c < 128) → X = (name ds).1) := by
  fun_induction name ds with
  | case1 ds h ih =>
    obtain ⟨X, h1, h2, h3⟩ := ih
    cases ds with
    | nil => exact absurd h (by decide)
    | cons c t =>
      simp only [pk_cons_zero, List.tail_cons] at *
      refine ⟨c :: X, by rw [List.cons_append, ← h1], by simp; omega, fun hl hc => ?_⟩
      rw [h3 (by simpa using hl) (fun d hd => hc d (by simp [hd]))]
  | case2 ds h h2 ih =>
    obtain ⟨X, h1, h2', h3⟩ := ih
    cases ds with
    | nil => have := h2.1; simp at this
    | cons c t =>
      simp only [List.tail_cons] at *
      obtain ⟨Y, hY⟩ := escape_split t
      refine ⟨c :: (Y ++ X), by rw [List.cons_append, List.append_assoc, ← h1, ← hY], by simp; omega, fun hl hc => ?_⟩
      exfalso
      have hy : Y.length = 0 := by simp at hl; omega
      have hz : (escape t).2.2.length = t.length := by
        have := congrArg List.length hY
        rw [List.length_append] at this; omega
      have := hc (escape t).1 (by simp)
      rw [escape_none hz] at this
      omega
  | case3 => exact ⟨[], rfl, Nat.le_refl _, fun _ _ => rfl⟩
theorem enc1_low {c : Int} (h : Rng c) (b : UInt8) (t : List UInt8) (e : enc1 c = b :: t) (hb : b.toNat < 128) : 0 ≤ c ∧ c < 128 ∧ t = [] := by
  unfold Rng at h
  have k : ∀ x : Int, 128 ≤ x → x < 256 → b = by8 x → False := by
    intro x h1 h2 hx
    have := by8_nat (c := x) (by omega) h2
    rw [hx] at hb; omega
  unfold enc1 at e
  split at e
  · simp only [List.cons.injEq] at e
    refine ⟨?_, by assumption, e.2.symm⟩
    by_cases h0 : 0 ≤ c
    · exact h0
    · exfalso
      have := by8_mod c
      rw [← e.1] at hb
      omega
  · exfalso
    split at e
    · simp only [List.cons.injEq] at e; exact k _ (by omega) (by omega) e.1.symm
    · split at e
      · simp only [List.cons.injEq] at e; exact k _ (by omega) (by omega) e.1.symm
      · simp only [List.cons.injEq] at e; exact k _ (by omega) (by omega) e.1.symm
/-- A name that reads url has three low code points. -/
theorem url_three {l : List Int} (hr : ∀ c ∈ l, Rng c) (h : isUrlB (enc l) = true) : l.length = 3 ∧ ∀ c ∈ l, c < 128 := by
  have h3 : (enc l).length = 3 := by
    by_cases hx : (enc l).length = 3
    · exact hx
    · rw [isUrlB_len _ hx] at h; cases h
  match he : enc l, h3 with
  | [x, y, z], _ =>
    rw [he] at h
    unfold isUrlB at h
    simp only [Bool.and_eq_true, Bool.or_eq_true, beq_iff_eq] at h
    obtain ⟨⟨hx, hy⟩, hz⟩ := h
    have lx : x.toNat < 128 := by rcases hx with rfl | rfl <;> decide
    have ly : y.toNat < 128 := by rcases hy with rfl | rfl <;> decide
    have lz : z.toNat < 128 := by rcases hz with rfl | rfl <;> decide
    have step : ∀ (c : Int) (t : List Int) (b : UInt8) (r : List UInt8), Rng c → enc (c :: t) = b :: r → b.toNat < 128 → c < 128 ∧ enc t = r := by
      intro c t b r hc e hb
      rw [enc_cons] at e
      cases hq : enc1 c with
      | nil => have q1 := enc1_length c; rw [hq] at q1; have q2 := (wd_pos c).1; simp at q1; omega
      | cons b' t' =>
        rw [hq] at e
        simp only [List.cons_append, List.cons.injEq] at e
        obtain ⟨k0, k1, k2⟩ := enc1_low hc b' t' hq (by rw [e.1]; exact hb)
        subst k2
        exact ⟨k1, by simpa using e.2⟩
    match l, he with
    | [], he => simp [enc] at he
    | c1 :: l1, he =>
      obtain ⟨k1, e1⟩ := step c1 l1 x [y, z] (hr c1 (by simp)) he lx
      match l1, e1 with
      | [], e1 => simp [enc] at e1
      | c2 :: l2, e1 =>
        obtain ⟨k2, e2⟩ := step c2 l2 y [z] (hr c2 (by simp)) e1 ly
        match l2, e2 with
        | [], e2 => simp [enc] at e2
        | c3 :: l3, e2 =>
          obtain ⟨k3, e3⟩ := step c3 l3 z [] (hr c3 (by simp)) e2 lz
          match l3, e3 with
          | [], _ =>
            refine ⟨rfl, ?_⟩
            intro c hc
            simp at hc
            rcases hc with rfl | rfl | rfl <;> assumption
          | c4 :: l4, e3 =>
            rw [enc_cons] at e3
            have q1 := enc1_length c4
            have q2 := (wd_pos c4).1
            have h0 := congrArg List.length e3
            rw [List.length_append, q1] at h0; simp at h0; omega
theorem name_rng {ds : List Int} (h : ∀ c ∈ ds, Rng c) : ∀ c ∈ (name ds).1, Rng c := by
  fun_induction name ds with
  | case1 ds h1 ih =>
    intro c hc
    simp at hc
    rcases hc with rfl | hc
    · exact pk_rng h 0
    · exact ih (tail_rng h) c hc
  | case2 ds h1 h2 ih =>
    intro c hc
    simp at hc
    rcases hc with rfl | hc
    · exact escape_rng (tail_rng h)
    · exact ih (fun x hx => h x (List.mem_of_mem_tail (escape_mem _ x hx))) c hc
  | case3 => simp
/-- Whether a name that reads url has escapes: told by bytes as by code points. -/
theorem url_short {s : ByteArray} {ds : List Int} (hs : Suf s ds) (h : isUrlB (enc (name ds).1) = true) : ((pos s (name ds).2.2 : Int) - pos s ds = 3) ↔ ds.length - (name ds).2.2.length = 3 := by
  obtain ⟨X, e, h1, h2⟩ := name_split ds
  obtain ⟨k1, k2⟩ := url_three (name_rng (suf_rng hs)) h
  have hb := hs.bw_le
  generalize hR : (name ds).2.2 = R at *
  generalize hN : (name ds).1 = N at *
  have e1 : ds.length - R.length = X.length := by rw [e, List.length_append]; omega
  have e2 : (pos s R : Int) - pos s ds = (bw X : Int) := by
    have hbw : bw ds = bw X + bw R := by rw [e, bw_append]
    unfold pos; rw [hbw] at hb ⊢; omega
  rw [e1, e2]
  have hw := len_le_bw X
  constructor
  · intro h3; omega
  · intro h3
    have := h2 (by omega) k2
    rw [this, bw_ascii k2]; omega
section
variable {b : Nat} {s : ByteArray} {ds : List Int} {cv : Value} {op : Bool} {w : World}
def NdR (b : Nat) (s : ByteArray) (ds : List Int) (cv : Value) (op : Bool) (w : World) (e : Ending) (w' : World) : Prop :=
  e = .returned (tkV (named ds).1.kind 0 false (enc (named ds).1.text)) ∧ To b s (named ds).2.2 cv (op || (named ds).2.1) w w'
theorem To.far {w0 w : World} (h : To b s ds cv op w0 w) {p : Addr} (hb : p.block ≠ b) (hp : w0.heap.size ≤ p.block) (u : Value) : To b s ds cv op w0 (w.setCell p u) :=
  ⟨h.lx.same (Below.heap_setCell _ _ _ _ (Ne.symm hb)), h.lk.os, h.lk.tape, h.lk.output, by have := h.lk.size; simpa [World.setCell] using this, fun i hi hb' => (Below.heap_setCell _ _ _ _ (by omega)).trans (h.lk.block i hi hb')⟩
theorem To.alloc {w0 w : World} (h : To b s ds cv op w0 w) (o : Obj) : To b s ds cv op w0 (w.alloc o) := h.below ((Below.refl _ _).alloc (Nat.le_refl _) o)
theorem To.stored {w0 w : World} (h : To b s ds cv op w0 w) (o : Obj) (u0 u1 u2 u3 u4 u5 : Value) :
    To b s ds cv op w0 (((((((w.alloc o).setCell ⟨w.heap.size, 0, none⟩ u0).setCell ⟨w.heap.size, 1, none⟩ u1).setCell ⟨w.heap.size, 2, none⟩ u2).setCell ⟨w.heap.size, 3, none⟩ u3).setCell ⟨w.heap.size, 4, none⟩ u4).setCell ⟨w.heap.size, 5, none⟩ u5) := by
  have hb : w.heap.size ≠ b := by have := h.lx.lt; omega
  have hp := h.lk.size
  exact ((((((h.alloc o).far hb hp u0).far hb hp u1).far hb hp u2).far hb hp u3).far hb hp u4).far hb hp u5
theorem urlT {w0 : World} (h : To b s ds cv op w0 w) : Calls Tryz.prog 95 #[.pointer (some ⟨b, 0, none⟩)] w fun e w' => e = .returned (.agg #[.int .i64 (url ds).1, .int .i64 0, .int .i64 0, .int .i64 0, .bool false, .string (bsOf (enc (url ds).2.1))]) ∧ To b s (url ds).2.2.2 cv (op || (url ds).2.2.1) w0 w' :=
  (url_any h.lx).mono fun _ _ k => ⟨k.1, h.then k.2⟩
set_option maxHeartbeats 6400000 in
set_option maxRecDepth 100000 in
theorem named_any (h : LX b s ds cv op w) : Calls Tryz.prog 70 #[.pointer (some ⟨b, 0, none⟩)] w (NdR b s ds cv op w) := by
  have HL := Lib.hid h
  have hlt := h.lt
  have hc1 := h.c1
  have hpos : (pos s ds : Int) ≤ 140737488355328 := by have := @pos_le s ds; have := h.small; omega
  clear h
  rename World => w0
  have hto0 : To b s ds cv op (w0.alloc (.cells #[.int .i64 0, .int .i64 0, .int .i64 0, .int .i64 0, .bool false, .string ⟨#[]⟩] 62)) (w0.alloc (.cells #[.int .i64 0, .int .i64 0, .int .i64 0, .int .i64 0, .bool false, .string ⟨#[]⟩] 62)) := To.start HL.out _
  have HU : Hid (named ds = if pk (name ds).2.2 0 ≠ 40 then (⟨29, 0, (name ds).1⟩, (name ds).2.1, (name ds).2.2) else if isUrlB (enc (name ds).1) = true ∧ pk (spaces (name ds).2.2.tail) 0 ≠ 34 ∧ pk (spaces (name ds).2.2.tail) 0 ≠ 39 then
    (⟨(url (spaces (name ds).2.2.tail)).1, 0, (url (spaces (name ds).2.2.tail)).2.1⟩, (name ds).2.1 || (url (spaces (name ds).2.2.tail)).2.2.1 || decide (ds.length - (name ds).2.2.length ≠ 3) || !trimmedB (enc (url (spaces (name ds).2.2.tail)).2.1), (url (spaces (name ds).2.2.tail)).2.2.2)
    else (⟨27, 0, (name ds).1⟩, (name ds).2.1, (name ds).2.2.tail)) := by show _ = _; unfold named; rfl
  have HSH := Lib.hid (url_short HL.out.suf)
  go_enter Tryz.func70, Tryz.ntmps70
  go_wp2_with fail
  refine (nameT (by assumption)).mono ?_
  rintro e w1 ⟨rfl, hto⟩
  clear hto0 hc1
  generalize hR : (name ds).2.2 = R at hto HU HSH
  generalize hN : (name ds).1 = N at HU HSH ⊢
  generalize hO : (op || (name ds).2.1) = op1 at hto
  have HO : Hid (∀ x, (op || ((name ds).2.1 || x)) = (op1 || x)) := fun x => by rw [← hO, Bool.or_assoc]
  have HO1 := Lib.hid hO
  clear hR hN hO
  have hc1 := hto.lx.c1
  have hp3 : (pos s R : Int) ≤ 140737488355328 := by have := @pos_le s R; have := HL.out.small; omega
  generalize hps : (pos s R : Int) - pos s ds = dp at HSH
  cases k1 : (pk R 0 == 40)
  · have k2 : (pk R 0 != 40) = true := by simpa using k1
    have HF : Hid (named ds = (⟨29, 0, N⟩, (name ds).2.1, R)) := by show _ = _; rw [HU.out, if_pos (by simpa using k1)]
    have hres := hto.res hlt
    have r0 := cell_blk hres 0
    have r1 := cell_blk hres 1
    have r2 := cell_blk hres 2
    have r3 := cell_blk hres 3
    have r4 := cell_blk hres 4
    have r5 := cell_blk hres 5
    have g0 := frozen_blk hres 0
    have g1 := frozen_blk hres 1
    have g2 := frozen_blk hres 2
    have g3 := frozen_blk hres 3
    have g4 := frozen_blk hres 4
    have g5 := frozen_blk hres 5
    clear hres
    go_wp2_with (go_at_call 59; go_must ((first | (with_reducible refine (peekT0 (by assumption)).mono ?_) | (with_reducible refine (peekT1 (by assumption)).mono ?_) | (with_reducible refine (peekT2 (by assumption)).mono ?_)); rintro e w1 ⟨rfl, rfl⟩))
    refine bodyPost_ret (v := tkV 29 0 false (enc N)) (by simp [results, Tryz.results70, go_sem, tkV, bsOf, r0, r1, r2, r3, r4, r5]) rfl ?_
    refine ⟨by rw [HF.out], ?_⟩
    rw [HF.out]
    show To b s R cv (op || (name ds).2.1) _ _
    rw [HO1.out]
    exact hto.store6 hlt _ _ _ _ _ _
  · have k2 : (pk R 0 != 40) = false := by simpa using k1
    have HK : Hid (named ds = if isUrlB (enc N) = true ∧ pk (spaces R.tail) 0 ≠ 34 ∧ pk (spaces R.tail) 0 ≠ 39 then
    (⟨(url (spaces R.tail)).1, 0, (url (spaces R.tail)).2.1⟩, (name ds).2.1 || (url (spaces R.tail)).2.2.1 || decide (ds.length - R.length ≠ 3) || !trimmedB (enc (url (spaces R.tail)).2.1), (url (spaces R.tail)).2.2.2)
    else (⟨27, 0, N⟩, (name ds).2.1, R.tail)) := by show _ = _; rw [HU.out, if_neg (by simpa using k1)]
    cases k3 : isUrlB (enc N)
    · have K3 := Lib.hid (show isUrlB (bsOf (enc N)).data.toList = false by rw [bsOf_list]; exact k3)
      have HF : Hid (named ds = (⟨27, 0, N⟩, (name ds).2.1, R.tail)) := by show _ = _; rw [HK.out, if_neg (by rw [k3]; simp)]
      clear k3
      go_wp2_with (go_at_call 59; go_must ((first | (with_reducible refine (peekT0 (by assumption)).mono ?_) | (with_reducible refine (peekT1 (by assumption)).mono ?_) | (with_reducible refine (peekT2 (by assumption)).mono ?_)); rintro e w1 ⟨rfl, rfl⟩))
      refine (takeT (by assumption)).mono ?_
      rintro e w2 ⟨rfl, hto2⟩
      have hres := hto2.res hlt
      have r0 := cell_blk hres 0
      have r1 := cell_blk hres 1
      have r2 := cell_blk hres 2
      have r3 := cell_blk hres 3
      have r4 := cell_blk hres 4
      have r5 := cell_blk hres 5
      have g0 := frozen_blk hres 0
      have g1 := frozen_blk hres 1
      have g2 := frozen_blk hres 2
      have g3 := frozen_blk hres 3
      have g4 := frozen_blk hres 4
      have g5 := frozen_blk hres 5
      clear hres
      go_wp2_with (go_at_call 48; go_must (refine (isURL_any _ _).mono ?_; rintro e w1 ⟨rfl, rfl⟩; rw [K3.out]))
      refine bodyPost_ret (v := tkV 27 0 false (enc N)) (by simp [results, Tryz.results70, go_sem, tkV, bsOf, r0, r1, r2, r3, r4, r5]) rfl ?_
      refine ⟨by rw [HF.out], ?_⟩
      rw [HF.out]
      show To b s R.tail cv (op || (name ds).2.1) _ _
      rw [HO1.out]
      exact hto2.store6 hlt _ _ _ _ _ _
    · have K3 := Lib.hid (show isUrlB (bsOf (enc N)).data.toList = true by rw [bsOf_list]; exact k3)
      have HSH2 : Hid ((dp = 3) ↔ ds.length - R.length = 3) := HSH.out k3
      have HK3 := Lib.hid k3
      clear k3
      go_wp2_with (go_at_call 59; go_must ((first | (with_reducible refine (peekT0 (by assumption)).mono ?_) | (with_reducible refine (peekT1 (by assumption)).mono ?_) | (with_reducible refine (peekT2 (by assumption)).mono ?_)); rintro e w1 ⟨rfl, rfl⟩))
      refine (takeT (by assumption)).mono ?_
      rintro e w2 ⟨rfl, hto2⟩
      have HT2 := Lib.hid hto2
      have hc1 := hto2.lx.c1
      go_wp2_with (go_at_call 48; go_must (refine (isURL_any _ _).mono ?_; rintro e w1 ⟨rfl, rfl⟩; rw [K3.out]))
      clear hto2
      go_loopg [] R.tail.length (fun k wr => ∃ D : List Int, D.length = k ∧ Hid (spaces D = spaces R.tail) ∧ Hid (To b s D cv op1 (w0.alloc (.cells #[.int .i64 0, .int .i64 0, .int .i64 0, .int .i64 0, .bool false, .string ⟨#[]⟩] 62)) wr))
      case atStart => exact ⟨R.tail, rfl, rfl, HT2.out⟩
      case round =>
        obtain ⟨D, hD, HD, HT⟩ := hrel
        have hto := HT.out
        cases hd : spQ (pk D 0)
        · have N0 := Lib.hid hd
          have HN : Hid (D = spaces R.tail) := by
            show _ = _
            rw [← HD.out]; symm; apply spaces_stop
            intro hx; rw [spQ_iff.2 hx] at hd; cases hd
          clear hd
          cases q1 : (pk D 0 == 34)
          · cases q2 : (pk D 0 == 39)
            · have m1 : (pk D 0 != 34) = true := by simpa using q1
              have m2 : (pk D 0 != 39) = true := by simpa using q2
              have HF : Hid (named ds = (⟨(url D).1, 0, (url D).2.1⟩, (name ds).2.1 || (url D).2.2.1 || decide (ds.length - R.length ≠ 3) || !trimmedB (enc (url D).2.1), (url D).2.2.2)) := by
                show _ = _; rw [HK.out, if_pos ⟨HK3.out, by rw [← HN.out]; simpa using q1, by rw [← HN.out]; simpa using q2⟩, ← HN.out]
              go_wp2_with (first | (go_at_call 59; go_must ((first | (with_reducible refine (peekT0 (by assumption)).mono ?_) | (with_reducible refine (peekT1 (by assumption)).mono ?_) | (with_reducible refine (peekT2 (by assumption)).mono ?_)); rintro e w1 ⟨rfl, rfl⟩)) | (go_at_call 64; go_must (refine (sp_any _ _).mono ?_; rintro e w1 ⟨rfl, rfl⟩; rw [N0.out])))
              refine (urlT (by assumption)).mono ?_
              rintro e w3 ⟨rfl, hto3⟩
              clear q1 q2 m1 m2
              have HTR := Lib.hid (show (trimmedB (bsOf (enc (url D).2.1)).data.toList) = trimmedB (enc (url D).2.1) by rw [bsOf_list])
              have HSZ : Hid (((bsOf (enc (url D).2.1)).size : Int) ≤ 1125899906842624) := by
                go_light
                show _ ≤ _
                have h1 := url_size D
                have h2 := suf_len HT.out.lx.suf
                have h3 := HT.out.lx.small
                rw [bsOf_size]; omega
              generalize hT : enc (url D).2.1 = tx at HTR HSZ HF ⊢
              generalize hK : (url D).1 = kk at HF ⊢
              generalize hop3 : (op1 || (url D).2.2.1) = op3 at hto3
              have HOP3 := Lib.hid hop3
              have HTX := Lib.hid hT
              clear hop3 hT hK
              have hz : w0.heap.size < w3.heap.size := by have := hto3.lk.size; simp at this; omega
              have hz2 : b < w3.heap.size := hto3.lx.lt
              have hc3 := hto3.lx.c3
              have hf3 := hto3.lx.f 3
              have hways : (op3 = true ∧ Hid ((op3 || (!(dp == 3) || !trimmedB tx)) = true)) ∨ (op3 = false ∧ (dp == 3) = false ∧ Hid ((op3 || (!(dp == 3) || !trimmedB tx)) = true)) ∨ (op3 = false ∧ (dp == 3) = true ∧ Hid (trimmedB tx = true) ∧ Hid ((op3 || (!(dp == 3) || !trimmedB tx)) = false)) ∨ (op3 = false ∧ (dp == 3) = true ∧ Hid (trimmedB tx = false) ∧ Hid ((op3 || (!(dp == 3) || !trimmedB tx)) = true)) := by
                have hid : ∀ p : Prop, Hid p = p := fun _ => rfl
                simp only [hid]
                cases op3 <;> cases hq : (dp == 3) <;> cases hr : trimmedB tx <;> simp
              have HPL : Hid ((op || ((name ds).2.1 || (url D).2.2.1 || decide (ds.length - R.length ≠ 3) || !trimmedB tx)) = (op3 || (!(dp == 3) || !trimmedB tx))) := by
                show _ = _
                rw [← HOP3.out, ← HO1.out]
                have : decide (ds.length - R.length ≠ 3) = !(dp == 3) := by
                  have h9 := HSH2.out
                  by_cases hq : dp = 3
                  · have := h9.1 hq; simp [hq, this]
                  · have : ¬ ds.length - R.length = 3 := fun h => hq (h9.2 h)
                    simp [hq, this]
                rw [this]
                simp [Bool.or_assoc]
              rcases hways with ⟨h3, HV⟩ | ⟨h3, hd3, HV⟩ | ⟨h3, hd3, HTT, HV⟩ | ⟨h3, hd3, HTT, HV⟩
              · rw [h3] at hc3
                go_upto_region 15 with (fail)
                have hto9 := (hto3.open_ true).alloc (.cells #[.int .i64 kk, .int .i64 0, .int .i64 0, .int .i64 0, .bool false, .string (bsOf tx)] 62)
                have ht8 : ((w3.setCell ⟨b, 3, none⟩ (.bool true)).alloc (.cells #[.int .i64 kk, .int .i64 0, .int .i64 0, .int .i64 0, .bool false, .string (bsOf tx)] 62)).heap[w3.heap.size]? = some (.cells #[.int .i64 kk, .int .i64 0, .int .i64 0, .int .i64 0, .bool false, .string (bsOf tx)] 62 (0, 0)) := by
                  have h8 := heap_alloc_new (w3.setCell ⟨b, 3, none⟩ (.bool true)) (.cells #[.int .i64 kk, .int .i64 0, .int .i64 0, .int .i64 0, .bool false, .string (bsOf tx)] 62)
                  rw [show (w3.setCell ⟨b, 3, none⟩ (.bool true)).heap.size = w3.heap.size by simp [World.setCell]] at h8
                  exact h8
                generalize (w3.setCell ⟨b, 3, none⟩ (.bool true)).alloc (.cells #[.int .i64 kk, .int .i64 0, .int .i64 0, .int .i64 0, .bool false, .string (bsOf tx)] 62) = W9 at hto9 ht8 ⊢
                have t0 := cell_blk ht8 0
                have t1 := cell_blk ht8 1
                have t2 := cell_blk ht8 2
                have t3 := cell_blk ht8 3
                have t4 := cell_blk ht8 4
                have t5 := cell_blk ht8 5
                clear ht8 hc3 hf3
                have hres := hto9.res hlt
                have r0 := cell_blk hres 0
                have r1 := cell_blk hres 1
                have r2 := cell_blk hres 2
                have r3 := cell_blk hres 3
                have r4 := cell_blk hres 4
                have r5 := cell_blk hres 5
                have g0 := frozen_blk hres 0
                have g1 := frozen_blk hres 1
                have g2 := frozen_blk hres 2
                have g3 := frozen_blk hres 3
                have g4 := frozen_blk hres 4
                have g5 := frozen_blk hres 5
                clear hres
                go_wp2_with fail
                refine bodyPost_ret (v := tkV kk 0 false tx) (by simp [results, Tryz.results70, go_sem, tkV, bsOf, r0, r1, r2, r3, r4, r5]) rfl ?_
                refine ⟨by rw [HF.out]; show _ = Ending.returned (tkV kk 0 false (enc (url D).2.1)); rw [HTX.out], ?_⟩
                rw [HF.out]
                show To b s (url D).2.2.2 cv (op || ((name ds).2.1 || (url D).2.2.1 || decide (ds.length - R.length ≠ 3) || !trimmedB tx)) _ _
                rw [HPL.out, HV.out]
                exact hto9.store6 hlt _ _ _ _ _ _
              · rw [h3] at hc3
                go_upto_region 15 with (fail)
                have hto9 := (hto3.open_ true).alloc (.cells #[.int .i64 kk, .int .i64 0, .int .i64 0, .int .i64 0, .bool false, .string (bsOf tx)] 62)
                have ht8 : ((w3.setCell ⟨b, 3, none⟩ (.bool true)).alloc (.cells #[.int .i64 kk, .int .i64 0, .int .i64 0, .int .i64 0, .bool false, .string (bsOf tx)] 62)).heap[w3.heap.size]? = some (.cells #[.int .i64 kk, .int .i64 0, .int .i64 0, .int .i64 0, .bool false, .string (bsOf tx)] 62 (0, 0)) := by
                  have h8 := heap_alloc_new (w3.setCell ⟨b, 3, none⟩ (.bool true)) (.cells #[.int .i64 kk, .int .i64 0, .int .i64 0, .int .i64 0, .bool false, .string (bsOf tx)] 62)
                  rw [show (w3.setCell ⟨b, 3, none⟩ (.bool true)).heap.size = w3.heap.size by simp [World.setCell]] at h8
                  exact h8
                generalize (w3.setCell ⟨b, 3, none⟩ (.bool true)).alloc (.cells #[.int .i64 kk, .int .i64 0, .int .i64 0, .int .i64 0, .bool false, .string (bsOf tx)] 62) = W9 at hto9 ht8 ⊢
                have t0 := cell_blk ht8 0
                have t1 := cell_blk ht8 1
                have t2 := cell_blk ht8 2
                have t3 := cell_blk ht8 3
                have t4 := cell_blk ht8 4
                have t5 := cell_blk ht8 5
                clear ht8 hc3 hf3
                have hres := hto9.res hlt
                have r0 := cell_blk hres 0
                have r1 := cell_blk hres 1
                have r2 := cell_blk hres 2
                have r3 := cell_blk hres 3
                have r4 := cell_blk hres 4
                have r5 := cell_blk hres 5
                have g0 := frozen_blk hres 0
                have g1 := frozen_blk hres 1
                have g2 := frozen_blk hres 2
                have g3 := frozen_blk hres 3
                have g4 := frozen_blk hres 4
                have g5 := frozen_blk hres 5
                clear hres
                go_wp2_with fail
                refine bodyPost_ret (v := tkV kk 0 false tx) (by simp [results, Tryz.results70, go_sem, tkV, bsOf, r0, r1, r2, r3, r4, r5]) rfl ?_
                refine ⟨by rw [HF.out]; show _ = Ending.returned (tkV kk 0 false (enc (url D).2.1)); rw [HTX.out], ?_⟩
                rw [HF.out]
                show To b s (url D).2.2.2 cv (op || ((name ds).2.1 || (url D).2.2.1 || decide (ds.length - R.length ≠ 3) || !trimmedB tx)) _ _
                rw [HPL.out, HV.out]
                exact hto9.store6 hlt _ _ _ _ _ _
              · rw [h3] at hc3
                go_upto_region 15 with ((go_at_call 96; go_must (refine (trimmed_any _ HSZ.out _).mono ?_; rintro e w1 ⟨rfl, rfl⟩; rw [HTR.out, HTT.out])))
                have hto9 := (hto3.open_ false).alloc (.cells #[.int .i64 kk, .int .i64 0, .int .i64 0, .int .i64 0, .bool false, .string (bsOf tx)] 62)
                have ht8 : ((w3.setCell ⟨b, 3, none⟩ (.bool false)).alloc (.cells #[.int .i64 kk, .int .i64 0, .int .i64 0, .int .i64 0, .bool false, .string (bsOf tx)] 62)).heap[w3.heap.size]? = some (.cells #[.int .i64 kk, .int .i64 0, .int .i64 0, .int .i64 0, .bool false, .string (bsOf tx)] 62 (0, 0)) := by
                  have h8 := heap_alloc_new (w3.setCell ⟨b, 3, none⟩ (.bool false)) (.cells #[.int .i64 kk, .int .i64 0, .int .i64 0, .int .i64 0, .bool false, .string (bsOf tx)] 62)
                  rw [show (w3.setCell ⟨b, 3, none⟩ (.bool false)).heap.size = w3.heap.size by simp [World.setCell]] at h8
                  exact h8
                generalize (w3.setCell ⟨b, 3, none⟩ (.bool false)).alloc (.cells #[.int .i64 kk, .int .i64 0, .int .i64 0, .int .i64 0, .bool false, .string (bsOf tx)] 62) = W9 at hto9 ht8 ⊢
                have t0 := cell_blk ht8 0
                have t1 := cell_blk ht8 1
                have t2 := cell_blk ht8 2
                have t3 := cell_blk ht8 3
                have t4 := cell_blk ht8 4
                have t5 := cell_blk ht8 5
                clear ht8 hc3 hf3
                have hres := hto9.res hlt
                have r0 := cell_blk hres 0
                have r1 := cell_blk hres 1
                have r2 := cell_blk hres 2
                have r3 := cell_blk hres 3
                have r4 := cell_blk hres 4
                have r5 := cell_blk hres 5
                have g0 := frozen_blk hres 0
                have g1 := frozen_blk hres 1
                have g2 := frozen_blk hres 2
                have g3 := frozen_blk hres 3
                have g4 := frozen_blk hres 4
                have g5 := frozen_blk hres 5
                clear hres
                go_wp2_with fail
                refine bodyPost_ret (v := tkV kk 0 false tx) (by simp [results, Tryz.results70, go_sem, tkV, bsOf, r0, r1, r2, r3, r4, r5]) rfl ?_
                refine ⟨by rw [HF.out]; show _ = Ending.returned (tkV kk 0 false (enc (url D).2.1)); rw [HTX.out], ?_⟩
                rw [HF.out]
                show To b s (url D).2.2.2 cv (op || ((name ds).2.1 || (url D).2.2.1 || decide (ds.length - R.length ≠ 3) || !trimmedB tx)) _ _
                rw [HPL.out, HV.out]
                exact hto9.store6 hlt _ _ _ _ _ _
              · rw [h3] at hc3
                go_upto_region 15 with ((go_at_call 96; go_must (refine (trimmed_any _ HSZ.out _).mono ?_; rintro e w1 ⟨rfl, rfl⟩; rw [HTR.out, HTT.out])))
                have hto9 := (hto3.open_ true).alloc (.cells #[.int .i64 kk, .int .i64 0, .int .i64 0, .int .i64 0, .bool false, .string (bsOf tx)] 62)
                have ht8 : ((w3.setCell ⟨b, 3, none⟩ (.bool true)).alloc (.cells #[.int .i64 kk, .int .i64 0, .int .i64 0, .int .i64 0, .bool false, .string (bsOf tx)] 62)).heap[w3.heap.size]? = some (.cells #[.int .i64 kk, .int .i64 0, .int .i64 0, .int .i64 0, .bool false, .string (bsOf tx)] 62 (0, 0)) := by
                  have h8 := heap_alloc_new (w3.setCell ⟨b, 3, none⟩ (.bool true)) (.cells #[.int .i64 kk, .int .i64 0, .int .i64 0, .int .i64 0, .bool false, .string (bsOf tx)] 62)
                  rw [show (w3.setCell ⟨b, 3, none⟩ (.bool true)).heap.size = w3.heap.size by simp [World.setCell]] at h8
                  exact h8
                generalize (w3.setCell ⟨b, 3, none⟩ (.bool true)).alloc (.cells #[.int .i64 kk, .int .i64 0, .int .i64 0, .int .i64 0, .bool false, .string (bsOf tx)] 62) = W9 at hto9 ht8 ⊢
                have t0 := cell_blk ht8 0
                have t1 := cell_blk ht8 1
                have t2 := cell_blk ht8 2
                have t3 := cell_blk ht8 3
                have t4 := cell_blk ht8 4
                have t5 := cell_blk ht8 5
                clear ht8 hc3 hf3
                have hres := hto9.res hlt
                have r0 := cell_blk hres 0
                have r1 := cell_blk hres 1
                have r2 := cell_blk hres 2
                have r3 := cell_blk hres 3
                have r4 := cell_blk hres 4
                have r5 := cell_blk hres 5
                have g0 := frozen_blk hres 0
                have g1 := frozen_blk hres 1
                have g2 := frozen_blk hres 2
                have g3 := frozen_blk hres 3
                have g4 := frozen_blk hres 4
                have g5 := frozen_blk hres 5
                clear hres
                go_wp2_with fail
                refine bodyPost_ret (v := tkV kk 0 false tx) (by simp [results, Tryz.results70, go_sem, tkV, bsOf, r0, r1, r2, r3, r4, r5]) rfl ?_
                refine ⟨by rw [HF.out]; show _ = Ending.returned (tkV kk 0 false (enc (url D).2.1)); rw [HTX.out], ?_⟩
                rw [HF.out]
                show To b s (url D).2.2.2 cv (op || ((name ds).2.1 || (url D).2.2.1 || decide (ds.length - R.length ≠ 3) || !trimmedB tx)) _ _
                rw [HPL.out, HV.out]
                exact hto9.store6 hlt _ _ _ _ _ _
            · have m1 : (pk D 0 != 34) = true := by simpa using q1
              have m2 : (pk D 0 != 39) = false := by simpa using q2
              have HF : Hid (named ds = (⟨27, 0, N⟩, (name ds).2.1, R.tail)) := by
                show _ = _; rw [HK.out, if_neg]; rintro ⟨_, h1, h2⟩; rw [← HN.out] at h1 h2; have h3 := q2; simp at h3; first | exact h1 h3 | exact h2 h3
              have hto9 : To b s R.tail cv op1 (w0.alloc (.cells #[.int .i64 0, .int .i64 0, .int .i64 0, .int .i64 0, .bool false, .string ⟨#[]⟩] 62)) (wr.setCell ⟨b, 1, none⟩ (.int .i64 (pos s R.tail : Nat))) := ⟨hto.lx.setAt HT2.out.lx.suf rfl, hto.lk.set_ _ _⟩
              have hc1 := hto.lx.c1
              have hf1 := hto.lx.f 1
              have hres := hto.res hlt
              have r0 := cell_blk hres 0
              have r1 := cell_blk hres 1
              have r2 := cell_blk hres 2
              have r3 := cell_blk hres 3
              have r4 := cell_blk hres 4
              have r5 := cell_blk hres 5
              have g0 := frozen_blk hres 0
              have g1 := frozen_blk hres 1
              have g2 := frozen_blk hres 2
              have g3 := frozen_blk hres 3
              have g4 := frozen_blk hres 4
              have g5 := frozen_blk hres 5
              clear hres
              go_wp2_with (first | (go_at_call 59; go_must ((first | (with_reducible refine (peekT0 (by assumption)).mono ?_) | (with_reducible refine (peekT1 (by assumption)).mono ?_) | (with_reducible refine (peekT2 (by assumption)).mono ?_)); rintro e w1 ⟨rfl, rfl⟩)) | (go_at_call 64; go_must (refine (sp_any _ _).mono ?_; rintro e w1 ⟨rfl, rfl⟩; rw [N0.out])))
              refine bodyPost_ret (v := tkV 27 0 false (enc N)) (by simp [results, Tryz.results70, go_sem, tkV, bsOf, r0, r1, r2, r3, r4, r5]) rfl ?_
              refine ⟨by rw [HF.out], ?_⟩
              rw [HF.out]
              show To b s R.tail cv (op || (name ds).2.1) _ _
              rw [HO1.out]
              exact hto9.store6 hlt _ _ _ _ _ _
          · have m1 : (pk D 0 != 34) = false := by simpa using q1
            have HF : Hid (named ds = (⟨27, 0, N⟩, (name ds).2.1, R.tail)) := by
              show _ = _; rw [HK.out, if_neg]; rintro ⟨_, h1, h2⟩; rw [← HN.out] at h1 h2; have h3 := q1; simp at h3; first | exact h1 h3 | exact h2 h3
            have hto9 : To b s R.tail cv op1 (w0.alloc (.cells #[.int .i64 0, .int .i64 0, .int .i64 0, .int .i64 0, .bool false, .string ⟨#[]⟩] 62)) (wr.setCell ⟨b, 1, none⟩ (.int .i64 (pos s R.tail : Nat))) := ⟨hto.lx.setAt HT2.out.lx.suf rfl, hto.lk.set_ _ _⟩
            have hc1 := hto.lx.c1
            have hf1 := hto.lx.f 1
            have hres := hto.res hlt
            have r0 := cell_blk hres 0
            have r1 := cell_blk hres 1
            have r2 := cell_blk hres 2
            have r3 := cell_blk hres 3
            have r4 := cell_blk hres 4
            have r5 := cell_blk hres 5
            have g0 := frozen_blk hres 0
            have g1 := frozen_blk hres 1
            have g2 := frozen_blk hres 2
            have g3 := frozen_blk hres 3
            have g4 := frozen_blk hres 4
            have g5 := frozen_blk hres 5
            clear hres
            go_wp2_with (first | (go_at_call 59; go_must ((first | (with_reducible refine (peekT0 (by assumption)).mono ?_) | (with_reducible refine (peekT1 (by assumption)).mono ?_) | (with_reducible refine (peekT2 (by assumption)).mono ?_)); rintro e w1 ⟨rfl, rfl⟩)) | (go_at_call 64; go_must (refine (sp_any _ _).mono ?_; rintro e w1 ⟨rfl, rfl⟩; rw [N0.out])))
            refine bodyPost_ret (v := tkV 27 0 false (enc N)) (by simp [results, Tryz.results70, go_sem, tkV, bsOf, r0, r1, r2, r3, r4, r5]) rfl ?_
            refine ⟨by rw [HF.out], ?_⟩
            rw [HF.out]
            show To b s R.tail cv (op || (name ds).2.1) _ _
            rw [HO1.out]
            exact hto9.store6 hlt _ _ _ _ _ _
        · have hx := spQ_iff.1 hd
          have N0 := Lib.hid hd
          have HLT : Hid (D.tail.length < D.length) := pk_lt (by intro h0; rw [h0] at hx; revert hx; decide)
          have HN : Hid (spaces D.tail = spaces R.tail) := by
            show _ = _
            rw [← HD.out]
            cases D with
            | nil => rfl
            | cons c t => rw [spaces, if_pos (by simpa using hx)]; rfl
          clear hx hd
          go_wp2_with (first | (go_at_call 59; go_must ((first | (with_reducible refine (peekT0 (by assumption)).mono ?_) | (with_reducible refine (peekT1 (by assumption)).mono ?_) | (with_reducible refine (peekT2 (by assumption)).mono ?_)); rintro e w1 ⟨rfl, rfl⟩)) | (go_at_call 64; go_must (refine (sp_any _ _).mono ?_; rintro e w1 ⟨rfl, rfl⟩; rw [N0.out])))
          refine (takeT (by assumption)).mono ?_
          rintro e w3 ⟨rfl, hto3⟩
          go_wp2_with fail
          go_roundg D.tail.length
          case measure => have := HLT.out; omega
          case rel => exact ⟨D.tail, rfl, HN.out, hto3⟩
end
end Go.Proofs.YtkfdcbdlcipmfaaGreatFmt
