/- Walks: the reference's lexer: the next token (printed by genS15.py). -/
import Derived.Test.YtkfdcbdlcipmfaaGreatFmtH30
set_option linter.unusedVariables false
set_option linter.unusedSimpArgs false
namespace Go.Proofs.YtkfdcbdlcipmfaaGreatFmt
open Go.RowKit Css
section
variable {b : Nat} {s : ByteArray} {ds : List Int} {cv : Value} {op : Bool} {w0 w : World}
theorem quotedT (h : To b s ds cv op w0 w) (hq : pk ds 0 = 34 ∨ pk ds 0 = 39) : Calls Tryz.prog 66 #[.pointer (some ⟨b, 0, none⟩)] w fun e w' => e = .returned (.agg #[.int .i64 (quotedRun (pk ds 0) ds.tail).1, .int .i64 0, .int .i64 0, .int .i64 0, .bool false, .string (bsOf (enc (quotedRun (pk ds 0) ds.tail).2.1))]) ∧ To b s (quotedRun (pk ds 0) ds.tail).2.2.2 cv (op || (quotedRun (pk ds 0) ds.tail).2.2.1) w0 w' :=
  (quoted_any h.lx (pk ds 0) rfl hq).mono fun _ _ k => ⟨k.1, h.then k.2⟩
theorem numericT (h : To b s ds cv op w0 w) : Calls Tryz.prog 69 #[.pointer (some ⟨b, 0, none⟩)] w fun e w' => e = .returned (.agg #[.int .i64 (numeric ds).1.kind, .int .i64 0, .int .i64 0, .int .i64 ((numeric ds).1.unit : Nat), .bool false, .string ⟨#[]⟩]) ∧ To b s (numeric ds).2.2 cv (op || (numeric ds).2.1) w0 w' :=
  (numeric_any h.lx).mono fun _ _ k => ⟨k.1, h.then k.2⟩
theorem namedT (h : To b s ds cv op w0 w) : Calls Tryz.prog 70 #[.pointer (some ⟨b, 0, none⟩)] w fun e w' => e = .returned (.agg #[.int .i64 (named ds).1.kind, .int .i64 0, .int .i64 0, .int .i64 0, .bool false, .string (bsOf (enc (named ds).1.text))]) ∧ To b s (named ds).2.2 cv (op || (named ds).2.1) w0 w' :=
  (named_any h.lx).mono fun _ _ k => ⟨k.1, h.then k.2⟩
theorem signT (h : To b s ds cv op w0 w) : Calls Tryz.prog 71 #[.pointer (some ⟨b, 0, none⟩)] w fun e w' => e = .returned (.agg #[.int .i64 (signKind (pk ds 0)), .int .i64 0, .int .i64 0, .int .i64 0, .bool false, .string ⟨#[]⟩]) ∧ To b s ds.tail cv op w0 w' :=
  (sign_any h.lx).mono fun _ _ k => ⟨k.1, h.then k.2⟩
theorem named_unit (ds : List Int) : (named ds).1.unit = 0 := by
  unfold named; simp only []; repeat' split
  all_goals rfl
theorem numeric_text (ds : List Int) : (numeric ds).1.text = [] := by
  unfold numeric; simp only []; repeat' split
  all_goals rfl
theorem pos_low (hs : Suf s ds) (h : pk ds 0 < 128) (h1 : pk ds 0 ≠ -1) : pos s ds.tail = pos s ds + 1 := by
  have hb := hs.bw_le
  cases ds with
  | nil => simp at h1
  | cons c t =>
    have e : wd c = 1 := by unfold wd; rw [if_pos (by simpa using h)]
    unfold pos
    simp only [bw, e, List.tail_cons] at hb ⊢
    omega
def NxR (b : Nat) (s : ByteArray) (ds : List Int) (cv : Value) (op : Bool) (w : World) (e : Ending) (w' : World) : Prop :=
  ∃ id : Bool, e = .returned (tkV (next ds).1.kind ((next ds).1.unit : Nat) id (enc (next ds).1.text)) ∧ To b s (next ds).2.2 cv (op || (next ds).2.1) w w'
set_option maxHeartbeats 3200000 in
set_option maxRecDepth 100000 in
theorem nx1 (h : LX b s ds cv op w) (k0_1 : (pk ds 0 == -1) = true)  (HN : Hid (next ds = (⟨0, 0, []⟩, false, ds))) : Calls Tryz.prog 54 #[.pointer (some ⟨b, 0, none⟩)] w (NxR b s ds cv op w) := by
  have HL := Lib.hid h
  have hlt := h.lt
  clear h
  rename World => w0
  have hto : To b s ds cv op (w0.alloc (.cells #[.int .i64 0, .int .i64 0, .int .i64 0, .int .i64 0, .bool false, .string ⟨#[]⟩] 62)) (w0.alloc (.cells #[.int .i64 0, .int .i64 0, .int .i64 0, .int .i64 0, .bool false, .string ⟨#[]⟩] 62)) := To.start HL.out _
  go_enter Tryz.func54, Tryz.ntmps54
  go_wp2_with (first | (go_at_call 59; go_must ((first | (with_reducible refine (peekT0 (by assumption)).mono ?_) | (with_reducible refine (peekT1 (by assumption)).mono ?_) | (with_reducible refine (peekT2 (by assumption)).mono ?_) | (with_reducible refine (peekT3 (by assumption)).mono ?_)); rintro e w1 ⟨rfl, rfl⟩)))
  refine bodyPost_ret (v := tkV 0 0 false []) (by simp [results, Tryz.results54, go_sem, tkV, bsOf]) rfl ?_
  refine ⟨false, by rw [HN.out]; rfl, ?_⟩
  rw [HN.out]
  show To b s (ds) cv (op || false) _ _
  rw [Bool.or_false]
  exact (To.start HL.out (.cells #[.int .i64 0, .int .i64 0, .int .i64 0, .int .i64 0, .bool false, .string ⟨#[]⟩] 62)).back
set_option maxHeartbeats 3200000 in
set_option maxRecDepth 100000 in
theorem nx2 (h : LX b s ds cv op w) (k0_1 : (pk ds 0 == -1) = false) (NS : Hid (spQ (pk ds 0) = true)) (HN : Hid (next ds = (⟨38, 0, []⟩, false, spaces ds))) : Calls Tryz.prog 54 #[.pointer (some ⟨b, 0, none⟩)] w (NxR b s ds cv op w) := by
  have HL := Lib.hid h
  have hlt := h.lt
  clear h
  rename World => w0
  have hto : To b s ds cv op (w0.alloc (.cells #[.int .i64 0, .int .i64 0, .int .i64 0, .int .i64 0, .bool false, .string ⟨#[]⟩] 62)) (w0.alloc (.cells #[.int .i64 0, .int .i64 0, .int .i64 0, .int .i64 0, .bool false, .string ⟨#[]⟩] 62)) := To.start HL.out _
  go_enter Tryz.func54, Tryz.ntmps54
  go_wp2_with (first | (go_at_call 59; go_must ((first | (with_reducible refine (peekT0 (by assumption)).mono ?_) | (with_reducible refine (peekT1 (by assumption)).mono ?_) | (with_reducible refine (peekT2 (by assumption)).mono ?_) | (with_reducible refine (peekT3 (by assumption)).mono ?_)); rintro e w1 ⟨rfl, rfl⟩)) | (go_at_call 64; go_must (refine (sp_any _ _).mono ?_; rintro e w1 ⟨rfl, rfl⟩; rw [NS.out])))
  refine (spacesT (by assumption)).mono ?_
  rintro e w2 ⟨rfl, hto2⟩
  have hres := hto2.res hlt
  have r0 := cell_blk hres 0
  have r1 := cell_blk hres 1
  have r2 := cell_blk hres 2
  have r3 := cell_blk hres 3
  have r4 := cell_blk hres 4
  have r5 := cell_blk hres 5
  have g0 := frozen_blk hres 0
  have g1 := frozen_blk hres 1
  have g2 := frozen_blk hres 2
  have g3 := frozen_blk hres 3
  have g4 := frozen_blk hres 4
  have g5 := frozen_blk hres 5
  clear hres
  go_wp2_with fail
  refine bodyPost_ret (v := tkV 38 0 false []) (by simp [results, Tryz.results54, go_sem, tkV, bsOf, r0, r1, r2, r3, r4, r5]) rfl ?_
  refine ⟨false, by rw [HN.out]; rfl, ?_⟩
  rw [HN.out]
  show To b s (spaces ds) cv (op || false) _ _
  rw [Bool.or_false]
  exact hto2.store6 hlt _ _ _ _ _ _
set_option maxHeartbeats 3200000 in
set_option maxRecDepth 100000 in
theorem nx3_34 (h : LX b s ds cv op w) (k0_1 : (pk ds 0 == -1) = false) (k0_34 : (pk ds 0 == 34) = true) (NS : Hid (spQ (pk ds 0) = false)) (HQ : Hid (pk ds 0 = 34 ∨ pk ds 0 = 39)) (HN : Hid (next ds = (⟨(quotedRun (pk ds 0) ds.tail).1, 0, (quotedRun (pk ds 0) ds.tail).2.1⟩, (quotedRun (pk ds 0) ds.tail).2.2.1, (quotedRun (pk ds 0) ds.tail).2.2.2))) : Calls Tryz.prog 54 #[.pointer (some ⟨b, 0, none⟩)] w (NxR b s ds cv op w) := by
  have HL := Lib.hid h
  have hlt := h.lt
  clear h
  rename World => w0
  have hto : To b s ds cv op (w0.alloc (.cells #[.int .i64 0, .int .i64 0, .int .i64 0, .int .i64 0, .bool false, .string ⟨#[]⟩] 62)) (w0.alloc (.cells #[.int .i64 0, .int .i64 0, .int .i64 0, .int .i64 0, .bool false, .string ⟨#[]⟩] 62)) := To.start HL.out _
  go_enter Tryz.func54, Tryz.ntmps54
  go_wp2_with (first | (go_at_call 59; go_must ((first | (with_reducible refine (peekT0 (by assumption)).mono ?_) | (with_reducible refine (peekT1 (by assumption)).mono ?_) | (with_reducible refine (peekT2 (by assumption)).mono ?_) | (with_reducible refine (peekT3 (by assumption)).mono ?_)); rintro e w1 ⟨rfl, rfl⟩)) | (go_at_call 64; go_must (refine (sp_any _ _).mono ?_; rintro e w1 ⟨rfl, rfl⟩; rw [NS.out])))
  refine (quotedT (by assumption) HQ.out).mono ?_
  rintro e w2 ⟨rfl, hto2⟩
  have hres := hto2.res hlt
  have r0 := cell_blk hres 0
  have r1 := cell_blk hres 1
  have r2 := cell_blk hres 2
  have r3 := cell_blk hres 3
  have r4 := cell_blk hres 4
  have r5 := cell_blk hres 5
  have g0 := frozen_blk hres 0
  have g1 := frozen_blk hres 1
  have g2 := frozen_blk hres 2
  have g3 := frozen_blk hres 3
  have g4 := frozen_blk hres 4
  have g5 := frozen_blk hres 5
  clear hres
  go_wp2_with fail
  refine bodyPost_ret (v := tkV (quotedRun (pk ds 0) ds.tail).1 0 false (enc (quotedRun (pk ds 0) ds.tail).2.1)) (by simp [results, Tryz.results54, go_sem, tkV, bsOf, r0, r1, r2, r3, r4, r5]) rfl ?_
  refine ⟨false, by rw [HN.out]; rfl, ?_⟩
  rw [HN.out]
  exact hto2.store6 hlt _ _ _ _ _ _
set_option maxHeartbeats 3200000 in
set_option maxRecDepth 100000 in
theorem nx3_39 (h : LX b s ds cv op w) (k0_1 : (pk ds 0 == -1) = false) (k0_34 : (pk ds 0 == 34) = false) (k0_39 : (pk ds 0 == 39) = true) (NS : Hid (spQ (pk ds 0) = false)) (HQ : Hid (pk ds 0 = 34 ∨ pk ds 0 = 39)) (HN : Hid (next ds = (⟨(quotedRun (pk ds 0) ds.tail).1, 0, (quotedRun (pk ds 0) ds.tail).2.1⟩, (quotedRun (pk ds 0) ds.tail).2.2.1, (quotedRun (pk ds 0) ds.tail).2.2.2))) : Calls Tryz.prog 54 #[.pointer (some ⟨b, 0, none⟩)] w (NxR b s ds cv op w) := by
  have HL := Lib.hid h
  have hlt := h.lt
  clear h
  rename World => w0
  have hto : To b s ds cv op (w0.alloc (.cells #[.int .i64 0, .int .i64 0, .int .i64 0, .int .i64 0, .bool false, .string ⟨#[]⟩] 62)) (w0.alloc (.cells #[.int .i64 0, .int .i64 0, .int .i64 0, .int .i64 0, .bool false, .string ⟨#[]⟩] 62)) := To.start HL.out _
  go_enter Tryz.func54, Tryz.ntmps54
  go_wp2_with (first | (go_at_call 59; go_must ((first | (with_reducible refine (peekT0 (by assumption)).mono ?_) | (with_reducible refine (peekT1 (by assumption)).mono ?_) | (with_reducible refine (peekT2 (by assumption)).mono ?_) | (with_reducible refine (peekT3 (by assumption)).mono ?_)); rintro e w1 ⟨rfl, rfl⟩)) | (go_at_call 64; go_must (refine (sp_any _ _).mono ?_; rintro e w1 ⟨rfl, rfl⟩; rw [NS.out])))
  refine (quotedT (by assumption) HQ.out).mono ?_
  rintro e w2 ⟨rfl, hto2⟩
  have hres := hto2.res hlt
  have r0 := cell_blk hres 0
  have r1 := cell_blk hres 1
  have r2 := cell_blk hres 2
  have r3 := cell_blk hres 3
  have r4 := cell_blk hres 4
  have r5 := cell_blk hres 5
  have g0 := frozen_blk hres 0
  have g1 := frozen_blk hres 1
  have g2 := frozen_blk hres 2
  have g3 := frozen_blk hres 3
  have g4 := frozen_blk hres 4
  have g5 := frozen_blk hres 5
  clear hres
  go_wp2_with fail
  refine bodyPost_ret (v := tkV (quotedRun (pk ds 0) ds.tail).1 0 false (enc (quotedRun (pk ds 0) ds.tail).2.1)) (by simp [results, Tryz.results54, go_sem, tkV, bsOf, r0, r1, r2, r3, r4, r5]) rfl ?_
  refine ⟨false, by rw [HN.out]; rfl, ?_⟩
  rw [HN.out]
  exact hto2.store6 hlt _ _ _ _ _ _
set_option maxHeartbeats 3200000 in
set_option maxRecDepth 100000 in
theorem nx4a (h : LX b s ds cv op w) (k0_1 : (pk ds 0 == -1) = false) (k0_34 : (pk ds 0 == 34) = false) (k0_39 : (pk ds 0 == 39) = false) (k0_35 : (pk ds 0 == 35) = true) (NS : Hid (spQ (pk ds 0) = false)) (NN : Hid (cnQ (pk ds 1) = true)) (HN : Hid (next ds = (⟨28, 0, (name ds.tail).1⟩, (name ds.tail).2.1, (name ds.tail).2.2))) : Calls Tryz.prog 54 #[.pointer (some ⟨b, 0, none⟩)] w (NxR b s ds cv op w) := by
  have HL := Lib.hid h
  have hlt := h.lt
  clear h
  rename World => w0
  have hto : To b s ds cv op (w0.alloc (.cells #[.int .i64 0, .int .i64 0, .int .i64 0, .int .i64 0, .bool false, .string ⟨#[]⟩] 62)) (w0.alloc (.cells #[.int .i64 0, .int .i64 0, .int .i64 0, .int .i64 0, .bool false, .string ⟨#[]⟩] 62)) := To.start HL.out _
  go_enter Tryz.func54, Tryz.ntmps54
  go_wp2_with (first | (go_at_call 59; go_must ((first | (with_reducible refine (peekT0 (by assumption)).mono ?_) | (with_reducible refine (peekT1 (by assumption)).mono ?_) | (with_reducible refine (peekT2 (by assumption)).mono ?_) | (with_reducible refine (peekT3 (by assumption)).mono ?_)); rintro e w1 ⟨rfl, rfl⟩)) | (go_at_call 64; go_must (refine (sp_any _ _).mono ?_; rintro e w1 ⟨rfl, rfl⟩; rw [NS.out])) | (go_at_call 58; go_must (refine (cn_any _ _).mono ?_; rintro e w1 ⟨rfl, rfl⟩; rw [NN.out])) | (go_at_call 61; go_must (refine (takeT (by assumption)).mono ?_; rintro e w1 ⟨rfl, hto1⟩)) | (go_at_call 67; go_must (refine (id_any _ _ _ _).mono ?_; rintro e w1 ⟨rfl, rfl⟩)))
  refine (nameT (by assumption)).mono ?_
  rintro e w2 ⟨rfl, hto2⟩
  have hres := hto2.res hlt
  have r0 := cell_blk hres 0
  have r1 := cell_blk hres 1
  have r2 := cell_blk hres 2
  have r3 := cell_blk hres 3
  have r4 := cell_blk hres 4
  have r5 := cell_blk hres 5
  have g0 := frozen_blk hres 0
  have g1 := frozen_blk hres 1
  have g2 := frozen_blk hres 2
  have g3 := frozen_blk hres 3
  have g4 := frozen_blk hres 4
  have g5 := frozen_blk hres 5
  clear hres
  go_wp2_with fail
  refine bodyPost_ret (v := tkV 28 0 (idQ (pk ds 1) (pk ds 2) (pk ds.tail 2)) (enc (name ds.tail).1)) (by simp [results, Tryz.results54, go_sem, tkV, bsOf, r0, r1, r2, r3, r4, r5]) rfl ?_
  refine ⟨(idQ (pk ds 1) (pk ds 2) (pk ds.tail 2)), by rw [HN.out]; rfl, ?_⟩
  rw [HN.out]
  exact hto2.store6 hlt _ _ _ _ _ _
set_option maxHeartbeats 3200000 in
set_option maxRecDepth 100000 in
theorem nx4b (h : LX b s ds cv op w) (k0_1 : (pk ds 0 == -1) = false) (k0_34 : (pk ds 0 == 34) = false) (k0_39 : (pk ds 0 == 39) = false) (k0_35 : (pk ds 0 == 35) = true) (NS : Hid (spQ (pk ds 0) = false)) (NN : Hid (cnQ (pk ds 1) = false)) (NE : Hid (esQ (pk ds 1) (pk ds 2) = true)) (HN : Hid (next ds = (⟨28, 0, (name ds.tail).1⟩, (name ds.tail).2.1, (name ds.tail).2.2))) : Calls Tryz.prog 54 #[.pointer (some ⟨b, 0, none⟩)] w (NxR b s ds cv op w) := by
  have HL := Lib.hid h
  have hlt := h.lt
  clear h
  rename World => w0
  have hto : To b s ds cv op (w0.alloc (.cells #[.int .i64 0, .int .i64 0, .int .i64 0, .int .i64 0, .bool false, .string ⟨#[]⟩] 62)) (w0.alloc (.cells #[.int .i64 0, .int .i64 0, .int .i64 0, .int .i64 0, .bool false, .string ⟨#[]⟩] 62)) := To.start HL.out _
  go_enter Tryz.func54, Tryz.ntmps54
  go_wp2_with (first | (go_at_call 59; go_must ((first | (with_reducible refine (peekT0 (by assumption)).mono ?_) | (with_reducible refine (peekT1 (by assumption)).mono ?_) | (with_reducible refine (peekT2 (by assumption)).mono ?_) | (with_reducible refine (peekT3 (by assumption)).mono ?_)); rintro e w1 ⟨rfl, rfl⟩)) | (go_at_call 64; go_must (refine (sp_any _ _).mono ?_; rintro e w1 ⟨rfl, rfl⟩; rw [NS.out])) | (go_at_call 58; go_must (refine (cn_any _ _).mono ?_; rintro e w1 ⟨rfl, rfl⟩; rw [NN.out])) | (go_at_call 62; go_must (refine (es_any _ _ _).mono ?_; rintro e w1 ⟨rfl, rfl⟩; rw [NE.out])) | (go_at_call 61; go_must (refine (takeT (by assumption)).mono ?_; rintro e w1 ⟨rfl, hto1⟩)) | (go_at_call 67; go_must (refine (id_any _ _ _ _).mono ?_; rintro e w1 ⟨rfl, rfl⟩)))
  refine (nameT (by assumption)).mono ?_
  rintro e w2 ⟨rfl, hto2⟩
  have hres := hto2.res hlt
  have r0 := cell_blk hres 0
  have r1 := cell_blk hres 1
  have r2 := cell_blk hres 2
  have r3 := cell_blk hres 3
  have r4 := cell_blk hres 4
  have r5 := cell_blk hres 5
  have g0 := frozen_blk hres 0
  have g1 := frozen_blk hres 1
  have g2 := frozen_blk hres 2
  have g3 := frozen_blk hres 3
  have g4 := frozen_blk hres 4
  have g5 := frozen_blk hres 5
  clear hres
  go_wp2_with fail
  refine bodyPost_ret (v := tkV 28 0 (idQ (pk ds 1) (pk ds 2) (pk ds.tail 2)) (enc (name ds.tail).1)) (by simp [results, Tryz.results54, go_sem, tkV, bsOf, r0, r1, r2, r3, r4, r5]) rfl ?_
  refine ⟨(idQ (pk ds 1) (pk ds 2) (pk ds.tail 2)), by rw [HN.out]; rfl, ?_⟩
  rw [HN.out]
  exact hto2.store6 hlt _ _ _ _ _ _
set_option maxHeartbeats 3200000 in
set_option maxRecDepth 100000 in
theorem nx5 (h : LX b s ds cv op w) (k0_1 : (pk ds 0 == -1) = false) (k0_34 : (pk ds 0 == 34) = false) (k0_39 : (pk ds 0 == 39) = false) (k0_35 : (pk ds 0 == 35) = false) (NS : Hid (spQ (pk ds 0) = false)) (NC : Hid (coQ (pk ds 0) (pk ds 1) (pk ds 2) = true)) (HN : Hid (next ds = (⟨(numeric ds).1.kind, (numeric ds).1.unit, []⟩, (numeric ds).2.1, (numeric ds).2.2))) : Calls Tryz.prog 54 #[.pointer (some ⟨b, 0, none⟩)] w (NxR b s ds cv op w) := by
  have HL := Lib.hid h
  have hlt := h.lt
  clear h
  rename World => w0
  have hto : To b s ds cv op (w0.alloc (.cells #[.int .i64 0, .int .i64 0, .int .i64 0, .int .i64 0, .bool false, .string ⟨#[]⟩] 62)) (w0.alloc (.cells #[.int .i64 0, .int .i64 0, .int .i64 0, .int .i64 0, .bool false, .string ⟨#[]⟩] 62)) := To.start HL.out _
  go_enter Tryz.func54, Tryz.ntmps54
  go_wp2_with (first | (go_at_call 59; go_must ((first | (with_reducible refine (peekT0 (by assumption)).mono ?_) | (with_reducible refine (peekT1 (by assumption)).mono ?_) | (with_reducible refine (peekT2 (by assumption)).mono ?_) | (with_reducible refine (peekT3 (by assumption)).mono ?_)); rintro e w1 ⟨rfl, rfl⟩)) | (go_at_call 64; go_must (refine (sp_any _ _).mono ?_; rintro e w1 ⟨rfl, rfl⟩; rw [NS.out])) | (go_at_call 68; go_must (refine (co_any _ _ _ _).mono ?_; rintro e w1 ⟨rfl, rfl⟩; rw [NC.out])))
  refine (numericT (by assumption)).mono ?_
  rintro e w2 ⟨rfl, hto2⟩
  have hres := hto2.res hlt
  have r0 := cell_blk hres 0
  have r1 := cell_blk hres 1
  have r2 := cell_blk hres 2
  have r3 := cell_blk hres 3
  have r4 := cell_blk hres 4
  have r5 := cell_blk hres 5
  have g0 := frozen_blk hres 0
  have g1 := frozen_blk hres 1
  have g2 := frozen_blk hres 2
  have g3 := frozen_blk hres 3
  have g4 := frozen_blk hres 4
  have g5 := frozen_blk hres 5
  clear hres
  go_wp2_with fail
  refine bodyPost_ret (v := tkV (numeric ds).1.kind ((numeric ds).1.unit : Nat) false []) (by simp [results, Tryz.results54, go_sem, tkV, bsOf, r0, r1, r2, r3, r4, r5]) rfl ?_
  refine ⟨false, by rw [HN.out]; rfl, ?_⟩
  rw [HN.out]
  exact hto2.store6 hlt _ _ _ _ _ _
set_option maxHeartbeats 3200000 in
set_option maxRecDepth 100000 in
theorem nx6 (h : LX b s ds cv op w) (k0_1 : (pk ds 0 == -1) = false) (k0_34 : (pk ds 0 == 34) = false) (k0_39 : (pk ds 0 == 39) = false) (k0_35 : (pk ds 0 == 35) = false) (k0_45 : (pk ds 0 == 45) = true) (k1_45 : (pk ds 1 == 45) = true) (k2_62 : (pk ds 2 == 62) = true) (NS : Hid (spQ (pk ds 0) = false)) (NC : Hid (coQ (pk ds 0) (pk ds 1) (pk ds 2) = false)) (HN : Hid (next ds = (⟨4, 0, []⟩, false, ds.tail.tail.tail))) : Calls Tryz.prog 54 #[.pointer (some ⟨b, 0, none⟩)] w (NxR b s ds cv op w) := by
  have HL := Lib.hid h
  have hlt := h.lt
  clear h
  rename World => w0
  have hto : To b s ds cv op (w0.alloc (.cells #[.int .i64 0, .int .i64 0, .int .i64 0, .int .i64 0, .bool false, .string ⟨#[]⟩] 62)) (w0.alloc (.cells #[.int .i64 0, .int .i64 0, .int .i64 0, .int .i64 0, .bool false, .string ⟨#[]⟩] 62)) := To.start HL.out _
  have hp : (pos s ds : Int) ≤ 140737488355328 := by have := @pos_le s ds; have := HL.out.small; omega
  have HP : Hid (pos s ds.tail.tail.tail = pos s ds + 3) := by
    have s0 := HL.out.suf
    have e0 : pk (ds) 0 = 45 := by simpa using k0_45
    have a0 := pos_low (s := s) (ds := ds) s0 (by rw [e0]; decide) (by rw [e0]; decide)
    have s1 := s0.tail
    have e1 : pk (ds.tail) 0 = 45 := by rw [pk_tail]; simpa using k1_45
    have a1 := pos_low (s := s) (ds := ds.tail) s1 (by rw [e1]; decide) (by rw [e1]; decide)
    have s2 := s1.tail
    have e2 : pk (ds.tail.tail) 0 = 62 := by rw [pk_tail, pk_tail]; simpa using k2_62
    have a2 := pos_low (s := s) (ds := ds.tail.tail) s2 (by rw [e2]; decide) (by rw [e2]; decide)
    have s3 := s2.tail
    show _ = _
    omega
  have hc1 := HL.out.c1
  have hf1 := HL.out.f 1
  go_enter Tryz.func54, Tryz.ntmps54
  go_wp2_with (first | (go_at_call 59; go_must ((first | (with_reducible refine (peekT0 (by assumption)).mono ?_) | (with_reducible refine (peekT1 (by assumption)).mono ?_) | (with_reducible refine (peekT2 (by assumption)).mono ?_) | (with_reducible refine (peekT3 (by assumption)).mono ?_)); rintro e w1 ⟨rfl, rfl⟩)) | (go_at_call 64; go_must (refine (sp_any _ _).mono ?_; rintro e w1 ⟨rfl, rfl⟩; rw [NS.out])) | (go_at_call 68; go_must (refine (co_any _ _ _ _).mono ?_; rintro e w1 ⟨rfl, rfl⟩; rw [NC.out])))
  go_outline
  refine bodyPost_ret (v := tkV 4 0 false []) (by simp [results, Tryz.results54, go_sem, tkV, bsOf]) rfl ?_
  refine ⟨false, by rw [HN.out]; rfl, ?_⟩
  rw [HN.out]
  show To b s (ds.tail.tail.tail) cv (op || false) _ _
  rw [Bool.or_false]
  exact To.alloc (w0 := w0) ⟨HL.out.setAt (HL.out.suf.tail.tail.tail) (by rw [HP.out]; rfl), (Lk.refl b w0).set_ _ _⟩ _
set_option maxHeartbeats 3200000 in
set_option maxRecDepth 100000 in
theorem nx7a (h : LX b s ds cv op w) (k0_1 : (pk ds 0 == -1) = false) (k0_34 : (pk ds 0 == 34) = false) (k0_39 : (pk ds 0 == 39) = false) (k0_35 : (pk ds 0 == 35) = false) (k0_45 : (pk ds 0 == 45) = false) (NS : Hid (spQ (pk ds 0) = false)) (NC : Hid (coQ (pk ds 0) (pk ds 1) (pk ds 2) = false)) (NI : Hid (idQ (pk ds 0) (pk ds 1) (pk ds 2) = true)) (NJ : Hid (True)) (HN : Hid (next ds = (⟨(named ds).1.kind, 0, (named ds).1.text⟩, (named ds).2.1, (named ds).2.2))) : Calls Tryz.prog 54 #[.pointer (some ⟨b, 0, none⟩)] w (NxR b s ds cv op w) := by
  have HL := Lib.hid h
  have hlt := h.lt
  clear h
  rename World => w0
  have hto : To b s ds cv op (w0.alloc (.cells #[.int .i64 0, .int .i64 0, .int .i64 0, .int .i64 0, .bool false, .string ⟨#[]⟩] 62)) (w0.alloc (.cells #[.int .i64 0, .int .i64 0, .int .i64 0, .int .i64 0, .bool false, .string ⟨#[]⟩] 62)) := To.start HL.out _
  go_enter Tryz.func54, Tryz.ntmps54
  go_wp2_with (first | (go_at_call 59; go_must ((first | (with_reducible refine (peekT0 (by assumption)).mono ?_) | (with_reducible refine (peekT1 (by assumption)).mono ?_) | (with_reducible refine (peekT2 (by assumption)).mono ?_) | (with_reducible refine (peekT3 (by assumption)).mono ?_)); rintro e w1 ⟨rfl, rfl⟩)) | (go_at_call 64; go_must (refine (sp_any _ _).mono ?_; rintro e w1 ⟨rfl, rfl⟩; rw [NS.out])) | (go_at_call 68; go_must (refine (co_any _ _ _ _).mono ?_; rintro e w1 ⟨rfl, rfl⟩; rw [NC.out])) | (go_at_call 67; go_must ((first | ((with_reducible refine (id_any (pk ds 0) (pk ds 1) (pk ds 2) _).mono ?_); rintro e w1 ⟨rfl, rfl⟩; rw [NI.out]) | ((with_reducible refine (id_any (pk ds 1) (pk ds 2) (pk ds 3) _).mono ?_); rintro e w1 ⟨rfl, rfl⟩; rw [NJ.out])))))
  refine (namedT (by assumption)).mono ?_
  rintro e w2 ⟨rfl, hto2⟩
  have hres := hto2.res hlt
  have r0 := cell_blk hres 0
  have r1 := cell_blk hres 1
  have r2 := cell_blk hres 2
  have r3 := cell_blk hres 3
  have r4 := cell_blk hres 4
  have r5 := cell_blk hres 5
  have g0 := frozen_blk hres 0
  have g1 := frozen_blk hres 1
  have g2 := frozen_blk hres 2
  have g3 := frozen_blk hres 3
  have g4 := frozen_blk hres 4
  have g5 := frozen_blk hres 5
  clear hres
  go_wp2_with fail
  refine bodyPost_ret (v := tkV (named ds).1.kind 0 false (enc (named ds).1.text)) (by simp [results, Tryz.results54, go_sem, tkV, bsOf, r0, r1, r2, r3, r4, r5]) rfl ?_
  refine ⟨false, by rw [HN.out]; rfl, ?_⟩
  rw [HN.out]
  exact hto2.store6 hlt _ _ _ _ _ _
set_option maxHeartbeats 3200000 in
set_option maxRecDepth 100000 in
theorem nx7b (h : LX b s ds cv op w) (k0_1 : (pk ds 0 == -1) = false) (k0_34 : (pk ds 0 == 34) = false) (k0_39 : (pk ds 0 == 39) = false) (k0_35 : (pk ds 0 == 35) = false) (k0_45 : (pk ds 0 == 45) = true) (k1_45 : (pk ds 1 == 45) = false) (NS : Hid (spQ (pk ds 0) = false)) (NC : Hid (coQ (pk ds 0) (pk ds 1) (pk ds 2) = false)) (NI : Hid (idQ (pk ds 0) (pk ds 1) (pk ds 2) = true)) (NJ : Hid (True)) (HN : Hid (next ds = (⟨(named ds).1.kind, 0, (named ds).1.text⟩, (named ds).2.1, (named ds).2.2))) : Calls Tryz.prog 54 #[.pointer (some ⟨b, 0, none⟩)] w (NxR b s ds cv op w) := by
  have HL := Lib.hid h
  have hlt := h.lt
  clear h
  rename World => w0
  have hto : To b s ds cv op (w0.alloc (.cells #[.int .i64 0, .int .i64 0, .int .i64 0, .int .i64 0, .bool false, .string ⟨#[]⟩] 62)) (w0.alloc (.cells #[.int .i64 0, .int .i64 0, .int .i64 0, .int .i64 0, .bool false, .string ⟨#[]⟩] 62)) := To.start HL.out _
  go_enter Tryz.func54, Tryz.ntmps54
  go_wp2_with (first | (go_at_call 59; go_must ((first | (with_reducible refine (peekT0 (by assumption)).mono ?_) | (with_reducible refine (peekT1 (by assumption)).mono ?_) | (with_reducible refine (peekT2 (by assumption)).mono ?_) | (with_reducible refine (peekT3 (by assumption)).mono ?_)); rintro e w1 ⟨rfl, rfl⟩)) | (go_at_call 64; go_must (refine (sp_any _ _).mono ?_; rintro e w1 ⟨rfl, rfl⟩; rw [NS.out])) | (go_at_call 68; go_must (refine (co_any _ _ _ _).mono ?_; rintro e w1 ⟨rfl, rfl⟩; rw [NC.out])) | (go_at_call 67; go_must ((first | ((with_reducible refine (id_any (pk ds 0) (pk ds 1) (pk ds 2) _).mono ?_); rintro e w1 ⟨rfl, rfl⟩; rw [NI.out]) | ((with_reducible refine (id_any (pk ds 1) (pk ds 2) (pk ds 3) _).mono ?_); rintro e w1 ⟨rfl, rfl⟩; rw [NJ.out])))))
  refine (namedT (by assumption)).mono ?_
  rintro e w2 ⟨rfl, hto2⟩
  have hres := hto2.res hlt
  have r0 := cell_blk hres 0
  have r1 := cell_blk hres 1
  have r2 := cell_blk hres 2
  have r3 := cell_blk hres 3
  have r4 := cell_blk hres 4
  have r5 := cell_blk hres 5
  have g0 := frozen_blk hres 0
  have g1 := frozen_blk hres 1
  have g2 := frozen_blk hres 2
  have g3 := frozen_blk hres 3
  have g4 := frozen_blk hres 4
  have g5 := frozen_blk hres 5
  clear hres
  go_wp2_with fail
  refine bodyPost_ret (v := tkV (named ds).1.kind 0 false (enc (named ds).1.text)) (by simp [results, Tryz.results54, go_sem, tkV, bsOf, r0, r1, r2, r3, r4, r5]) rfl ?_
  refine ⟨false, by rw [HN.out]; rfl, ?_⟩
  rw [HN.out]
  exact hto2.store6 hlt _ _ _ _ _ _
set_option maxHeartbeats 3200000 in
set_option maxRecDepth 100000 in
theorem nx7c (h : LX b s ds cv op w) (k0_1 : (pk ds 0 == -1) = false) (k0_34 : (pk ds 0 == 34) = false) (k0_39 : (pk ds 0 == 39) = false) (k0_35 : (pk ds 0 == 35) = false) (k0_45 : (pk ds 0 == 45) = true) (k1_45 : (pk ds 1 == 45) = true) (k2_62 : (pk ds 2 == 62) = false) (NS : Hid (spQ (pk ds 0) = false)) (NC : Hid (coQ (pk ds 0) (pk ds 1) (pk ds 2) = false)) (NI : Hid (idQ (pk ds 0) (pk ds 1) (pk ds 2) = true)) (NJ : Hid (True)) (HN : Hid (next ds = (⟨(named ds).1.kind, 0, (named ds).1.text⟩, (named ds).2.1, (named ds).2.2))) : Calls Tryz.prog 54 #[.pointer (some ⟨b, 0, none⟩)] w (NxR b s ds cv op w) := by
  have HL := Lib.hid h
  have hlt := h.lt
  clear h
  rename World => w0
  have hto : To b s ds cv op (w0.alloc (.cells #[.int .i64 0, .int .i64 0, .int .i64 0, .int .i64 0, .bool false, .string ⟨#[]⟩] 62)) (w0.alloc (.cells #[.int .i64 0, .int .i64 0, .int .i64 0, .int .i64 0, .bool false, .string ⟨#[]⟩] 62)) := To.start HL.out _
  go_enter Tryz.func54, Tryz.ntmps54
  go_wp2_with (first | (go_at_call 59; go_must ((first | (with_reducible refine (peekT0 (by assumption)).mono ?_) | (with_reducible refine (peekT1 (by assumption)).mono ?_) | (with_reducible refine (peekT2 (by assumption)).mono ?_) | (with_reducible refine (peekT3 (by assumption)).mono ?_)); rintro e w1 ⟨rfl, rfl⟩)) | (go_at_call 64; go_must (refine (sp_any _ _).mono ?_; rintro e w1 ⟨rfl, rfl⟩; rw [NS.out])) | (go_at_call 68; go_must (refine (co_any _ _ _ _).mono ?_; rintro e w1 ⟨rfl, rfl⟩; rw [NC.out])) | (go_at_call 67; go_must ((first | ((with_reducible refine (id_any (pk ds 0) (pk ds 1) (pk ds 2) _).mono ?_); rintro e w1 ⟨rfl, rfl⟩; rw [NI.out]) | ((with_reducible refine (id_any (pk ds 1) (pk ds 2) (pk ds 3) _).mono ?_); rintro e w1 ⟨rfl, rfl⟩; rw [NJ.out])))))
  refine (namedT (by assumption)).mono ?_
  rintro e w2 ⟨rfl, hto2⟩
  have hres := hto2.res hlt
  have r0 := cell_blk hres 0
  have r1 := cell_blk hres 1
  have r2 := cell_blk hres 2
  have r3 := cell_blk hres 3
  have r4 := cell_blk hres 4
  have r5 := cell_blk hres 5
  have g0 := frozen_blk hres 0
  have g1 := frozen_blk hres 1
  have g2 := frozen_blk hres 2
  have g3 := frozen_blk hres 3
  have g4 := frozen_blk hres 4
  have g5 := frozen_blk hres 5
  clear hres
  go_wp2_with fail
  refine bodyPost_ret (v := tkV (named ds).1.kind 0 false (enc (named ds).1.text)) (by simp [results, Tryz.results54, go_sem, tkV, bsOf, r0, r1, r2, r3, r4, r5]) rfl ?_
  refine ⟨false, by rw [HN.out]; rfl, ?_⟩
  rw [HN.out]
  exact hto2.store6 hlt _ _ _ _ _ _
set_option maxHeartbeats 3200000 in
set_option maxRecDepth 100000 in
theorem nx8 (h : LX b s ds cv op w) (k0_1 : (pk ds 0 == -1) = false) (k0_34 : (pk ds 0 == 34) = false) (k0_39 : (pk ds 0 == 39) = false) (k0_35 : (pk ds 0 == 35) = false) (k0_45 : (pk ds 0 == 45) = false) (k0_60 : (pk ds 0 == 60) = true) (k1_33 : (pk ds 1 == 33) = true) (k2_45 : (pk ds 2 == 45) = true) (k3_45 : (pk ds 3 == 45) = true) (NS : Hid (spQ (pk ds 0) = false)) (NC : Hid (coQ (pk ds 0) (pk ds 1) (pk ds 2) = false)) (NI : Hid (idQ (pk ds 0) (pk ds 1) (pk ds 2) = false)) (NJ : Hid (True)) (HN : Hid (next ds = (⟨5, 0, []⟩, false, ds.tail.tail.tail.tail))) : Calls Tryz.prog 54 #[.pointer (some ⟨b, 0, none⟩)] w (NxR b s ds cv op w) := by
  have HL := Lib.hid h
  have hlt := h.lt
  clear h
  rename World => w0
  have hto : To b s ds cv op (w0.alloc (.cells #[.int .i64 0, .int .i64 0, .int .i64 0, .int .i64 0, .bool false, .string ⟨#[]⟩] 62)) (w0.alloc (.cells #[.int .i64 0, .int .i64 0, .int .i64 0, .int .i64 0, .bool false, .string ⟨#[]⟩] 62)) := To.start HL.out _
  have hp : (pos s ds : Int) ≤ 140737488355328 := by have := @pos_le s ds; have := HL.out.small; omega
  have HP : Hid (pos s ds.tail.tail.tail.tail = pos s ds + 4) := by
    have s0 := HL.out.suf
    have e0 : pk (ds) 0 = 60 := by simpa using k0_60
    have a0 := pos_low (s := s) (ds := ds) s0 (by rw [e0]; decide) (by rw [e0]; decide)
    have s1 := s0.tail
    have e1 : pk (ds.tail) 0 = 33 := by rw [pk_tail]; simpa using k1_33
    have a1 := pos_low (s := s) (ds := ds.tail) s1 (by rw [e1]; decide) (by rw [e1]; decide)
    have s2 := s1.tail
    have e2 : pk (ds.tail.tail) 0 = 45 := by rw [pk_tail, pk_tail]; simpa using k2_45
    have a2 := pos_low (s := s) (ds := ds.tail.tail) s2 (by rw [e2]; decide) (by rw [e2]; decide)
    have s3 := s2.tail
    have e3 : pk (ds.tail.tail.tail) 0 = 45 := by rw [pk_tail, pk_tail, pk_tail]; simpa using k3_45
    have a3 := pos_low (s := s) (ds := ds.tail.tail.tail) s3 (by rw [e3]; decide) (by rw [e3]; decide)
    have s4 := s3.tail
    show _ = _
    omega
  have hc1 := HL.out.c1
  have hf1 := HL.out.f 1
  go_enter Tryz.func54, Tryz.ntmps54
  go_wp2_with (first | (go_at_call 59; go_must ((first | (with_reducible refine (peekT0 (by assumption)).mono ?_) | (with_reducible refine (peekT1 (by assumption)).mono ?_) | (with_reducible refine (peekT2 (by assumption)).mono ?_) | (with_reducible refine (peekT3 (by assumption)).mono ?_)); rintro e w1 ⟨rfl, rfl⟩)) | (go_at_call 64; go_must (refine (sp_any _ _).mono ?_; rintro e w1 ⟨rfl, rfl⟩; rw [NS.out])) | (go_at_call 68; go_must (refine (co_any _ _ _ _).mono ?_; rintro e w1 ⟨rfl, rfl⟩; rw [NC.out])) | (go_at_call 67; go_must ((first | ((with_reducible refine (id_any (pk ds 0) (pk ds 1) (pk ds 2) _).mono ?_); rintro e w1 ⟨rfl, rfl⟩; rw [NI.out]) | ((with_reducible refine (id_any (pk ds 1) (pk ds 2) (pk ds 3) _).mono ?_); rintro e w1 ⟨rfl, rfl⟩; rw [NJ.out])))))
  refine bodyPost_ret (v := tkV 5 0 false []) (by simp [results, Tryz.results54, go_sem, tkV, bsOf]) rfl ?_
  refine ⟨false, by rw [HN.out]; rfl, ?_⟩
  rw [HN.out]
  show To b s (ds.tail.tail.tail.tail) cv (op || false) _ _
  rw [Bool.or_false]
  exact To.alloc (w0 := w0) ⟨HL.out.setAt (HL.out.suf.tail.tail.tail.tail) (by rw [HP.out]; rfl), (Lk.refl b w0).set_ _ _⟩ _
set_option maxHeartbeats 3200000 in
set_option maxRecDepth 100000 in
theorem nx9 (h : LX b s ds cv op w) (k0_1 : (pk ds 0 == -1) = false) (k0_34 : (pk ds 0 == 34) = false) (k0_39 : (pk ds 0 == 39) = false) (k0_35 : (pk ds 0 == 35) = false) (k0_45 : (pk ds 0 == 45) = false) (k0_60 : (pk ds 0 == 60) = false) (k0_64 : (pk ds 0 == 64) = true) (NS : Hid (spQ (pk ds 0) = false)) (NC : Hid (coQ (pk ds 0) (pk ds 1) (pk ds 2) = false)) (NI : Hid (idQ (pk ds 0) (pk ds 1) (pk ds 2) = false)) (NJ : Hid (idQ (pk ds 1) (pk ds 2) (pk ds 3) = true)) (HN : Hid (next ds = (⟨1, 0, (name ds.tail).1⟩, (name ds.tail).2.1, (name ds.tail).2.2))) : Calls Tryz.prog 54 #[.pointer (some ⟨b, 0, none⟩)] w (NxR b s ds cv op w) := by
  have HL := Lib.hid h
  have hlt := h.lt
  clear h
  rename World => w0
  have hto : To b s ds cv op (w0.alloc (.cells #[.int .i64 0, .int .i64 0, .int .i64 0, .int .i64 0, .bool false, .string ⟨#[]⟩] 62)) (w0.alloc (.cells #[.int .i64 0, .int .i64 0, .int .i64 0, .int .i64 0, .bool false, .string ⟨#[]⟩] 62)) := To.start HL.out _
  go_enter Tryz.func54, Tryz.ntmps54
  go_wp2_with (first | (go_at_call 59; go_must ((first | (with_reducible refine (peekT0 (by assumption)).mono ?_) | (with_reducible refine (peekT1 (by assumption)).mono ?_) | (with_reducible refine (peekT2 (by assumption)).mono ?_) | (with_reducible refine (peekT3 (by assumption)).mono ?_)); rintro e w1 ⟨rfl, rfl⟩)) | (go_at_call 64; go_must (refine (sp_any _ _).mono ?_; rintro e w1 ⟨rfl, rfl⟩; rw [NS.out])) | (go_at_call 68; go_must (refine (co_any _ _ _ _).mono ?_; rintro e w1 ⟨rfl, rfl⟩; rw [NC.out])) | (go_at_call 67; go_must ((first | ((with_reducible refine (id_any (pk ds 0) (pk ds 1) (pk ds 2) _).mono ?_); rintro e w1 ⟨rfl, rfl⟩; rw [NI.out]) | ((with_reducible refine (id_any (pk ds 1) (pk ds 2) (pk ds 3) _).mono ?_); rintro e w1 ⟨rfl, rfl⟩; rw [NJ.out])))) | (go_at_call 61; go_must (refine (takeT (by assumption)).mono ?_; rintro e w1 ⟨rfl, hto1⟩)))
  refine (nameT (by assumption)).mono ?_
  rintro e w2 ⟨rfl, hto2⟩
  have hres := hto2.res hlt
  have r0 := cell_blk hres 0
  have r1 := cell_blk hres 1
  have r2 := cell_blk hres 2
  have r3 := cell_blk hres 3
  have r4 := cell_blk hres 4
  have r5 := cell_blk hres 5
  have g0 := frozen_blk hres 0
  have g1 := frozen_blk hres 1
  have g2 := frozen_blk hres 2
  have g3 := frozen_blk hres 3
  have g4 := frozen_blk hres 4
  have g5 := frozen_blk hres 5
  clear hres
  go_wp2_with fail
  refine bodyPost_ret (v := tkV 1 0 false (enc (name ds.tail).1)) (by simp [results, Tryz.results54, go_sem, tkV, bsOf, r0, r1, r2, r3, r4, r5]) rfl ?_
  refine ⟨false, by rw [HN.out]; rfl, ?_⟩
  rw [HN.out]
  exact hto2.store6 hlt _ _ _ _ _ _
set_option maxHeartbeats 3200000 in
set_option maxRecDepth 100000 in
theorem nx10a (h : LX b s ds cv op w) (k0_1 : (pk ds 0 == -1) = false) (k0_34 : (pk ds 0 == 34) = false) (k0_39 : (pk ds 0 == 39) = false) (k0_35 : (pk ds 0 == 35) = true) (k0_45 : (pk ds 0 == 45) = false) (k0_60 : (pk ds 0 == 60) = false) (k0_64 : (pk ds 0 == 64) = false) (NS : Hid (spQ (pk ds 0) = false)) (NC : Hid (coQ (pk ds 0) (pk ds 1) (pk ds 2) = false)) (NI : Hid (idQ (pk ds 0) (pk ds 1) (pk ds 2) = false)) (NJ : Hid (True)) (NN : Hid (cnQ (pk ds 1) = false)) (NE : Hid (esQ (pk ds 1) (pk ds 2) = false)) (HN : Hid (next ds = (⟨signKind (pk ds 0), 0, []⟩, false, ds.tail))) : Calls Tryz.prog 54 #[.pointer (some ⟨b, 0, none⟩)] w (NxR b s ds cv op w) := by
  have HL := Lib.hid h
  have hlt := h.lt
  clear h
  rename World => w0
  have hto : To b s ds cv op (w0.alloc (.cells #[.int .i64 0, .int .i64 0, .int .i64 0, .int .i64 0, .bool false, .string ⟨#[]⟩] 62)) (w0.alloc (.cells #[.int .i64 0, .int .i64 0, .int .i64 0, .int .i64 0, .bool false, .string ⟨#[]⟩] 62)) := To.start HL.out _
  go_enter Tryz.func54, Tryz.ntmps54
  go_wp2_with (first | (go_at_call 59; go_must ((first | (with_reducible refine (peekT0 (by assumption)).mono ?_) | (with_reducible refine (peekT1 (by assumption)).mono ?_) | (with_reducible refine (peekT2 (by assumption)).mono ?_) | (with_reducible refine (peekT3 (by assumption)).mono ?_)); rintro e w1 ⟨rfl, rfl⟩)) | (go_at_call 64; go_must (refine (sp_any _ _).mono ?_; rintro e w1 ⟨rfl, rfl⟩; rw [NS.out])) | (go_at_call 68; go_must (refine (co_any _ _ _ _).mono ?_; rintro e w1 ⟨rfl, rfl⟩; rw [NC.out])) | (go_at_call 67; go_must ((first | ((with_reducible refine (id_any (pk ds 0) (pk ds 1) (pk ds 2) _).mono ?_); rintro e w1 ⟨rfl, rfl⟩; rw [NI.out]) | ((with_reducible refine (id_any (pk ds 1) (pk ds 2) (pk ds 3) _).mono ?_); rintro e w1 ⟨rfl, rfl⟩; rw [NJ.out])))) | (go_at_call 58; go_must (refine (cn_any _ _).mono ?_; rintro e w1 ⟨rfl, rfl⟩; rw [NN.out])) | (go_at_call 62; go_must (refine (es_any _ _ _).mono ?_; rintro e w1 ⟨rfl, rfl⟩; rw [NE.out])))
  refine (signT (by assumption)).mono ?_
  rintro e w2 ⟨rfl, hto2⟩
  have hres := hto2.res hlt
  have r0 := cell_blk hres 0
  have r1 := cell_blk hres 1
  have r2 := cell_blk hres 2
  have r3 := cell_blk hres 3
  have r4 := cell_blk hres 4
  have r5 := cell_blk hres 5
  have g0 := frozen_blk hres 0
  have g1 := frozen_blk hres 1
  have g2 := frozen_blk hres 2
  have g3 := frozen_blk hres 3
  have g4 := frozen_blk hres 4
  have g5 := frozen_blk hres 5
  clear hres
  go_wp2_with fail
  refine bodyPost_ret (v := tkV (signKind (pk ds 0)) 0 false []) (by simp [results, Tryz.results54, go_sem, tkV, bsOf, r0, r1, r2, r3, r4, r5]) rfl ?_
  refine ⟨false, by rw [HN.out]; rfl, ?_⟩
  rw [HN.out]
  show To b s (ds.tail) cv (op || false) _ _
  rw [Bool.or_false]
  exact hto2.store6 hlt _ _ _ _ _ _
set_option maxHeartbeats 3200000 in
set_option maxRecDepth 100000 in
theorem nx10b (h : LX b s ds cv op w) (k0_1 : (pk ds 0 == -1) = false) (k0_34 : (pk ds 0 == 34) = false) (k0_39 : (pk ds 0 == 39) = false) (k0_35 : (pk ds 0 == 35) = false) (k0_45 : (pk ds 0 == 45) = true) (k1_45 : (pk ds 1 == 45) = false) (k0_60 : (pk ds 0 == 60) = false) (k0_64 : (pk ds 0 == 64) = false) (NS : Hid (spQ (pk ds 0) = false)) (NC : Hid (coQ (pk ds 0) (pk ds 1) (pk ds 2) = false)) (NI : Hid (idQ (pk ds 0) (pk ds 1) (pk ds 2) = false)) (NJ : Hid (True)) (HN : Hid (next ds = (⟨signKind (pk ds 0), 0, []⟩, false, ds.tail))) : Calls Tryz.prog 54 #[.pointer (some ⟨b, 0, none⟩)] w (NxR b s ds cv op w) := by
  have HL := Lib.hid h
  have hlt := h.lt
  clear h
  rename World => w0
  have hto : To b s ds cv op (w0.alloc (.cells #[.int .i64 0, .int .i64 0, .int .i64 0, .int .i64 0, .bool false, .string ⟨#[]⟩] 62)) (w0.alloc (.cells #[.int .i64 0, .int .i64 0, .int .i64 0, .int .i64 0, .bool false, .string ⟨#[]⟩] 62)) := To.start HL.out _
  go_enter Tryz.func54, Tryz.ntmps54
  go_wp2_with (first | (go_at_call 59; go_must ((first | (with_reducible refine (peekT0 (by assumption)).mono ?_) | (with_reducible refine (peekT1 (by assumption)).mono ?_) | (with_reducible refine (peekT2 (by assumption)).mono ?_) | (with_reducible refine (peekT3 (by assumption)).mono ?_)); rintro e w1 ⟨rfl, rfl⟩)) | (go_at_call 64; go_must (refine (sp_any _ _).mono ?_; rintro e w1 ⟨rfl, rfl⟩; rw [NS.out])) | (go_at_call 68; go_must (refine (co_any _ _ _ _).mono ?_; rintro e w1 ⟨rfl, rfl⟩; rw [NC.out])) | (go_at_call 67; go_must ((first | ((with_reducible refine (id_any (pk ds 0) (pk ds 1) (pk ds 2) _).mono ?_); rintro e w1 ⟨rfl, rfl⟩; rw [NI.out]) | ((with_reducible refine (id_any (pk ds 1) (pk ds 2) (pk ds 3) _).mono ?_); rintro e w1 ⟨rfl, rfl⟩; rw [NJ.out])))))
  refine (signT (by assumption)).mono ?_
  rintro e w2 ⟨rfl, hto2⟩
  have hres := hto2.res hlt
  have r0 := cell_blk hres 0
  have r1 := cell_blk hres 1
  have r2 := cell_blk hres 2
  have r3 := cell_blk hres 3
  have r4 := cell_blk hres 4
  have r5 := cell_blk hres 5
  have g0 := frozen_blk hres 0
  have g1 := frozen_blk hres 1
  have g2 := frozen_blk hres 2
  have g3 := frozen_blk hres 3
  have g4 := frozen_blk hres 4
  have g5 := frozen_blk hres 5
  clear hres
  go_wp2_with fail
  refine bodyPost_ret (v := tkV (signKind (pk ds 0)) 0 false []) (by simp [results, Tryz.results54, go_sem, tkV, bsOf, r0, r1, r2, r3, r4, r5]) rfl ?_
  refine ⟨false, by rw [HN.out]; rfl, ?_⟩
  rw [HN.out]
  show To b s (ds.tail) cv (op || false) _ _
  rw [Bool.or_false]
  exact hto2.store6 hlt _ _ _ _ _ _
set_option maxHeartbeats 3200000 in
set_option maxRecDepth 100000 in
theorem nx10c (h : LX b s ds cv op w) (k0_1 : (pk ds 0 == -1) = false) (k0_34 : (pk ds 0 == 34) = false) (k0_39 : (pk ds 0 == 39) = false) (k0_35 : (pk ds 0 == 35) = false) (k0_45 : (pk ds 0 == 45) = false) (k0_60 : (pk ds 0 == 60) = true) (k1_33 : (pk ds 1 == 33) = false) (k0_64 : (pk ds 0 == 64) = false) (NS : Hid (spQ (pk ds 0) = false)) (NC : Hid (coQ (pk ds 0) (pk ds 1) (pk ds 2) = false)) (NI : Hid (idQ (pk ds 0) (pk ds 1) (pk ds 2) = false)) (NJ : Hid (True)) (HN : Hid (next ds = (⟨signKind (pk ds 0), 0, []⟩, false, ds.tail))) : Calls Tryz.prog 54 #[.pointer (some ⟨b, 0, none⟩)] w (NxR b s ds cv op w) := by
  have HL := Lib.hid h
  have hlt := h.lt
  clear h
  rename World => w0
  have hto : To b s ds cv op (w0.alloc (.cells #[.int .i64 0, .int .i64 0, .int .i64 0, .int .i64 0, .bool false, .string ⟨#[]⟩] 62)) (w0.alloc (.cells #[.int .i64 0, .int .i64 0, .int .i64 0, .int .i64 0, .bool false, .string ⟨#[]⟩] 62)) := To.start HL.out _
  go_enter Tryz.func54, Tryz.ntmps54
  go_wp2_with (first | (go_at_call 59; go_must ((first | (with_reducible refine (peekT0 (by assumption)).mono ?_) | (with_reducible refine (peekT1 (by assumption)).mono ?_) | (with_reducible refine (peekT2 (by assumption)).mono ?_) | (with_reducible refine (peekT3 (by assumption)).mono ?_)); rintro e w1 ⟨rfl, rfl⟩)) | (go_at_call 64; go_must (refine (sp_any _ _).mono ?_; rintro e w1 ⟨rfl, rfl⟩; rw [NS.out])) | (go_at_call 68; go_must (refine (co_any _ _ _ _).mono ?_; rintro e w1 ⟨rfl, rfl⟩; rw [NC.out])) | (go_at_call 67; go_must ((first | ((with_reducible refine (id_any (pk ds 0) (pk ds 1) (pk ds 2) _).mono ?_); rintro e w1 ⟨rfl, rfl⟩; rw [NI.out]) | ((with_reducible refine (id_any (pk ds 1) (pk ds 2) (pk ds 3) _).mono ?_); rintro e w1 ⟨rfl, rfl⟩; rw [NJ.out])))))
  refine (signT (by assumption)).mono ?_
  rintro e w2 ⟨rfl, hto2⟩
  have hres := hto2.res hlt
  have r0 := cell_blk hres 0
  have r1 := cell_blk hres 1
  have r2 := cell_blk hres 2
  have r3 := cell_blk hres 3
  have r4 := cell_blk hres 4
  have r5 := cell_blk hres 5
  have g0 := frozen_blk hres 0
  have g1 := frozen_blk hres 1
  have g2 := frozen_blk hres 2
  have g3 := frozen_blk hres 3
  have g4 := frozen_blk hres 4
  have g5 := frozen_blk hres 5
  clear hres
  go_wp2_with fail
  refine bodyPost_ret (v := tkV (signKind (pk ds 0)) 0 false []) (by simp [results, Tryz.results54, go_sem, tkV, bsOf, r0, r1, r2, r3, r4, r5]) rfl ?_
  refine ⟨false, by rw [HN.out]; rfl, ?_⟩
  rw [HN.out]
  show To b s (ds.tail) cv (op || false) _ _
  rw [Bool.or_false]
  exact hto2.store6 hlt _ _ _ _ _ _
set_option maxHeartbeats 3200000 in
set_option maxRecDepth 100000 in
theorem nx10d (h : LX b s ds cv op w) (k0_1 : (pk ds 0 == -1) = false) (k0_34 : (pk ds 0 == 34) = false) (k0_39 : (pk ds 0 == 39) = false) (k0_35 : (pk ds 0 == 35) = false) (k0_45 : (pk ds 0 == 45) = false) (k0_60 : (pk ds 0 == 60) = true) (k1_33 : (pk ds 1 == 33) = true) (k2_45 : (pk ds 2 == 45) = false) (k0_64 : (pk ds 0 == 64) = false) (NS : Hid (spQ (pk ds 0) = false)) (NC : Hid (coQ (pk ds 0) (pk ds 1) (pk ds 2) = false)) (NI : Hid (idQ (pk ds 0) (pk ds 1) (pk ds 2) = false)) (NJ : Hid (True)) (HN : Hid (next ds = (⟨signKind (pk ds 0), 0, []⟩, false, ds.tail))) : Calls Tryz.prog 54 #[.pointer (some ⟨b, 0, none⟩)] w (NxR b s ds cv op w) := by
  have HL := Lib.hid h
  have hlt := h.lt
  clear h
  rename World => w0
  have hto : To b s ds cv op (w0.alloc (.cells #[.int .i64 0, .int .i64 0, .int .i64 0, .int .i64 0, .bool false, .string ⟨#[]⟩] 62)) (w0.alloc (.cells #[.int .i64 0, .int .i64 0, .int .i64 0, .int .i64 0, .bool false, .string ⟨#[]⟩] 62)) := To.start HL.out _
  go_enter Tryz.func54, Tryz.ntmps54
  go_wp2_with (first | (go_at_call 59; go_must ((first | (with_reducible refine (peekT0 (by assumption)).mono ?_) | (with_reducible refine (peekT1 (by assumption)).mono ?_) | (with_reducible refine (peekT2 (by assumption)).mono ?_) | (with_reducible refine (peekT3 (by assumption)).mono ?_)); rintro e w1 ⟨rfl, rfl⟩)) | (go_at_call 64; go_must (refine (sp_any _ _).mono ?_; rintro e w1 ⟨rfl, rfl⟩; rw [NS.out])) | (go_at_call 68; go_must (refine (co_any _ _ _ _).mono ?_; rintro e w1 ⟨rfl, rfl⟩; rw [NC.out])) | (go_at_call 67; go_must ((first | ((with_reducible refine (id_any (pk ds 0) (pk ds 1) (pk ds 2) _).mono ?_); rintro e w1 ⟨rfl, rfl⟩; rw [NI.out]) | ((with_reducible refine (id_any (pk ds 1) (pk ds 2) (pk ds 3) _).mono ?_); rintro e w1 ⟨rfl, rfl⟩; rw [NJ.out])))))
  refine (signT (by assumption)).mono ?_
  rintro e w2 ⟨rfl, hto2⟩
  have hres := hto2.res hlt
  have r0 := cell_blk hres 0
  have r1 := cell_blk hres 1
  have r2 := cell_blk hres 2
  have r3 := cell_blk hres 3
  have r4 := cell_blk hres 4
  have r5 := cell_blk hres 5
  have g0 := frozen_blk hres 0
  have g1 := frozen_blk hres 1
  have g2 := frozen_blk hres 2
  have g3 := frozen_blk hres 3
  have g4 := frozen_blk hres 4
  have g5 := frozen_blk hres 5
  clear hres
  go_wp2_with fail
  refine bodyPost_ret (v := tkV (signKind (pk ds 0)) 0 false []) (by simp [results, Tryz.results54, go_sem, tkV, bsOf, r0, r1, r2, r3, r4, r5]) rfl ?_
  refine ⟨false, by rw [HN.out]; rfl, ?_⟩
  rw [HN.out]
  show To b s (ds.tail) cv (op || false) _ _
  rw [Bool.or_false]
  exact hto2.store6 hlt _ _ _ _ _ _
set_option maxHeartbeats 3200000 in
set_option maxRecDepth 100000 in
theorem nx10e (h : LX b s ds cv op w) (k0_1 : (pk ds 0 == -1) = false) (k0_34 : (pk ds 0 == 34) = false) (k0_39 : (pk ds 0 == 39) = false) (k0_35 : (pk ds 0 == 35) = false) (k0_45 : (pk ds 0 == 45) = false) (k0_60 : (pk ds 0 == 60) = true) (k1_33 : (pk ds 1 == 33) = true) (k2_45 : (pk ds 2 == 45) = true) (k3_45 : (pk ds 3 == 45) = false) (k0_64 : (pk ds 0 == 64) = false) (NS : Hid (spQ (pk ds 0) = false)) (NC : Hid (coQ (pk ds 0) (pk ds 1) (pk ds 2) = false)) (NI : Hid (idQ (pk ds 0) (pk ds 1) (pk ds 2) = false)) (NJ : Hid (True)) (HN : Hid (next ds = (⟨signKind (pk ds 0), 0, []⟩, false, ds.tail))) : Calls Tryz.prog 54 #[.pointer (some ⟨b, 0, none⟩)] w (NxR b s ds cv op w) := by
  have HL := Lib.hid h
  have hlt := h.lt
  clear h
  rename World => w0
  have hto : To b s ds cv op (w0.alloc (.cells #[.int .i64 0, .int .i64 0, .int .i64 0, .int .i64 0, .bool false, .string ⟨#[]⟩] 62)) (w0.alloc (.cells #[.int .i64 0, .int .i64 0, .int .i64 0, .int .i64 0, .bool false, .string ⟨#[]⟩] 62)) := To.start HL.out _
  go_enter Tryz.func54, Tryz.ntmps54
  go_wp2_with (first | (go_at_call 59; go_must ((first | (with_reducible refine (peekT0 (by assumption)).mono ?_) | (with_reducible refine (peekT1 (by assumption)).mono ?_) | (with_reducible refine (peekT2 (by assumption)).mono ?_) | (with_reducible refine (peekT3 (by assumption)).mono ?_)); rintro e w1 ⟨rfl, rfl⟩)) | (go_at_call 64; go_must (refine (sp_any _ _).mono ?_; rintro e w1 ⟨rfl, rfl⟩; rw [NS.out])) | (go_at_call 68; go_must (refine (co_any _ _ _ _).mono ?_; rintro e w1 ⟨rfl, rfl⟩; rw [NC.out])) | (go_at_call 67; go_must ((first | ((with_reducible refine (id_any (pk ds 0) (pk ds 1) (pk ds 2) _).mono ?_); rintro e w1 ⟨rfl, rfl⟩; rw [NI.out]) | ((with_reducible refine (id_any (pk ds 1) (pk ds 2) (pk ds 3) _).mono ?_); rintro e w1 ⟨rfl, rfl⟩; rw [NJ.out])))))
  refine (signT (by assumption)).mono ?_
  rintro e w2 ⟨rfl, hto2⟩
  have hres := hto2.res hlt
  have r0 := cell_blk hres 0
  have r1 := cell_blk hres 1
  have r2 := cell_blk hres 2
  have r3 := cell_blk hres 3
  have r4 := cell_blk hres 4
  have r5 := cell_blk hres 5
  have g0 := frozen_blk hres 0
  have g1 := frozen_blk hres 1
  have g2 := frozen_blk hres 2
  have g3 := frozen_blk hres 3
  have g4 := frozen_blk hres 4
  have g5 := frozen_blk hres 5
  clear hres
  go_wp2_with fail
  refine bodyPost_ret (v := tkV (signKind (pk ds 0)) 0 false []) (by simp [results, Tryz.results54, go_sem, tkV, bsOf, r0, r1, r2, r3, r4, r5]) rfl ?_
  refine ⟨false, by rw [HN.out]; rfl, ?_⟩
  rw [HN.out]
  show To b s (ds.tail) cv (op || false) _ _
  rw [Bool.or_false]
  exact hto2.store6 hlt _ _ _ _ _ _
set_option maxHeartbeats 3200000 in
set_option maxRecDepth 100000 in
theorem nx10f (h : LX b s ds cv op w) (k0_1 : (pk ds 0 == -1) = false) (k0_34 : (pk ds 0 == 34) = false) (k0_39 : (pk ds 0 == 39) = false) (k0_35 : (pk ds 0 == 35) = false) (k0_45 : (pk ds 0 == 45) = false) (k0_60 : (pk ds 0 == 60) = false) (k0_64 : (pk ds 0 == 64) = true) (NS : Hid (spQ (pk ds 0) = false)) (NC : Hid (coQ (pk ds 0) (pk ds 1) (pk ds 2) = false)) (NI : Hid (idQ (pk ds 0) (pk ds 1) (pk ds 2) = false)) (NJ : Hid (idQ (pk ds 1) (pk ds 2) (pk ds 3) = false)) (HN : Hid (next ds = (⟨signKind (pk ds 0), 0, []⟩, false, ds.tail))) : Calls Tryz.prog 54 #[.pointer (some ⟨b, 0, none⟩)] w (NxR b s ds cv op w) := by
  have HL := Lib.hid h
  have hlt := h.lt
  clear h
  rename World => w0
  have hto : To b s ds cv op (w0.alloc (.cells #[.int .i64 0, .int .i64 0, .int .i64 0, .int .i64 0, .bool false, .string ⟨#[]⟩] 62)) (w0.alloc (.cells #[.int .i64 0, .int .i64 0, .int .i64 0, .int .i64 0, .bool false, .string ⟨#[]⟩] 62)) := To.start HL.out _
  go_enter Tryz.func54, Tryz.ntmps54
  go_wp2_with (first | (go_at_call 59; go_must ((first | (with_reducible refine (peekT0 (by assumption)).mono ?_) | (with_reducible refine (peekT1 (by assumption)).mono ?_) | (with_reducible refine (peekT2 (by assumption)).mono ?_) | (with_reducible refine (peekT3 (by assumption)).mono ?_)); rintro e w1 ⟨rfl, rfl⟩)) | (go_at_call 64; go_must (refine (sp_any _ _).mono ?_; rintro e w1 ⟨rfl, rfl⟩; rw [NS.out])) | (go_at_call 68; go_must (refine (co_any _ _ _ _).mono ?_; rintro e w1 ⟨rfl, rfl⟩; rw [NC.out])) | (go_at_call 67; go_must ((first | ((with_reducible refine (id_any (pk ds 0) (pk ds 1) (pk ds 2) _).mono ?_); rintro e w1 ⟨rfl, rfl⟩; rw [NI.out]) | ((with_reducible refine (id_any (pk ds 1) (pk ds 2) (pk ds 3) _).mono ?_); rintro e w1 ⟨rfl, rfl⟩; rw [NJ.out])))))
  refine (signT (by assumption)).mono ?_
  rintro e w2 ⟨rfl, hto2⟩
  have hres := hto2.res hlt
  have r0 := cell_blk hres 0
  have r1 := cell_blk hres 1
  have r2 := cell_blk hres 2
  have r3 := cell_blk hres 3
  have r4 := cell_blk hres 4
  have r5 := cell_blk hres 5
  have g0 := frozen_blk hres 0
  have g1 := frozen_blk hres 1
  have g2 := frozen_blk hres 2
  have g3 := frozen_blk hres 3
  have g4 := frozen_blk hres 4
  have g5 := frozen_blk hres 5
  clear hres
  go_wp2_with fail
  refine bodyPost_ret (v := tkV (signKind (pk ds 0)) 0 false []) (by simp [results, Tryz.results54, go_sem, tkV, bsOf, r0, r1, r2, r3, r4, r5]) rfl ?_
  refine ⟨false, by rw [HN.out]; rfl, ?_⟩
  rw [HN.out]
  show To b s (ds.tail) cv (op || false) _ _
  rw [Bool.or_false]
  exact hto2.store6 hlt _ _ _ _ _ _
set_option maxHeartbeats 3200000 in
set_option maxRecDepth 100000 in
theorem nx10g (h : LX b s ds cv op w) (k0_1 : (pk ds 0 == -1) = false) (k0_34 : (pk ds 0 == 34) = false) (k0_39 : (pk ds 0 == 39) = false) (k0_35 : (pk ds 0 == 35) = false) (k0_45 : (pk ds 0 == 45) = false) (k0_60 : (pk ds 0 == 60) = false) (k0_64 : (pk ds 0 == 64) = false) (NS : Hid (spQ (pk ds 0) = false)) (NC : Hid (coQ (pk ds 0) (pk ds 1) (pk ds 2) = false)) (NI : Hid (idQ (pk ds 0) (pk ds 1) (pk ds 2) = false)) (NJ : Hid (True)) (HN : Hid (next ds = (⟨signKind (pk ds 0), 0, []⟩, false, ds.tail))) : Calls Tryz.prog 54 #[.pointer (some ⟨b, 0, none⟩)] w (NxR b s ds cv op w) := by
  have HL := Lib.hid h
  have hlt := h.lt
  clear h
  rename World => w0
  have hto : To b s ds cv op (w0.alloc (.cells #[.int .i64 0, .int .i64 0, .int .i64 0, .int .i64 0, .bool false, .string ⟨#[]⟩] 62)) (w0.alloc (.cells #[.int .i64 0, .int .i64 0, .int .i64 0, .int .i64 0, .bool false, .string ⟨#[]⟩] 62)) := To.start HL.out _
  go_enter Tryz.func54, Tryz.ntmps54
  go_wp2_with (first | (go_at_call 59; go_must ((first | (with_reducible refine (peekT0 (by assumption)).mono ?_) | (with_reducible refine (peekT1 (by assumption)).mono ?_) | (with_reducible refine (peekT2 (by assumption)).mono ?_) | (with_reducible refine (peekT3 (by assumption)).mono ?_)); rintro e w1 ⟨rfl, rfl⟩)) | (go_at_call 64; go_must (refine (sp_any _ _).mono ?_; rintro e w1 ⟨rfl, rfl⟩; rw [NS.out])) | (go_at_call 68; go_must (refine (co_any _ _ _ _).mono ?_; rintro e w1 ⟨rfl, rfl⟩; rw [NC.out])) | (go_at_call 67; go_must ((first | ((with_reducible refine (id_any (pk ds 0) (pk ds 1) (pk ds 2) _).mono ?_); rintro e w1 ⟨rfl, rfl⟩; rw [NI.out]) | ((with_reducible refine (id_any (pk ds 1) (pk ds 2) (pk ds 3) _).mono ?_); rintro e w1 ⟨rfl, rfl⟩; rw [NJ.out])))))
  refine (signT (by assumption)).mono ?_
  rintro e w2 ⟨rfl, hto2⟩
  have hres := hto2.res hlt
  have r0 := cell_blk hres 0
  have r1 := cell_blk hres 1
  have r2 := cell_blk hres 2
  have r3 := cell_blk hres 3
  have r4 := cell_blk hres 4
  have r5 := cell_blk hres 5
  have g0 := frozen_blk hres 0
  have g1 := frozen_blk hres 1
  have g2 := frozen_blk hres 2
  have g3 := frozen_blk hres 3
  have g4 := frozen_blk hres 4
  have g5 := frozen_blk hres 5
  clear hres
  go_wp2_with fail
  refine bodyPost_ret (v := tkV (signKind (pk ds 0)) 0 false []) (by simp [results, Tryz.results54, go_sem, tkV, bsOf, r0, r1, r2, r3, r4, r5]) rfl ?_
  refine ⟨false, by rw [HN.out]; rfl, ?_⟩
  rw [HN.out]
  show To b s (ds.tail) cv (op || false) _ _
  rw [Bool.or_false]
  exact hto2.store6 hlt _ _ _ _ _ _
end
end Go.Proofs.YtkfdcbdlcipmfaaGreatFmt
