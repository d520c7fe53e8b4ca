/- Walks: the reference's lexer: signs that are a token by themselves (printed by genS14.py). -/
import Derived.Test.YtkfdcbdlcipmfaaGreatFmtH29
set_option linter.unusedVariables false
set_option linter.unusedSimpArgs false
namespace Go.Proofs.YtkfdcbdlcipmfaaGreatFmt
open Go.RowKit Css
section
variable {b : Nat} {s : ByteArray} {ds : List Int} {cv : Value} {op : Bool} {w : World}
theorem signKind_other {c : Int} (h0 : (c == 123) = false) (h1 : (c == 125) = false) (h2 : (c == 91) = false) (h3 : (c == 93) = false) (h4 : (c == 40) = false) (h5 : (c == 41) = false) (h6 : (c == 58) = false) (h7 : (c == 59) = false) (h8 : (c == 44) = false) (h9 : (c == 38) = false) (h10 : (c == 42) = false) (h11 : (c == 124) = false) (h12 : (c == 94) = false) (h13 : (c == 36) = false) (h14 : (c == 46) = false) (h15 : (c == 61) = false) (h16 : (c == 33) = false) (h17 : (c == 62) = false) (h18 : (c == 60) = false) (h19 : (c == 45) = false) (h20 : (c == 43) = false) (h21 : (c == 47) = false) (h22 : (c == 126) = false) : signKind c = 11 := by
  simp only [beq_eq_false_iff_ne] at *
  unfold signKind
  rw [if_neg h0, if_neg h1, if_neg h2, if_neg h3, if_neg h4, if_neg h5, if_neg h6, if_neg h7, if_neg h8, if_neg h9, if_neg h10, if_neg h11, if_neg h12, if_neg h13, if_neg h14, if_neg h15, if_neg h16, if_neg h17, if_neg h18, if_neg h19, if_neg h20, if_neg h21, if_neg h22]
def SgR (b : Nat) (s : ByteArray) (ds : List Int) (cv : Value) (op : Bool) (w : World) (e : Ending) (w' : World) : Prop :=
  e = .returned (tkV (signKind (pk ds 0)) 0 false []) ∧ To b s ds.tail cv op w w'
set_option maxHeartbeats 1600000 in
set_option maxRecDepth 100000 in
theorem sign_0 (h : LX b s ds cv op w)  (q0 : (pk ds 0 == 123) = true) : Calls Tryz.prog 71 #[.pointer (some ⟨b, 0, none⟩)] w (SgR b s ds cv op w) := by
  have HF : Hid (signKind (pk ds 0) = 31) := by
    have h0 : pk ds 0 = 123 := by simpa using q0
    show _ = _; rw [h0]; decide
  have HL := Lib.hid h
  have hlt := h.lt
  clear h
  rename World => w0
  have hto0 : To b s ds cv op (w0.alloc (.cells #[.int .i64 0, .int .i64 0, .int .i64 0, .int .i64 0, .bool false, .string ⟨#[]⟩] 62)) (w0.alloc (.cells #[.int .i64 0, .int .i64 0, .int .i64 0, .int .i64 0, .bool false, .string ⟨#[]⟩] 62)) := To.start HL.out _
  go_enter Tryz.func71, Tryz.ntmps71
  go_wp2_with fail
  refine (takeT (by assumption)).mono ?_
  rintro e w1 ⟨rfl, hto⟩
  clear hto0
  have hres := hto.res hlt
  have r0 := cell_blk hres 0
  have r1 := cell_blk hres 1
  have r2 := cell_blk hres 2
  have r3 := cell_blk hres 3
  have r4 := cell_blk hres 4
  have r5 := cell_blk hres 5
  have g0 := frozen_blk hres 0
  have g1 := frozen_blk hres 1
  have g2 := frozen_blk hres 2
  have g3 := frozen_blk hres 3
  have g4 := frozen_blk hres 4
  have g5 := frozen_blk hres 5
  clear hres
  go_wp2_with fail
  refine bodyPost_ret (v := tkV 31 0 false []) (by simp [results, Tryz.results71, go_sem, tkV, bsOf, r0, r1, r2, r3, r4, r5]) rfl ?_
  exact ⟨by rw [HF.out], hto.store6 hlt _ _ _ _ _ _⟩
set_option maxHeartbeats 1600000 in
set_option maxRecDepth 100000 in
theorem sign_1 (h : LX b s ds cv op w) (q0 : (pk ds 0 == 123) = false) (q1 : (pk ds 0 == 125) = true) : Calls Tryz.prog 71 #[.pointer (some ⟨b, 0, none⟩)] w (SgR b s ds cv op w) := by
  have HF : Hid (signKind (pk ds 0) = 6) := by
    have h0 : pk ds 0 = 125 := by simpa using q1
    show _ = _; rw [h0]; decide
  have HL := Lib.hid h
  have hlt := h.lt
  clear h
  rename World => w0
  have hto0 : To b s ds cv op (w0.alloc (.cells #[.int .i64 0, .int .i64 0, .int .i64 0, .int .i64 0, .bool false, .string ⟨#[]⟩] 62)) (w0.alloc (.cells #[.int .i64 0, .int .i64 0, .int .i64 0, .int .i64 0, .bool false, .string ⟨#[]⟩] 62)) := To.start HL.out _
  go_enter Tryz.func71, Tryz.ntmps71
  go_wp2_with fail
  refine (takeT (by assumption)).mono ?_
  rintro e w1 ⟨rfl, hto⟩
  clear hto0
  have hres := hto.res hlt
  have r0 := cell_blk hres 0
  have r1 := cell_blk hres 1
  have r2 := cell_blk hres 2
  have r3 := cell_blk hres 3
  have r4 := cell_blk hres 4
  have r5 := cell_blk hres 5
  have g0 := frozen_blk hres 0
  have g1 := frozen_blk hres 1
  have g2 := frozen_blk hres 2
  have g3 := frozen_blk hres 3
  have g4 := frozen_blk hres 4
  have g5 := frozen_blk hres 5
  clear hres
  go_wp2_with fail
  refine bodyPost_ret (v := tkV 6 0 false []) (by simp [results, Tryz.results71, go_sem, tkV, bsOf, r0, r1, r2, r3, r4, r5]) rfl ?_
  exact ⟨by rw [HF.out], hto.store6 hlt _ _ _ _ _ _⟩
set_option maxHeartbeats 1600000 in
set_option maxRecDepth 100000 in
theorem sign_2 (h : LX b s ds cv op w) (q0 : (pk ds 0 == 123) = false) (q1 : (pk ds 0 == 125) = false) (q2 : (pk ds 0 == 91) = true) : Calls Tryz.prog 71 #[.pointer (some ⟨b, 0, none⟩)] w (SgR b s ds cv op w) := by
  have HF : Hid (signKind (pk ds 0) = 32) := by
    have h0 : pk ds 0 = 91 := by simpa using q2
    show _ = _; rw [h0]; decide
  have HL := Lib.hid h
  have hlt := h.lt
  clear h
  rename World => w0
  have hto0 : To b s ds cv op (w0.alloc (.cells #[.int .i64 0, .int .i64 0, .int .i64 0, .int .i64 0, .bool false, .string ⟨#[]⟩] 62)) (w0.alloc (.cells #[.int .i64 0, .int .i64 0, .int .i64 0, .int .i64 0, .bool false, .string ⟨#[]⟩] 62)) := To.start HL.out _
  go_enter Tryz.func71, Tryz.ntmps71
  go_wp2_with fail
  refine (takeT (by assumption)).mono ?_
  rintro e w1 ⟨rfl, hto⟩
  clear hto0
  have hres := hto.res hlt
  have r0 := cell_blk hres 0
  have r1 := cell_blk hres 1
  have r2 := cell_blk hres 2
  have r3 := cell_blk hres 3
  have r4 := cell_blk hres 4
  have r5 := cell_blk hres 5
  have g0 := frozen_blk hres 0
  have g1 := frozen_blk hres 1
  have g2 := frozen_blk hres 2
  have g3 := frozen_blk hres 3
  have g4 := frozen_blk hres 4
  have g5 := frozen_blk hres 5
  clear hres
  go_wp2_with fail
  refine bodyPost_ret (v := tkV 32 0 false []) (by simp [results, Tryz.results71, go_sem, tkV, bsOf, r0, r1, r2, r3, r4, r5]) rfl ?_
  exact ⟨by rw [HF.out], hto.store6 hlt _ _ _ _ _ _⟩
set_option maxHeartbeats 1600000 in
set_option maxRecDepth 100000 in
theorem sign_3 (h : LX b s ds cv op w) (q0 : (pk ds 0 == 123) = false) (q1 : (pk ds 0 == 125) = false) (q2 : (pk ds 0 == 91) = false) (q3 : (pk ds 0 == 93) = true) : Calls Tryz.prog 71 #[.pointer (some ⟨b, 0, none⟩)] w (SgR b s ds cv op w) := by
  have HF : Hid (signKind (pk ds 0) = 7) := by
    have h0 : pk ds 0 = 93 := by simpa using q3
    show _ = _; rw [h0]; decide
  have HL := Lib.hid h
  have hlt := h.lt
  clear h
  rename World => w0
  have hto0 : To b s ds cv op (w0.alloc (.cells #[.int .i64 0, .int .i64 0, .int .i64 0, .int .i64 0, .bool false, .string ⟨#[]⟩] 62)) (w0.alloc (.cells #[.int .i64 0, .int .i64 0, .int .i64 0, .int .i64 0, .bool false, .string ⟨#[]⟩] 62)) := To.start HL.out _
  go_enter Tryz.func71, Tryz.ntmps71
  go_wp2_with fail
  refine (takeT (by assumption)).mono ?_
  rintro e w1 ⟨rfl, hto⟩
  clear hto0
  have hres := hto.res hlt
  have r0 := cell_blk hres 0
  have r1 := cell_blk hres 1
  have r2 := cell_blk hres 2
  have r3 := cell_blk hres 3
  have r4 := cell_blk hres 4
  have r5 := cell_blk hres 5
  have g0 := frozen_blk hres 0
  have g1 := frozen_blk hres 1
  have g2 := frozen_blk hres 2
  have g3 := frozen_blk hres 3
  have g4 := frozen_blk hres 4
  have g5 := frozen_blk hres 5
  clear hres
  go_wp2_with fail
  refine bodyPost_ret (v := tkV 7 0 false []) (by simp [results, Tryz.results71, go_sem, tkV, bsOf, r0, r1, r2, r3, r4, r5]) rfl ?_
  exact ⟨by rw [HF.out], hto.store6 hlt _ _ _ _ _ _⟩
set_option maxHeartbeats 1600000 in
set_option maxRecDepth 100000 in
theorem sign_4 (h : LX b s ds cv op w) (q0 : (pk ds 0 == 123) = false) (q1 : (pk ds 0 == 125) = false) (q2 : (pk ds 0 == 91) = false) (q3 : (pk ds 0 == 93) = false) (q4 : (pk ds 0 == 40) = true) : Calls Tryz.prog 71 #[.pointer (some ⟨b, 0, none⟩)] w (SgR b s ds cv op w) := by
  have HF : Hid (signKind (pk ds 0) = 33) := by
    have h0 : pk ds 0 = 40 := by simpa using q4
    show _ = _; rw [h0]; decide
  have HL := Lib.hid h
  have hlt := h.lt
  clear h
  rename World => w0
  have hto0 : To b s ds cv op (w0.alloc (.cells #[.int .i64 0, .int .i64 0, .int .i64 0, .int .i64 0, .bool false, .string ⟨#[]⟩] 62)) (w0.alloc (.cells #[.int .i64 0, .int .i64 0, .int .i64 0, .int .i64 0, .bool false, .string ⟨#[]⟩] 62)) := To.start HL.out _
  go_enter Tryz.func71, Tryz.ntmps71
  go_wp2_with fail
  refine (takeT (by assumption)).mono ?_
  rintro e w1 ⟨rfl, hto⟩
  clear hto0
  have hres := hto.res hlt
  have r0 := cell_blk hres 0
  have r1 := cell_blk hres 1
  have r2 := cell_blk hres 2
  have r3 := cell_blk hres 3
  have r4 := cell_blk hres 4
  have r5 := cell_blk hres 5
  have g0 := frozen_blk hres 0
  have g1 := frozen_blk hres 1
  have g2 := frozen_blk hres 2
  have g3 := frozen_blk hres 3
  have g4 := frozen_blk hres 4
  have g5 := frozen_blk hres 5
  clear hres
  go_wp2_with fail
  refine bodyPost_ret (v := tkV 33 0 false []) (by simp [results, Tryz.results71, go_sem, tkV, bsOf, r0, r1, r2, r3, r4, r5]) rfl ?_
  exact ⟨by rw [HF.out], hto.store6 hlt _ _ _ _ _ _⟩
set_option maxHeartbeats 1600000 in
set_option maxRecDepth 100000 in
theorem sign_5 (h : LX b s ds cv op w) (q0 : (pk ds 0 == 123) = false) (q1 : (pk ds 0 == 125) = false) (q2 : (pk ds 0 == 91) = false) (q3 : (pk ds 0 == 93) = false) (q4 : (pk ds 0 == 40) = false) (q5 : (pk ds 0 == 41) = true) : Calls Tryz.prog 71 #[.pointer (some ⟨b, 0, none⟩)] w (SgR b s ds cv op w) := by
  have HF : Hid (signKind (pk ds 0) = 8) := by
    have h0 : pk ds 0 = 41 := by simpa using q5
    show _ = _; rw [h0]; decide
  have HL := Lib.hid h
  have hlt := h.lt
  clear h
  rename World => w0
  have hto0 : To b s ds cv op (w0.alloc (.cells #[.int .i64 0, .int .i64 0, .int .i64 0, .int .i64 0, .bool false, .string ⟨#[]⟩] 62)) (w0.alloc (.cells #[.int .i64 0, .int .i64 0, .int .i64 0, .int .i64 0, .bool false, .string ⟨#[]⟩] 62)) := To.start HL.out _
  go_enter Tryz.func71, Tryz.ntmps71
  go_wp2_with fail
  refine (takeT (by assumption)).mono ?_
  rintro e w1 ⟨rfl, hto⟩
  clear hto0
  have hres := hto.res hlt
  have r0 := cell_blk hres 0
  have r1 := cell_blk hres 1
  have r2 := cell_blk hres 2
  have r3 := cell_blk hres 3
  have r4 := cell_blk hres 4
  have r5 := cell_blk hres 5
  have g0 := frozen_blk hres 0
  have g1 := frozen_blk hres 1
  have g2 := frozen_blk hres 2
  have g3 := frozen_blk hres 3
  have g4 := frozen_blk hres 4
  have g5 := frozen_blk hres 5
  clear hres
  go_wp2_with fail
  refine bodyPost_ret (v := tkV 8 0 false []) (by simp [results, Tryz.results71, go_sem, tkV, bsOf, r0, r1, r2, r3, r4, r5]) rfl ?_
  exact ⟨by rw [HF.out], hto.store6 hlt _ _ _ _ _ _⟩
set_option maxHeartbeats 1600000 in
set_option maxRecDepth 100000 in
theorem sign_6 (h : LX b s ds cv op w) (q0 : (pk ds 0 == 123) = false) (q1 : (pk ds 0 == 125) = false) (q2 : (pk ds 0 == 91) = false) (q3 : (pk ds 0 == 93) = false) (q4 : (pk ds 0 == 40) = false) (q5 : (pk ds 0 == 41) = false) (q6 : (pk ds 0 == 58) = true) : Calls Tryz.prog 71 #[.pointer (some ⟨b, 0, none⟩)] w (SgR b s ds cv op w) := by
  have HF : Hid (signKind (pk ds 0) = 9) := by
    have h0 : pk ds 0 = 58 := by simpa using q6
    show _ = _; rw [h0]; decide
  have HL := Lib.hid h
  have hlt := h.lt
  clear h
  rename World => w0
  have hto0 : To b s ds cv op (w0.alloc (.cells #[.int .i64 0, .int .i64 0, .int .i64 0, .int .i64 0, .bool false, .string ⟨#[]⟩] 62)) (w0.alloc (.cells #[.int .i64 0, .int .i64 0, .int .i64 0, .int .i64 0, .bool false, .string ⟨#[]⟩] 62)) := To.start HL.out _
  go_enter Tryz.func71, Tryz.ntmps71
  go_wp2_with fail
  refine (takeT (by assumption)).mono ?_
  rintro e w1 ⟨rfl, hto⟩
  clear hto0
  have hres := hto.res hlt
  have r0 := cell_blk hres 0
  have r1 := cell_blk hres 1
  have r2 := cell_blk hres 2
  have r3 := cell_blk hres 3
  have r4 := cell_blk hres 4
  have r5 := cell_blk hres 5
  have g0 := frozen_blk hres 0
  have g1 := frozen_blk hres 1
  have g2 := frozen_blk hres 2
  have g3 := frozen_blk hres 3
  have g4 := frozen_blk hres 4
  have g5 := frozen_blk hres 5
  clear hres
  go_wp2_with fail
  refine bodyPost_ret (v := tkV 9 0 false []) (by simp [results, Tryz.results71, go_sem, tkV, bsOf, r0, r1, r2, r3, r4, r5]) rfl ?_
  exact ⟨by rw [HF.out], hto.store6 hlt _ _ _ _ _ _⟩
set_option maxHeartbeats 1600000 in
set_option maxRecDepth 100000 in
theorem sign_7 (h : LX b s ds cv op w) (q0 : (pk ds 0 == 123) = false) (q1 : (pk ds 0 == 125) = false) (q2 : (pk ds 0 == 91) = false) (q3 : (pk ds 0 == 93) = false) (q4 : (pk ds 0 == 40) = false) (q5 : (pk ds 0 == 41) = false) (q6 : (pk ds 0 == 58) = false) (q7 : (pk ds 0 == 59) = true) : Calls Tryz.prog 71 #[.pointer (some ⟨b, 0, none⟩)] w (SgR b s ds cv op w) := by
  have HF : Hid (signKind (pk ds 0) = 35) := by
    have h0 : pk ds 0 = 59 := by simpa using q7
    show _ = _; rw [h0]; decide
  have HL := Lib.hid h
  have hlt := h.lt
  clear h
  rename World => w0
  have hto0 : To b s ds cv op (w0.alloc (.cells #[.int .i64 0, .int .i64 0, .int .i64 0, .int .i64 0, .bool false, .string ⟨#[]⟩] 62)) (w0.alloc (.cells #[.int .i64 0, .int .i64 0, .int .i64 0, .int .i64 0, .bool false, .string ⟨#[]⟩] 62)) := To.start HL.out _
  go_enter Tryz.func71, Tryz.ntmps71
  go_wp2_with fail
  refine (takeT (by assumption)).mono ?_
  rintro e w1 ⟨rfl, hto⟩
  clear hto0
  have hres := hto.res hlt
  have r0 := cell_blk hres 0
  have r1 := cell_blk hres 1
  have r2 := cell_blk hres 2
  have r3 := cell_blk hres 3
  have r4 := cell_blk hres 4
  have r5 := cell_blk hres 5
  have g0 := frozen_blk hres 0
  have g1 := frozen_blk hres 1
  have g2 := frozen_blk hres 2
  have g3 := frozen_blk hres 3
  have g4 := frozen_blk hres 4
  have g5 := frozen_blk hres 5
  clear hres
  go_wp2_with fail
  refine bodyPost_ret (v := tkV 35 0 false []) (by simp [results, Tryz.results71, go_sem, tkV, bsOf, r0, r1, r2, r3, r4, r5]) rfl ?_
  exact ⟨by rw [HF.out], hto.store6 hlt _ _ _ _ _ _⟩
set_option maxHeartbeats 1600000 in
set_option maxRecDepth 100000 in
theorem sign_8 (h : LX b s ds cv op w) (q0 : (pk ds 0 == 123) = false) (q1 : (pk ds 0 == 125) = false) (q2 : (pk ds 0 == 91) = false) (q3 : (pk ds 0 == 93) = false) (q4 : (pk ds 0 == 40) = false) (q5 : (pk ds 0 == 41) = false) (q6 : (pk ds 0 == 58) = false) (q7 : (pk ds 0 == 59) = false) (q8 : (pk ds 0 == 44) = true) : Calls Tryz.prog 71 #[.pointer (some ⟨b, 0, none⟩)] w (SgR b s ds cv op w) := by
  have HF : Hid (signKind (pk ds 0) = 10) := by
    have h0 : pk ds 0 = 44 := by simpa using q8
    show _ = _; rw [h0]; decide
  have HL := Lib.hid h
  have hlt := h.lt
  clear h
  rename World => w0
  have hto0 : To b s ds cv op (w0.alloc (.cells #[.int .i64 0, .int .i64 0, .int .i64 0, .int .i64 0, .bool false, .string ⟨#[]⟩] 62)) (w0.alloc (.cells #[.int .i64 0, .int .i64 0, .int .i64 0, .int .i64 0, .bool false, .string ⟨#[]⟩] 62)) := To.start HL.out _
  go_enter Tryz.func71, Tryz.ntmps71
  go_wp2_with fail
  refine (takeT (by assumption)).mono ?_
  rintro e w1 ⟨rfl, hto⟩
  clear hto0
  have hres := hto.res hlt
  have r0 := cell_blk hres 0
  have r1 := cell_blk hres 1
  have r2 := cell_blk hres 2
  have r3 := cell_blk hres 3
  have r4 := cell_blk hres 4
  have r5 := cell_blk hres 5
  have g0 := frozen_blk hres 0
  have g1 := frozen_blk hres 1
  have g2 := frozen_blk hres 2
  have g3 := frozen_blk hres 3
  have g4 := frozen_blk hres 4
  have g5 := frozen_blk hres 5
  clear hres
  go_wp2_with fail
  refine bodyPost_ret (v := tkV 10 0 false []) (by simp [results, Tryz.results71, go_sem, tkV, bsOf, r0, r1, r2, r3, r4, r5]) rfl ?_
  exact ⟨by rw [HF.out], hto.store6 hlt _ _ _ _ _ _⟩
set_option maxHeartbeats 1600000 in
set_option maxRecDepth 100000 in
theorem sign_9 (h : LX b s ds cv op w) (q0 : (pk ds 0 == 123) = false) (q1 : (pk ds 0 == 125) = false) (q2 : (pk ds 0 == 91) = false) (q3 : (pk ds 0 == 93) = false) (q4 : (pk ds 0 == 40) = false) (q5 : (pk ds 0 == 41) = false) (q6 : (pk ds 0 == 58) = false) (q7 : (pk ds 0 == 59) = false) (q8 : (pk ds 0 == 44) = false) (q9 : (pk ds 0 == 38) = true) : Calls Tryz.prog 71 #[.pointer (some ⟨b, 0, none⟩)] w (SgR b s ds cv op w) := by
  have HF : Hid (signKind (pk ds 0) = 12) := by
    have h0 : pk ds 0 = 38 := by simpa using q9
    show _ = _; rw [h0]; decide
  have HL := Lib.hid h
  have hlt := h.lt
  clear h
  rename World => w0
  have hto0 : To b s ds cv op (w0.alloc (.cells #[.int .i64 0, .int .i64 0, .int .i64 0, .int .i64 0, .bool false, .string ⟨#[]⟩] 62)) (w0.alloc (.cells #[.int .i64 0, .int .i64 0, .int .i64 0, .int .i64 0, .bool false, .string ⟨#[]⟩] 62)) := To.start HL.out _
  go_enter Tryz.func71, Tryz.ntmps71
  go_wp2_with fail
  refine (takeT (by assumption)).mono ?_
  rintro e w1 ⟨rfl, hto⟩
  clear hto0
  have hres := hto.res hlt
  have r0 := cell_blk hres 0
  have r1 := cell_blk hres 1
  have r2 := cell_blk hres 2
  have r3 := cell_blk hres 3
  have r4 := cell_blk hres 4
  have r5 := cell_blk hres 5
  have g0 := frozen_blk hres 0
  have g1 := frozen_blk hres 1
  have g2 := frozen_blk hres 2
  have g3 := frozen_blk hres 3
  have g4 := frozen_blk hres 4
  have g5 := frozen_blk hres 5
  clear hres
  go_wp2_with fail
  refine bodyPost_ret (v := tkV 12 0 false []) (by simp [results, Tryz.results71, go_sem, tkV, bsOf, r0, r1, r2, r3, r4, r5]) rfl ?_
  exact ⟨by rw [HF.out], hto.store6 hlt _ _ _ _ _ _⟩
set_option maxHeartbeats 1600000 in
set_option maxRecDepth 100000 in
theorem sign_10 (h : LX b s ds cv op w) (q0 : (pk ds 0 == 123) = false) (q1 : (pk ds 0 == 125) = false) (q2 : (pk ds 0 == 91) = false) (q3 : (pk ds 0 == 93) = false) (q4 : (pk ds 0 == 40) = false) (q5 : (pk ds 0 == 41) = false) (q6 : (pk ds 0 == 58) = false) (q7 : (pk ds 0 == 59) = false) (q8 : (pk ds 0 == 44) = false) (q9 : (pk ds 0 == 38) = false) (q10 : (pk ds 0 == 42) = true) : Calls Tryz.prog 71 #[.pointer (some ⟨b, 0, none⟩)] w (SgR b s ds cv op w) := by
  have HF : Hid (signKind (pk ds 0) = 13) := by
    have h0 : pk ds 0 = 42 := by simpa using q10
    show _ = _; rw [h0]; decide
  have HL := Lib.hid h
  have hlt := h.lt
  clear h
  rename World => w0
  have hto0 : To b s ds cv op (w0.alloc (.cells #[.int .i64 0, .int .i64 0, .int .i64 0, .int .i64 0, .bool false, .string ⟨#[]⟩] 62)) (w0.alloc (.cells #[.int .i64 0, .int .i64 0, .int .i64 0, .int .i64 0, .bool false, .string ⟨#[]⟩] 62)) := To.start HL.out _
  go_enter Tryz.func71, Tryz.ntmps71
  go_wp2_with fail
  refine (takeT (by assumption)).mono ?_
  rintro e w1 ⟨rfl, hto⟩
  clear hto0
  have hres := hto.res hlt
  have r0 := cell_blk hres 0
  have r1 := cell_blk hres 1
  have r2 := cell_blk hres 2
  have r3 := cell_blk hres 3
  have r4 := cell_blk hres 4
  have r5 := cell_blk hres 5
  have g0 := frozen_blk hres 0
  have g1 := frozen_blk hres 1
  have g2 := frozen_blk hres 2
  have g3 := frozen_blk hres 3
  have g4 := frozen_blk hres 4
  have g5 := frozen_blk hres 5
  clear hres
  go_wp2_with fail
  refine bodyPost_ret (v := tkV 13 0 false []) (by simp [results, Tryz.results71, go_sem, tkV, bsOf, r0, r1, r2, r3, r4, r5]) rfl ?_
  exact ⟨by rw [HF.out], hto.store6 hlt _ _ _ _ _ _⟩
set_option maxHeartbeats 1600000 in
set_option maxRecDepth 100000 in
theorem sign_11 (h : LX b s ds cv op w) (q0 : (pk ds 0 == 123) = false) (q1 : (pk ds 0 == 125) = false) (q2 : (pk ds 0 == 91) = false) (q3 : (pk ds 0 == 93) = false) (q4 : (pk ds 0 == 40) = false) (q5 : (pk ds 0 == 41) = false) (q6 : (pk ds 0 == 58) = false) (q7 : (pk ds 0 == 59) = false) (q8 : (pk ds 0 == 44) = false) (q9 : (pk ds 0 == 38) = false) (q10 : (pk ds 0 == 42) = false) (q11 : (pk ds 0 == 124) = true) : Calls Tryz.prog 71 #[.pointer (some ⟨b, 0, none⟩)] w (SgR b s ds cv op w) := by
  have HF : Hid (signKind (pk ds 0) = 14) := by
    have h0 : pk ds 0 = 124 := by simpa using q11
    show _ = _; rw [h0]; decide
  have HL := Lib.hid h
  have hlt := h.lt
  clear h
  rename World => w0
  have hto0 : To b s ds cv op (w0.alloc (.cells #[.int .i64 0, .int .i64 0, .int .i64 0, .int .i64 0, .bool false, .string ⟨#[]⟩] 62)) (w0.alloc (.cells #[.int .i64 0, .int .i64 0, .int .i64 0, .int .i64 0, .bool false, .string ⟨#[]⟩] 62)) := To.start HL.out _
  go_enter Tryz.func71, Tryz.ntmps71
  go_wp2_with fail
  refine (takeT (by assumption)).mono ?_
  rintro e w1 ⟨rfl, hto⟩
  clear hto0
  have hres := hto.res hlt
  have r0 := cell_blk hres 0
  have r1 := cell_blk hres 1
  have r2 := cell_blk hres 2
  have r3 := cell_blk hres 3
  have r4 := cell_blk hres 4
  have r5 := cell_blk hres 5
  have g0 := frozen_blk hres 0
  have g1 := frozen_blk hres 1
  have g2 := frozen_blk hres 2
  have g3 := frozen_blk hres 3
  have g4 := frozen_blk hres 4
  have g5 := frozen_blk hres 5
  clear hres
  go_wp2_with fail
  refine bodyPost_ret (v := tkV 14 0 false []) (by simp [results, Tryz.results71, go_sem, tkV, bsOf, r0, r1, r2, r3, r4, r5]) rfl ?_
  exact ⟨by rw [HF.out], hto.store6 hlt _ _ _ _ _ _⟩
set_option maxHeartbeats 1600000 in
set_option maxRecDepth 100000 in
theorem sign_12 (h : LX b s ds cv op w) (q0 : (pk ds 0 == 123) = false) (q1 : (pk ds 0 == 125) = false) (q2 : (pk ds 0 == 91) = false) (q3 : (pk ds 0 == 93) = false) (q4 : (pk ds 0 == 40) = false) (q5 : (pk ds 0 == 41) = false) (q6 : (pk ds 0 == 58) = false) (q7 : (pk ds 0 == 59) = false) (q8 : (pk ds 0 == 44) = false) (q9 : (pk ds 0 == 38) = false) (q10 : (pk ds 0 == 42) = false) (q11 : (pk ds 0 == 124) = false) (q12 : (pk ds 0 == 94) = true) : Calls Tryz.prog 71 #[.pointer (some ⟨b, 0, none⟩)] w (SgR b s ds cv op w) := by
  have HF : Hid (signKind (pk ds 0) = 15) := by
    have h0 : pk ds 0 = 94 := by simpa using q12
    show _ = _; rw [h0]; decide
  have HL := Lib.hid h
  have hlt := h.lt
  clear h
  rename World => w0
  have hto0 : To b s ds cv op (w0.alloc (.cells #[.int .i64 0, .int .i64 0, .int .i64 0, .int .i64 0, .bool false, .string ⟨#[]⟩] 62)) (w0.alloc (.cells #[.int .i64 0, .int .i64 0, .int .i64 0, .int .i64 0, .bool false, .string ⟨#[]⟩] 62)) := To.start HL.out _
  go_enter Tryz.func71, Tryz.ntmps71
  go_wp2_with fail
  refine (takeT (by assumption)).mono ?_
  rintro e w1 ⟨rfl, hto⟩
  clear hto0
  have hres := hto.res hlt
  have r0 := cell_blk hres 0
  have r1 := cell_blk hres 1
  have r2 := cell_blk hres 2
  have r3 := cell_blk hres 3
  have r4 := cell_blk hres 4
  have r5 := cell_blk hres 5
  have g0 := frozen_blk hres 0
  have g1 := frozen_blk hres 1
  have g2 := frozen_blk hres 2
  have g3 := frozen_blk hres 3
  have g4 := frozen_blk hres 4
  have g5 := frozen_blk hres 5
  clear hres
  go_wp2_with fail
  refine bodyPost_ret (v := tkV 15 0 false []) (by simp [results, Tryz.results71, go_sem, tkV, bsOf, r0, r1, r2, r3, r4, r5]) rfl ?_
  exact ⟨by rw [HF.out], hto.store6 hlt _ _ _ _ _ _⟩
set_option maxHeartbeats 1600000 in
set_option maxRecDepth 100000 in
theorem sign_13 (h : LX b s ds cv op w) (q0 : (pk ds 0 == 123) = false) (q1 : (pk ds 0 == 125) = false) (q2 : (pk ds 0 == 91) = false) (q3 : (pk ds 0 == 93) = false) (q4 : (pk ds 0 == 40) = false) (q5 : (pk ds 0 == 41) = false) (q6 : (pk ds 0 == 58) = false) (q7 : (pk ds 0 == 59) = false) (q8 : (pk ds 0 == 44) = false) (q9 : (pk ds 0 == 38) = false) (q10 : (pk ds 0 == 42) = false) (q11 : (pk ds 0 == 124) = false) (q12 : (pk ds 0 == 94) = false) (q13 : (pk ds 0 == 36) = true) : Calls Tryz.prog 71 #[.pointer (some ⟨b, 0, none⟩)] w (SgR b s ds cv op w) := by
  have HF : Hid (signKind (pk ds 0) = 16) := by
    have h0 : pk ds 0 = 36 := by simpa using q13
    show _ = _; rw [h0]; decide
  have HL := Lib.hid h
  have hlt := h.lt
  clear h
  rename World => w0
  have hto0 : To b s ds cv op (w0.alloc (.cells #[.int .i64 0, .int .i64 0, .int .i64 0, .int .i64 0, .bool false, .string ⟨#[]⟩] 62)) (w0.alloc (.cells #[.int .i64 0, .int .i64 0, .int .i64 0, .int .i64 0, .bool false, .string ⟨#[]⟩] 62)) := To.start HL.out _
  go_enter Tryz.func71, Tryz.ntmps71
  go_wp2_with fail
  refine (takeT (by assumption)).mono ?_
  rintro e w1 ⟨rfl, hto⟩
  clear hto0
  have hres := hto.res hlt
  have r0 := cell_blk hres 0
  have r1 := cell_blk hres 1
  have r2 := cell_blk hres 2
  have r3 := cell_blk hres 3
  have r4 := cell_blk hres 4
  have r5 := cell_blk hres 5
  have g0 := frozen_blk hres 0
  have g1 := frozen_blk hres 1
  have g2 := frozen_blk hres 2
  have g3 := frozen_blk hres 3
  have g4 := frozen_blk hres 4
  have g5 := frozen_blk hres 5
  clear hres
  go_wp2_with fail
  refine bodyPost_ret (v := tkV 16 0 false []) (by simp [results, Tryz.results71, go_sem, tkV, bsOf, r0, r1, r2, r3, r4, r5]) rfl ?_
  exact ⟨by rw [HF.out], hto.store6 hlt _ _ _ _ _ _⟩
set_option maxHeartbeats 1600000 in
set_option maxRecDepth 100000 in
theorem sign_14 (h : LX b s ds cv op w) (q0 : (pk ds 0 == 123) = false) (q1 : (pk ds 0 == 125) = false) (q2 : (pk ds 0 == 91) = false) (q3 : (pk ds 0 == 93) = false) (q4 : (pk ds 0 == 40) = false) (q5 : (pk ds 0 == 41) = false) (q6 : (pk ds 0 == 58) = false) (q7 : (pk ds 0 == 59) = false) (q8 : (pk ds 0 == 44) = false) (q9 : (pk ds 0 == 38) = false) (q10 : (pk ds 0 == 42) = false) (q11 : (pk ds 0 == 124) = false) (q12 : (pk ds 0 == 94) = false) (q13 : (pk ds 0 == 36) = false) (q14 : (pk ds 0 == 46) = true) : Calls Tryz.prog 71 #[.pointer (some ⟨b, 0, none⟩)] w (SgR b s ds cv op w) := by
  have HF : Hid (signKind (pk ds 0) = 17) := by
    have h0 : pk ds 0 = 46 := by simpa using q14
    show _ = _; rw [h0]; decide
  have HL := Lib.hid h
  have hlt := h.lt
  clear h
  rename World => w0
  have hto0 : To b s ds cv op (w0.alloc (.cells #[.int .i64 0, .int .i64 0, .int .i64 0, .int .i64 0, .bool false, .string ⟨#[]⟩] 62)) (w0.alloc (.cells #[.int .i64 0, .int .i64 0, .int .i64 0, .int .i64 0, .bool false, .string ⟨#[]⟩] 62)) := To.start HL.out _
  go_enter Tryz.func71, Tryz.ntmps71
  go_wp2_with fail
  refine (takeT (by assumption)).mono ?_
  rintro e w1 ⟨rfl, hto⟩
  clear hto0
  have hres := hto.res hlt
  have r0 := cell_blk hres 0
  have r1 := cell_blk hres 1
  have r2 := cell_blk hres 2
  have r3 := cell_blk hres 3
  have r4 := cell_blk hres 4
  have r5 := cell_blk hres 5
  have g0 := frozen_blk hres 0
  have g1 := frozen_blk hres 1
  have g2 := frozen_blk hres 2
  have g3 := frozen_blk hres 3
  have g4 := frozen_blk hres 4
  have g5 := frozen_blk hres 5
  clear hres
  go_wp2_with fail
  refine bodyPost_ret (v := tkV 17 0 false []) (by simp [results, Tryz.results71, go_sem, tkV, bsOf, r0, r1, r2, r3, r4, r5]) rfl ?_
  exact ⟨by rw [HF.out], hto.store6 hlt _ _ _ _ _ _⟩
set_option maxHeartbeats 1600000 in
set_option maxRecDepth 100000 in
theorem sign_15 (h : LX b s ds cv op w) (q0 : (pk ds 0 == 123) = false) (q1 : (pk ds 0 == 125) = false) (q2 : (pk ds 0 == 91) = false) (q3 : (pk ds 0 == 93) = false) (q4 : (pk ds 0 == 40) = false) (q5 : (pk ds 0 == 41) = false) (q6 : (pk ds 0 == 58) = false) (q7 : (pk ds 0 == 59) = false) (q8 : (pk ds 0 == 44) = false) (q9 : (pk ds 0 == 38) = false) (q10 : (pk ds 0 == 42) = false) (q11 : (pk ds 0 == 124) = false) (q12 : (pk ds 0 == 94) = false) (q13 : (pk ds 0 == 36) = false) (q14 : (pk ds 0 == 46) = false) (q15 : (pk ds 0 == 61) = true) : Calls Tryz.prog 71 #[.pointer (some ⟨b, 0, none⟩)] w (SgR b s ds cv op w) := by
  have HF : Hid (signKind (pk ds 0) = 18) := by
    have h0 : pk ds 0 = 61 := by simpa using q15
    show _ = _; rw [h0]; decide
  have HL := Lib.hid h
  have hlt := h.lt
  clear h
  rename World => w0
  have hto0 : To b s ds cv op (w0.alloc (.cells #[.int .i64 0, .int .i64 0, .int .i64 0, .int .i64 0, .bool false, .string ⟨#[]⟩] 62)) (w0.alloc (.cells #[.int .i64 0, .int .i64 0, .int .i64 0, .int .i64 0, .bool false, .string ⟨#[]⟩] 62)) := To.start HL.out _
  go_enter Tryz.func71, Tryz.ntmps71
  go_wp2_with fail
  refine (takeT (by assumption)).mono ?_
  rintro e w1 ⟨rfl, hto⟩
  clear hto0
  have hres := hto.res hlt
  have r0 := cell_blk hres 0
  have r1 := cell_blk hres 1
  have r2 := cell_blk hres 2
  have r3 := cell_blk hres 3
  have r4 := cell_blk hres 4
  have r5 := cell_blk hres 5
  have g0 := frozen_blk hres 0
  have g1 := frozen_blk hres 1
  have g2 := frozen_blk hres 2
  have g3 := frozen_blk hres 3
  have g4 := frozen_blk hres 4
  have g5 := frozen_blk hres 5
  clear hres
  go_wp2_with fail
  refine bodyPost_ret (v := tkV 18 0 false []) (by simp [results, Tryz.results71, go_sem, tkV, bsOf, r0, r1, r2, r3, r4, r5]) rfl ?_
  exact ⟨by rw [HF.out], hto.store6 hlt _ _ _ _ _ _⟩
set_option maxHeartbeats 1600000 in
set_option maxRecDepth 100000 in
theorem sign_16 (h : LX b s ds cv op w) (q0 : (pk ds 0 == 123) = false) (q1 : (pk ds 0 == 125) = false) (q2 : (pk ds 0 == 91) = false) (q3 : (pk ds 0 == 93) = false) (q4 : (pk ds 0 == 40) = false) (q5 : (pk ds 0 == 41) = false) (q6 : (pk ds 0 == 58) = false) (q7 : (pk ds 0 == 59) = false) (q8 : (pk ds 0 == 44) = false) (q9 : (pk ds 0 == 38) = false) (q10 : (pk ds 0 == 42) = false) (q11 : (pk ds 0 == 124) = false) (q12 : (pk ds 0 == 94) = false) (q13 : (pk ds 0 == 36) = false) (q14 : (pk ds 0 == 46) = false) (q15 : (pk ds 0 == 61) = false) (q16 : (pk ds 0 == 33) = true) : Calls Tryz.prog 71 #[.pointer (some ⟨b, 0, none⟩)] w (SgR b s ds cv op w) := by
  have HF : Hid (signKind (pk ds 0) = 19) := by
    have h0 : pk ds 0 = 33 := by simpa using q16
    show _ = _; rw [h0]; decide
  have HL := Lib.hid h
  have hlt := h.lt
  clear h
  rename World => w0
  have hto0 : To b s ds cv op (w0.alloc (.cells #[.int .i64 0, .int .i64 0, .int .i64 0, .int .i64 0, .bool false, .string ⟨#[]⟩] 62)) (w0.alloc (.cells #[.int .i64 0, .int .i64 0, .int .i64 0, .int .i64 0, .bool false, .string ⟨#[]⟩] 62)) := To.start HL.out _
  go_enter Tryz.func71, Tryz.ntmps71
  go_wp2_with fail
  refine (takeT (by assumption)).mono ?_
  rintro e w1 ⟨rfl, hto⟩
  clear hto0
  have hres := hto.res hlt
  have r0 := cell_blk hres 0
  have r1 := cell_blk hres 1
  have r2 := cell_blk hres 2
  have r3 := cell_blk hres 3
  have r4 := cell_blk hres 4
  have r5 := cell_blk hres 5
  have g0 := frozen_blk hres 0
  have g1 := frozen_blk hres 1
  have g2 := frozen_blk hres 2
  have g3 := frozen_blk hres 3
  have g4 := frozen_blk hres 4
  have g5 := frozen_blk hres 5
  clear hres
  go_wp2_with fail
  refine bodyPost_ret (v := tkV 19 0 false []) (by simp [results, Tryz.results71, go_sem, tkV, bsOf, r0, r1, r2, r3, r4, r5]) rfl ?_
  exact ⟨by rw [HF.out], hto.store6 hlt _ _ _ _ _ _⟩
set_option maxHeartbeats 1600000 in
set_option maxRecDepth 100000 in
theorem sign_17 (h : LX b s ds cv op w) (q0 : (pk ds 0 == 123) = false) (q1 : (pk ds 0 == 125) = false) (q2 : (pk ds 0 == 91) = false) (q3 : (pk ds 0 == 93) = false) (q4 : (pk ds 0 == 40) = false) (q5 : (pk ds 0 == 41) = false) (q6 : (pk ds 0 == 58) = false) (q7 : (pk ds 0 == 59) = false) (q8 : (pk ds 0 == 44) = false) (q9 : (pk ds 0 == 38) = false) (q10 : (pk ds 0 == 42) = false) (q11 : (pk ds 0 == 124) = false) (q12 : (pk ds 0 == 94) = false) (q13 : (pk ds 0 == 36) = false) (q14 : (pk ds 0 == 46) = false) (q15 : (pk ds 0 == 61) = false) (q16 : (pk ds 0 == 33) = false) (q17 : (pk ds 0 == 62) = true) : Calls Tryz.prog 71 #[.pointer (some ⟨b, 0, none⟩)] w (SgR b s ds cv op w) := by
  have HF : Hid (signKind (pk ds 0) = 20) := by
    have h0 : pk ds 0 = 62 := by simpa using q17
    show _ = _; rw [h0]; decide
  have HL := Lib.hid h
  have hlt := h.lt
  clear h
  rename World => w0
  have hto0 : To b s ds cv op (w0.alloc (.cells #[.int .i64 0, .int .i64 0, .int .i64 0, .int .i64 0, .bool false, .string ⟨#[]⟩] 62)) (w0.alloc (.cells #[.int .i64 0, .int .i64 0, .int .i64 0, .int .i64 0, .bool false, .string ⟨#[]⟩] 62)) := To.start HL.out _
  go_enter Tryz.func71, Tryz.ntmps71
  go_wp2_with fail
  refine (takeT (by assumption)).mono ?_
  rintro e w1 ⟨rfl, hto⟩
  clear hto0
  have hres := hto.res hlt
  have r0 := cell_blk hres 0
  have r1 := cell_blk hres 1
  have r2 := cell_blk hres 2
  have r3 := cell_blk hres 3
  have r4 := cell_blk hres 4
  have r5 := cell_blk hres 5
  have g0 := frozen_blk hres 0
  have g1 := frozen_blk hres 1
  have g2 := frozen_blk hres 2
  have g3 := frozen_blk hres 3
  have g4 := frozen_blk hres 4
  have g5 := frozen_blk hres 5
  clear hres
  go_wp2_with fail
  refine bodyPost_ret (v := tkV 20 0 false []) (by simp [results, Tryz.results71, go_sem, tkV, bsOf, r0, r1, r2, r3, r4, r5]) rfl ?_
  exact ⟨by rw [HF.out], hto.store6 hlt _ _ _ _ _ _⟩
set_option maxHeartbeats 1600000 in
set_option maxRecDepth 100000 in
theorem sign_18 (h : LX b s ds cv op w) (q0 : (pk ds 0 == 123) = false) (q1 : (pk ds 0 == 125) = false) (q2 : (pk ds 0 == 91) = false) (q3 : (pk ds 0 == 93) = false) (q4 : (pk ds 0 == 40) = false) (q5 : (pk ds 0 == 41) = false) (q6 : (pk ds 0 == 58) = false) (q7 : (pk ds 0 == 59) = false) (q8 : (pk ds 0 == 44) = false) (q9 : (pk ds 0 == 38) = false) (q10 : (pk ds 0 == 42) = false) (q11 : (pk ds 0 == 124) = false) (q12 : (pk ds 0 == 94) = false) (q13 : (pk ds 0 == 36) = false) (q14 : (pk ds 0 == 46) = false) (q15 : (pk ds 0 == 61) = false) (q16 : (pk ds 0 == 33) = false) (q17 : (pk ds 0 == 62) = false) (q18 : (pk ds 0 == 60) = true) : Calls Tryz.prog 71 #[.pointer (some ⟨b, 0, none⟩)] w (SgR b s ds cv op w) := by
  have HF : Hid (signKind (pk ds 0) = 21) := by
    have h0 : pk ds 0 = 60 := by simpa using q18
    show _ = _; rw [h0]; decide
  have HL := Lib.hid h
  have hlt := h.lt
  clear h
  rename World => w0
  have hto0 : To b s ds cv op (w0.alloc (.cells #[.int .i64 0, .int .i64 0, .int .i64 0, .int .i64 0, .bool false, .string ⟨#[]⟩] 62)) (w0.alloc (.cells #[.int .i64 0, .int .i64 0, .int .i64 0, .int .i64 0, .bool false, .string ⟨#[]⟩] 62)) := To.start HL.out _
  go_enter Tryz.func71, Tryz.ntmps71
  go_wp2_with fail
  refine (takeT (by assumption)).mono ?_
  rintro e w1 ⟨rfl, hto⟩
  clear hto0
  have hres := hto.res hlt
  have r0 := cell_blk hres 0
  have r1 := cell_blk hres 1
  have r2 := cell_blk hres 2
  have r3 := cell_blk hres 3
  have r4 := cell_blk hres 4
  have r5 := cell_blk hres 5
  have g0 := frozen_blk hres 0
  have g1 := frozen_blk hres 1
  have g2 := frozen_blk hres 2
  have g3 := frozen_blk hres 3
  have g4 := frozen_blk hres 4
  have g5 := frozen_blk hres 5
  clear hres
  go_wp2_with fail
  refine bodyPost_ret (v := tkV 21 0 false []) (by simp [results, Tryz.results71, go_sem, tkV, bsOf, r0, r1, r2, r3, r4, r5]) rfl ?_
  exact ⟨by rw [HF.out], hto.store6 hlt _ _ _ _ _ _⟩
set_option maxHeartbeats 1600000 in
set_option maxRecDepth 100000 in
theorem sign_19 (h : LX b s ds cv op w) (q0 : (pk ds 0 == 123) = false) (q1 : (pk ds 0 == 125) = false) (q2 : (pk ds 0 == 91) = false) (q3 : (pk ds 0 == 93) = false) (q4 : (pk ds 0 == 40) = false) (q5 : (pk ds 0 == 41) = false) (q6 : (pk ds 0 == 58) = false) (q7 : (pk ds 0 == 59) = false) (q8 : (pk ds 0 == 44) = false) (q9 : (pk ds 0 == 38) = false) (q10 : (pk ds 0 == 42) = false) (q11 : (pk ds 0 == 124) = false) (q12 : (pk ds 0 == 94) = false) (q13 : (pk ds 0 == 36) = false) (q14 : (pk ds 0 == 46) = false) (q15 : (pk ds 0 == 61) = false) (q16 : (pk ds 0 == 33) = false) (q17 : (pk ds 0 == 62) = false) (q18 : (pk ds 0 == 60) = false) (q19 : (pk ds 0 == 45) = true) : Calls Tryz.prog 71 #[.pointer (some ⟨b, 0, none⟩)] w (SgR b s ds cv op w) := by
  have HF : Hid (signKind (pk ds 0) = 22) := by
    have h0 : pk ds 0 = 45 := by simpa using q19
    show _ = _; rw [h0]; decide
  have HL := Lib.hid h
  have hlt := h.lt
  clear h
  rename World => w0
  have hto0 : To b s ds cv op (w0.alloc (.cells #[.int .i64 0, .int .i64 0, .int .i64 0, .int .i64 0, .bool false, .string ⟨#[]⟩] 62)) (w0.alloc (.cells #[.int .i64 0, .int .i64 0, .int .i64 0, .int .i64 0, .bool false, .string ⟨#[]⟩] 62)) := To.start HL.out _
  go_enter Tryz.func71, Tryz.ntmps71
  go_wp2_with fail
  refine (takeT (by assumption)).mono ?_
  rintro e w1 ⟨rfl, hto⟩
  clear hto0
  have hres := hto.res hlt
  have r0 := cell_blk hres 0
  have r1 := cell_blk hres 1
  have r2 := cell_blk hres 2
  have r3 := cell_blk hres 3
  have r4 := cell_blk hres 4
  have r5 := cell_blk hres 5
  have g0 := frozen_blk hres 0
  have g1 := frozen_blk hres 1
  have g2 := frozen_blk hres 2
  have g3 := frozen_blk hres 3
  have g4 := frozen_blk hres 4
  have g5 := frozen_blk hres 5
  clear hres
  go_wp2_with fail
  refine bodyPost_ret (v := tkV 22 0 false []) (by simp [results, Tryz.results71, go_sem, tkV, bsOf, r0, r1, r2, r3, r4, r5]) rfl ?_
  exact ⟨by rw [HF.out], hto.store6 hlt _ _ _ _ _ _⟩
set_option maxHeartbeats 1600000 in
set_option maxRecDepth 100000 in
theorem sign_20 (h : LX b s ds cv op w) (q0 : (pk ds 0 == 123) = false) (q1 : (pk ds 0 == 125) = false) (q2 : (pk ds 0 == 91) = false) (q3 : (pk ds 0 == 93) = false) (q4 : (pk ds 0 == 40) = false) (q5 : (pk ds 0 == 41) = false) (q6 : (pk ds 0 == 58) = false) (q7 : (pk ds 0 == 59) = false) (q8 : (pk ds 0 == 44) = false) (q9 : (pk ds 0 == 38) = false) (q10 : (pk ds 0 == 42) = false) (q11 : (pk ds 0 == 124) = false) (q12 : (pk ds 0 == 94) = false) (q13 : (pk ds 0 == 36) = false) (q14 : (pk ds 0 == 46) = false) (q15 : (pk ds 0 == 61) = false) (q16 : (pk ds 0 == 33) = false) (q17 : (pk ds 0 == 62) = false) (q18 : (pk ds 0 == 60) = false) (q19 : (pk ds 0 == 45) = false) (q20 : (pk ds 0 == 43) = true) : Calls Tryz.prog 71 #[.pointer (some ⟨b, 0, none⟩)] w (SgR b s ds cv op w) := by
  have HF : Hid (signKind (pk ds 0) = 23) := by
    have h0 : pk ds 0 = 43 := by simpa using q20
    show _ = _; rw [h0]; decide
  have HL := Lib.hid h
  have hlt := h.lt
  clear h
  rename World => w0
  have hto0 : To b s ds cv op (w0.alloc (.cells #[.int .i64 0, .int .i64 0, .int .i64 0, .int .i64 0, .bool false, .string ⟨#[]⟩] 62)) (w0.alloc (.cells #[.int .i64 0, .int .i64 0, .int .i64 0, .int .i64 0, .bool false, .string ⟨#[]⟩] 62)) := To.start HL.out _
  go_enter Tryz.func71, Tryz.ntmps71
  go_wp2_with fail
  refine (takeT (by assumption)).mono ?_
  rintro e w1 ⟨rfl, hto⟩
  clear hto0
  have hres := hto.res hlt
  have r0 := cell_blk hres 0
  have r1 := cell_blk hres 1
  have r2 := cell_blk hres 2
  have r3 := cell_blk hres 3
  have r4 := cell_blk hres 4
  have r5 := cell_blk hres 5
  have g0 := frozen_blk hres 0
  have g1 := frozen_blk hres 1
  have g2 := frozen_blk hres 2
  have g3 := frozen_blk hres 3
  have g4 := frozen_blk hres 4
  have g5 := frozen_blk hres 5
  clear hres
  go_wp2_with fail
  refine bodyPost_ret (v := tkV 23 0 false []) (by simp [results, Tryz.results71, go_sem, tkV, bsOf, r0, r1, r2, r3, r4, r5]) rfl ?_
  exact ⟨by rw [HF.out], hto.store6 hlt _ _ _ _ _ _⟩
set_option maxHeartbeats 1600000 in
set_option maxRecDepth 100000 in
theorem sign_21 (h : LX b s ds cv op w) (q0 : (pk ds 0 == 123) = false) (q1 : (pk ds 0 == 125) = false) (q2 : (pk ds 0 == 91) = false) (q3 : (pk ds 0 == 93) = false) (q4 : (pk ds 0 == 40) = false) (q5 : (pk ds 0 == 41) = false) (q6 : (pk ds 0 == 58) = false) (q7 : (pk ds 0 == 59) = false) (q8 : (pk ds 0 == 44) = false) (q9 : (pk ds 0 == 38) = false) (q10 : (pk ds 0 == 42) = false) (q11 : (pk ds 0 == 124) = false) (q12 : (pk ds 0 == 94) = false) (q13 : (pk ds 0 == 36) = false) (q14 : (pk ds 0 == 46) = false) (q15 : (pk ds 0 == 61) = false) (q16 : (pk ds 0 == 33) = false) (q17 : (pk ds 0 == 62) = false) (q18 : (pk ds 0 == 60) = false) (q19 : (pk ds 0 == 45) = false) (q20 : (pk ds 0 == 43) = false) (q21 : (pk ds 0 == 47) = true) : Calls Tryz.prog 71 #[.pointer (some ⟨b, 0, none⟩)] w (SgR b s ds cv op w) := by
  have HF : Hid (signKind (pk ds 0) = 24) := by
    have h0 : pk ds 0 = 47 := by simpa using q21
    show _ = _; rw [h0]; decide
  have HL := Lib.hid h
  have hlt := h.lt
  clear h
  rename World => w0
  have hto0 : To b s ds cv op (w0.alloc (.cells #[.int .i64 0, .int .i64 0, .int .i64 0, .int .i64 0, .bool false, .string ⟨#[]⟩] 62)) (w0.alloc (.cells #[.int .i64 0, .int .i64 0, .int .i64 0, .int .i64 0, .bool false, .string ⟨#[]⟩] 62)) := To.start HL.out _
  go_enter Tryz.func71, Tryz.ntmps71
  go_wp2_with fail
  refine (takeT (by assumption)).mono ?_
  rintro e w1 ⟨rfl, hto⟩
  clear hto0
  have hres := hto.res hlt
  have r0 := cell_blk hres 0
  have r1 := cell_blk hres 1
  have r2 := cell_blk hres 2
  have r3 := cell_blk hres 3
  have r4 := cell_blk hres 4
  have r5 := cell_blk hres 5
  have g0 := frozen_blk hres 0
  have g1 := frozen_blk hres 1
  have g2 := frozen_blk hres 2
  have g3 := frozen_blk hres 3
  have g4 := frozen_blk hres 4
  have g5 := frozen_blk hres 5
  clear hres
  go_wp2_with fail
  refine bodyPost_ret (v := tkV 24 0 false []) (by simp [results, Tryz.results71, go_sem, tkV, bsOf, r0, r1, r2, r3, r4, r5]) rfl ?_
  exact ⟨by rw [HF.out], hto.store6 hlt _ _ _ _ _ _⟩
set_option maxHeartbeats 1600000 in
set_option maxRecDepth 100000 in
theorem sign_22 (h : LX b s ds cv op w) (q0 : (pk ds 0 == 123) = false) (q1 : (pk ds 0 == 125) = false) (q2 : (pk ds 0 == 91) = false) (q3 : (pk ds 0 == 93) = false) (q4 : (pk ds 0 == 40) = false) (q5 : (pk ds 0 == 41) = false) (q6 : (pk ds 0 == 58) = false) (q7 : (pk ds 0 == 59) = false) (q8 : (pk ds 0 == 44) = false) (q9 : (pk ds 0 == 38) = false) (q10 : (pk ds 0 == 42) = false) (q11 : (pk ds 0 == 124) = false) (q12 : (pk ds 0 == 94) = false) (q13 : (pk ds 0 == 36) = false) (q14 : (pk ds 0 == 46) = false) (q15 : (pk ds 0 == 61) = false) (q16 : (pk ds 0 == 33) = false) (q17 : (pk ds 0 == 62) = false) (q18 : (pk ds 0 == 60) = false) (q19 : (pk ds 0 == 45) = false) (q20 : (pk ds 0 == 43) = false) (q21 : (pk ds 0 == 47) = false) (q22 : (pk ds 0 == 126) = true) : Calls Tryz.prog 71 #[.pointer (some ⟨b, 0, none⟩)] w (SgR b s ds cv op w) := by
  have HF : Hid (signKind (pk ds 0) = 25) := by
    have h0 : pk ds 0 = 126 := by simpa using q22
    show _ = _; rw [h0]; decide
  have HL := Lib.hid h
  have hlt := h.lt
  clear h
  rename World => w0
  have hto0 : To b s ds cv op (w0.alloc (.cells #[.int .i64 0, .int .i64 0, .int .i64 0, .int .i64 0, .bool false, .string ⟨#[]⟩] 62)) (w0.alloc (.cells #[.int .i64 0, .int .i64 0, .int .i64 0, .int .i64 0, .bool false, .string ⟨#[]⟩] 62)) := To.start HL.out _
  go_enter Tryz.func71, Tryz.ntmps71
  go_wp2_with fail
  refine (takeT (by assumption)).mono ?_
  rintro e w1 ⟨rfl, hto⟩
  clear hto0
  have hres := hto.res hlt
  have r0 := cell_blk hres 0
  have r1 := cell_blk hres 1
  have r2 := cell_blk hres 2
  have r3 := cell_blk hres 3
  have r4 := cell_blk hres 4
  have r5 := cell_blk hres 5
  have g0 := frozen_blk hres 0
  have g1 := frozen_blk hres 1
  have g2 := frozen_blk hres 2
  have g3 := frozen_blk hres 3
  have g4 := frozen_blk hres 4
  have g5 := frozen_blk hres 5
  clear hres
  go_wp2_with fail
  refine bodyPost_ret (v := tkV 25 0 false []) (by simp [results, Tryz.results71, go_sem, tkV, bsOf, r0, r1, r2, r3, r4, r5]) rfl ?_
  exact ⟨by rw [HF.out], hto.store6 hlt _ _ _ _ _ _⟩
set_option maxHeartbeats 1600000 in
set_option maxRecDepth 100000 in
theorem sign_23 (h : LX b s ds cv op w) (q0 : (pk ds 0 == 123) = false) (q1 : (pk ds 0 == 125) = false) (q2 : (pk ds 0 == 91) = false) (q3 : (pk ds 0 == 93) = false) (q4 : (pk ds 0 == 40) = false) (q5 : (pk ds 0 == 41) = false) (q6 : (pk ds 0 == 58) = false) (q7 : (pk ds 0 == 59) = false) (q8 : (pk ds 0 == 44) = false) (q9 : (pk ds 0 == 38) = false) (q10 : (pk ds 0 == 42) = false) (q11 : (pk ds 0 == 124) = false) (q12 : (pk ds 0 == 94) = false) (q13 : (pk ds 0 == 36) = false) (q14 : (pk ds 0 == 46) = false) (q15 : (pk ds 0 == 61) = false) (q16 : (pk ds 0 == 33) = false) (q17 : (pk ds 0 == 62) = false) (q18 : (pk ds 0 == 60) = false) (q19 : (pk ds 0 == 45) = false) (q20 : (pk ds 0 == 43) = false) (q21 : (pk ds 0 == 47) = false) (q22 : (pk ds 0 == 126) = false) : Calls Tryz.prog 71 #[.pointer (some ⟨b, 0, none⟩)] w (SgR b s ds cv op w) := by
  have HF : Hid (signKind (pk ds 0) = 11) := signKind_other q0 q1 q2 q3 q4 q5 q6 q7 q8 q9 q10 q11 q12 q13 q14 q15 q16 q17 q18 q19 q20 q21 q22
  have HL := Lib.hid h
  have hlt := h.lt
  clear h
  rename World => w0
  have hto0 : To b s ds cv op (w0.alloc (.cells #[.int .i64 0, .int .i64 0, .int .i64 0, .int .i64 0, .bool false, .string ⟨#[]⟩] 62)) (w0.alloc (.cells #[.int .i64 0, .int .i64 0, .int .i64 0, .int .i64 0, .bool false, .string ⟨#[]⟩] 62)) := To.start HL.out _
  go_enter Tryz.func71, Tryz.ntmps71
  go_wp2_with fail
  refine (takeT (by assumption)).mono ?_
  rintro e w1 ⟨rfl, hto⟩
  clear hto0
  have hres := hto.res hlt
  have r0 := cell_blk hres 0
  have r1 := cell_blk hres 1
  have r2 := cell_blk hres 2
  have r3 := cell_blk hres 3
  have r4 := cell_blk hres 4
  have r5 := cell_blk hres 5
  have g0 := frozen_blk hres 0
  have g1 := frozen_blk hres 1
  have g2 := frozen_blk hres 2
  have g3 := frozen_blk hres 3
  have g4 := frozen_blk hres 4
  have g5 := frozen_blk hres 5
  clear hres
  go_wp2_with fail
  refine bodyPost_ret (v := tkV 11 0 false []) (by simp [results, Tryz.results71, go_sem, tkV, bsOf, r0, r1, r2, r3, r4, r5]) rfl ?_
  exact ⟨by rw [HF.out], hto.store6 hlt _ _ _ _ _ _⟩
theorem sign_any (h : LX b s ds cv op w) : Calls Tryz.prog 71 #[.pointer (some ⟨b, 0, none⟩)] w (SgR b s ds cv op w) := by
  by_cases q0 : (pk ds 0 == 123) = true
  · exact sign_0 h q0
  replace q0 : (pk ds 0 == 123) = false := by simpa using q0
  by_cases q1 : (pk ds 0 == 125) = true
  · exact sign_1 h q0 q1
  replace q1 : (pk ds 0 == 125) = false := by simpa using q1
  by_cases q2 : (pk ds 0 == 91) = true
  · exact sign_2 h q0 q1 q2
  replace q2 : (pk ds 0 == 91) = false := by simpa using q2
  by_cases q3 : (pk ds 0 == 93) = true
  · exact sign_3 h q0 q1 q2 q3
  replace q3 : (pk ds 0 == 93) = false := by simpa using q3
  by_cases q4 : (pk ds 0 == 40) = true
  · exact sign_4 h q0 q1 q2 q3 q4
  replace q4 : (pk ds 0 == 40) = false := by simpa using q4
  by_cases q5 : (pk ds 0 == 41) = true
  · exact sign_5 h q0 q1 q2 q3 q4 q5
  replace q5 : (pk ds 0 == 41) = false := by simpa using q5
  by_cases q6 : (pk ds 0 == 58) = true
  · exact sign_6 h q0 q1 q2 q3 q4 q5 q6
  replace q6 : (pk ds 0 == 58) = false := by simpa using q6
  by_cases q7 : (pk ds 0 == 59) = true
  · exact sign_7 h q0 q1 q2 q3 q4 q5 q6 q7
  replace q7 : (pk ds 0 == 59) = false := by simpa using q7
  by_cases q8 : (pk ds 0 == 44) = true
  · exact sign_8 h q0 q1 q2 q3 q4 q5 q6 q7 q8
  replace q8 : (pk ds 0 == 44) = false := by simpa using q8
  by_cases q9 : (pk ds 0 == 38) = true
  · exact sign_9 h q0 q1 q2 q3 q4 q5 q6 q7 q8 q9
  replace q9 : (pk ds 0 == 38) = false := by simpa using q9
  by_cases q10 : (pk ds 0 == 42) = true
  · exact sign_10 h q0 q1 q2 q3 q4 q5 q6 q7 q8 q9 q10
  replace q10 : (pk ds 0 == 42) = false := by simpa using q10
  by_cases q11 : (pk ds 0 == 124) = true
  · exact sign_11 h q0 q1 q2 q3 q4 q5 q6 q7 q8 q9 q10 q11
  replace q11 : (pk ds 0 == 124) = false := by simpa using q11
  by_cases q12 : (pk ds 0 == 94) = true
  · exact sign_12 h q0 q1 q2 q3 q4 q5 q6 q7 q8 q9 q10 q11 q12
  replace q12 : (pk ds 0 == 94) = false := by simpa using q12
  by_cases q13 : (pk ds 0 == 36) = true
  · exact sign_13 h q0 q1 q2 q3 q4 q5 q6 q7 q8 q9 q10 q11 q12 q13
  replace q13 : (pk ds 0 == 36) = false := by simpa using q13
  by_cases q14 : (pk ds 0 == 46) = true
  · exact sign_14 h q0 q1 q2 q3 q4 q5 q6 q7 q8 q9 q10 q11 q12 q13 q14
  replace q14 : (pk ds 0 == 46) = false := by simpa using q14
  by_cases q15 : (pk ds 0 == 61) = true
  · exact sign_15 h q0 q1 q2 q3 q4 q5 q6 q7 q8 q9 q10 q11 q12 q13 q14 q15
  replace q15 : (pk ds 0 == 61) = false := by simpa using q15
  by_cases q16 : (pk ds 0 == 33) = true
  · exact sign_16 h q0 q1 q2 q3 q4 q5 q6 q7 q8 q9 q10 q11 q12 q13 q14 q15 q16
  replace q16 : (pk ds 0 == 33) = false := by simpa using q16
  by_cases q17 : (pk ds 0 == 62) = true
  · exact sign_17 h q0 q1 q2 q3 q4 q5 q6 q7 q8 q9 q10 q11 q12 q13 q14 q15 q16 q17
  replace q17 : (pk ds 0 == 62) = false := by simpa using q17
  by_cases q18 : (pk ds 0 == 60) = true
  · exact sign_18 h q0 q1 q2 q3 q4 q5 q6 q7 q8 q9 q10 q11 q12 q13 q14 q15 q16 q17 q18
  replace q18 : (pk ds 0 == 60) = false := by simpa using q18
  by_cases q19 : (pk ds 0 == 45) = true
  · exact sign_19 h q0 q1 q2 q3 q4 q5 q6 q7 q8 q9 q10 q11 q12 q13 q14 q15 q16 q17 q18 q19
  replace q19 : (pk ds 0 == 45) = false := by simpa using q19
  by_cases q20 : (pk ds 0 == 43) = true
  · exact sign_20 h q0 q1 q2 q3 q4 q5 q6 q7 q8 q9 q10 q11 q12 q13 q14 q15 q16 q17 q18 q19 q20
  replace q20 : (pk ds 0 == 43) = false := by simpa using q20
  by_cases q21 : (pk ds 0 == 47) = true
  · exact sign_21 h q0 q1 q2 q3 q4 q5 q6 q7 q8 q9 q10 q11 q12 q13 q14 q15 q16 q17 q18 q19 q20 q21
  replace q21 : (pk ds 0 == 47) = false := by simpa using q21
  by_cases q22 : (pk ds 0 == 126) = true
  · exact sign_22 h q0 q1 q2 q3 q4 q5 q6 q7 q8 q9 q10 q11 q12 q13 q14 q15 q16 q17 q18 q19 q20 q21 q22
  replace q22 : (pk ds 0 == 126) = false := by simpa using q22
  exact sign_23 h q0 q1 q2 q3 q4 q5 q6 q7 q8 q9 q10 q11 q12 q13 q14 q15 q16 q17 q18 q19 q20 q21 q22
end
end Go.Proofs.YtkfdcbdlcipmfaaGreatFmt
