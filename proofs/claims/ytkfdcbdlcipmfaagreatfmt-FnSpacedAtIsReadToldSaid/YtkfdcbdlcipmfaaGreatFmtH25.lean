/- Walks: the reference's lexer: numbers. -/
import Derived.Test.YtkfdcbdlcipmfaaGreatFmtH24
set_option linter.unusedVariables false
set_option linter.unusedSimpArgs false
namespace Go.Proofs.YtkfdcbdlcipmfaaGreatFmt
open Go.RowKit Css
section
variable {b : Nat} {s : ByteArray} {ds : List Int} {cv : Value} {op : Bool} {w0 w : World}
theorem peekT0 (h : To b s ds cv op w0 w) : Calls Tryz.prog 59 #[.pointer (some ⟨b, 0, none⟩), .int .i64 0] w fun e w' => e = .returned (.int .i64 (pk ds 0)) ∧ w = w' := peek_z h.lx
theorem peekT1 (h : To b s ds cv op w0 w) : Calls Tryz.prog 59 #[.pointer (some ⟨b, 0, none⟩), .int .i64 1] w fun e w' => e = .returned (.int .i64 (pk ds 1)) ∧ w = w' := peek_1 h.lx
theorem peekT2 (h : To b s ds cv op w0 w) : Calls Tryz.prog 59 #[.pointer (some ⟨b, 0, none⟩), .int .i64 2] w fun e w' => e = .returned (.int .i64 (pk ds 2)) ∧ w = w' := peek_2 h.lx
theorem peekT3 (h : To b s ds cv op w0 w) : Calls Tryz.prog 59 #[.pointer (some ⟨b, 0, none⟩), .int .i64 3] w fun e w' => e = .returned (.int .i64 (pk ds 3)) ∧ w = w' := peek_3 h.lx
theorem takeT (h : To b s ds cv op w0 w) : Calls Tryz.prog 61 #[.pointer (some ⟨b, 0, none⟩)] w fun e w' => e = .returned (.int .i64 (pk ds 0)) ∧ To b s ds.tail cv op w0 w' :=
  (take_any h.lx).mono fun _ _ k => ⟨k.1, h.then k.2⟩
theorem newlineT (h : To b s ds cv op w0 w) : Calls Tryz.prog 93 #[.pointer (some ⟨b, 0, none⟩)] w fun e w' => e = .returned (.tuple #[]) ∧ To b s (newline ds) cv op w0 w' :=
  (newline_any h.lx).mono fun _ _ k => ⟨k.1, h.then k.2⟩
theorem digitsT (h : To b s ds cv op w0 w) : Calls Tryz.prog 94 #[.pointer (some ⟨b, 0, none⟩)] w fun e w' => e = .returned (.tuple #[]) ∧ To b s (digits ds) cv op w0 w' :=
  (digits_any h.lx).mono fun _ _ k => ⟨k.1, h.then k.2⟩
theorem spacesT (h : To b s ds cv op w0 w) : Calls Tryz.prog 65 #[.pointer (some ⟨b, 0, none⟩)] w fun e w' => e = .returned (.tuple #[]) ∧ To b s (spaces ds) cv op w0 w' :=
  (spaces_any h.lx).mono fun _ _ k => ⟨k.1, h.then k.2⟩
theorem escapeT (h : To b s ds cv op w0 w) : Calls Tryz.prog 63 #[.pointer (some ⟨b, 0, none⟩)] w fun e w' => e = .returned (.int .i64 (escape ds).1) ∧ To b s (escape ds).2.2 cv (op || (escape ds).2.1) w0 w' :=
  (escape_any h.lx).mono fun _ _ k => ⟨k.1, h.then k.2⟩
theorem nameT (h : To b s ds cv op w0 w) : Calls Tryz.prog 47 #[.pointer (some ⟨b, 0, none⟩)] w fun e w' => e = .returned (.string (bsOf (enc (name ds).1))) ∧ To b s (name ds).2.2 cv (op || (name ds).2.1) w0 w' :=
  (name_any h.lx).mono fun _ _ k => ⟨k.1, h.then k.2⟩
theorem encodedT (c : Int) (h : To b s ds cv op w0 w) (hc : Rng c) : Calls Tryz.prog 60 #[.int .i64 c] w fun e w' => e = .returned (.string (bsOf (enc1 c))) ∧ To b s ds cv op w0 w' :=
  (encoded_any c hc.1 hc.2 w).mono fun _ _ k => ⟨k.1, h.below k.2⟩
def zeroTk : Array Value := #[.int .i64 0, .int .i64 0, .int .i64 0, .int .i64 0, .bool false, .string ⟨#[]⟩]
def tkV (k u : Int) (id : Bool) (t : List UInt8) : Value := .agg #[.int .i64 k, .int .i64 0, .int .i64 0, .int .i64 u, .bool id, .string (bsOf t)]
theorem To.start (h : LX b s ds cv op w) (o : Obj) : To b s ds cv op (w.alloc o) (w.alloc o) := ⟨h.alloc o, Lk.refl _ _⟩
theorem To.res {o : Obj} (h : To b s ds cv op (w0.alloc o) w) (hb : b < w0.heap.size) : w.heap[w0.heap.size]? = some o := by
  rw [h.lk.block _ (by simp) (by omega)]; exact heap_alloc_new w0 o
theorem To.setNew (h : To b s ds cv op w0 w) (hb : b < w0.heap.size) {p : Addr} (hp : w0.heap.size ≤ p.block) (u : Value) : To b s ds cv op w0 (w.setCell p u) :=
  ⟨h.lx.same (Below.heap_setCell _ _ _ _ (by omega)), h.lk.os, h.lk.tape, h.lk.output, by have := h.lk.size; simpa [World.setCell] using this, fun i hi hb' => (Below.heap_setCell _ _ _ _ (by omega)).trans (h.lk.block i hi hb')⟩
theorem To.back {o : Obj} (h : To b s ds cv op (w0.alloc o) w) : To b s ds cv op w0 w := ⟨h.lx, (Lk.of_below ((Below.refl _ _).alloc (Nat.le_refl _) o)).trans h.lk⟩
theorem To.store6 {o : Obj} (h : To b s ds cv op (w0.alloc o) w) (hb : b < w0.heap.size) (u0 u1 u2 u3 u4 u5 : Value) :
    To b s ds cv op w0 ((((((w.setCell ⟨w0.heap.size, 0, none⟩ u0).setCell ⟨w0.heap.size, 1, none⟩ u1).setCell ⟨w0.heap.size, 2, none⟩ u2).setCell ⟨w0.heap.size, 3, none⟩ u3).setCell ⟨w0.heap.size, 4, none⟩ u4).setCell ⟨w0.heap.size, 5, none⟩ u5) :=
  (((((h.back.setNew hb (Nat.le_refl _) u0).setNew hb (Nat.le_refl _) u1).setNew hb (Nat.le_refl _) u2).setNew hb (Nat.le_refl _) u3).setNew hb (Nat.le_refl _) u4).setNew hb (Nat.le_refl _) u5
end
theorem digits_split (ds : List Int) : ∃ X, ds = X ++ digits ds ∧ ∀ c ∈ X, c < 128 := by
  induction ds with
  | nil => exact ⟨[], rfl, by simp⟩
  | cons c t ih =>
    by_cases h : isDg c
    · obtain ⟨X, h1, h2⟩ := ih
      have e : digits (c :: t) = digits t := by rw [digits, if_pos h]
      refine ⟨c :: X, by rw [e, List.cons_append, ← h1], ?_⟩
      intro d hd
      simp at hd
      rcases hd with rfl | hd
      · unfold isDg at h; omega
      · exact h2 d hd
    · exact ⟨[], by rw [digits, if_neg h]; rfl, by simp⟩
theorem tail_split {ds : List Int} (h : pk ds 0 < 128) : ∃ X, ds = X ++ ds.tail ∧ ∀ c ∈ X, c < 128 := by
  cases ds with
  | nil => exact ⟨[], rfl, by simp⟩
  | cons c t => exact ⟨[c], rfl, by simpa using h⟩
theorem split_trans {a b c : List Int} (h1 : ∃ X, a = X ++ b ∧ ∀ c ∈ X, c < 128) (h2 : ∃ X, b = X ++ c ∧ ∀ c ∈ X, c < 128) : ∃ X, a = X ++ c ∧ ∀ c ∈ X, c < 128 := by
  obtain ⟨X, e1, k1⟩ := h1
  obtain ⟨Y, e2, k2⟩ := h2
  refine ⟨X ++ Y, by rw [e1, e2, List.append_assoc], ?_⟩
  intro d hd
  rw [List.mem_append] at hd
  rcases hd with hd | hd
  · exact k1 d hd
  · exact k2 d hd
theorem split_refl (a : List Int) : ∃ X, a = X ++ a ∧ ∀ c ∈ X, c < 128 := ⟨[], rfl, by simp⟩
theorem numEnd_split (ds : List Int) : ∃ X, ds = X ++ (numEnd ds).2 ∧ ∀ c ∈ X, c < 128 := by
  unfold numEnd
  simp only []
  have hS : ∃ X, ds = X ++ numSign ds ∧ ∀ c ∈ X, c < 128 := by
    unfold numSign; split
    · exact tail_split (by omega)
    · exact split_refl _
  refine split_trans hS (split_trans (digits_split _) (split_trans (b := numDot (digits (numSign ds))) ?_ ?_))
  · unfold numDot; split
    · exact split_trans (tail_split (by omega)) (digits_split _)
    · exact split_refl _
  · generalize numDot (digits (numSign ds)) = d2
    unfold numExp; split
    · rename_i hp
      refine split_trans (tail_split (by omega)) (split_trans (tail_split ?_) (digits_split _))
      rw [pk_tail]
      show pk d2 1 < 128
      rcases hp.2 with h | ⟨h, _⟩
      · unfold isDg at h; omega
      · omega
    · exact split_refl _
theorem bw_ascii {X : List Int} (h : ∀ c ∈ X, c < 128) : bw X = X.length := by rw [bw_enc, enc_ascii_len h]
theorem pos_split {s : ByteArray} {ds r : List Int} (hs : Suf s ds) (h : ∃ X, ds = X ++ r ∧ ∀ c ∈ X, c < 128) : (pos s r : Int) - pos s ds = ((ds.length - r.length : Nat) : Int) := by
  obtain ⟨X, e, hx⟩ := h
  have hb := hs.bw_le
  have hb2 := bw_ascii hx
  subst e
  rw [bw_append] at hb
  unfold pos
  rw [bw_append, List.length_append]
  omega
section
variable {b : Nat} {s : ByteArray} {ds : List Int} {cv : Value} {op : Bool} {w : World}
def TkR (k u : Int) (id : Bool) (t : List UInt8) (b : Nat) (s : ByteArray) (r : List Int) (cv : Value) (op : Bool) (w : World) (e : Ending) (w' : World) : Prop :=
  e = .returned (tkV k u id t) ∧ To b s r cv op w w'
set_option maxHeartbeats 6400000 in
set_option maxRecDepth 100000 in
theorem numeric_any (h : LX b s ds cv op w) : Calls Tryz.prog 69 #[.pointer (some ⟨b, 0, none⟩)] w
    (TkR (numeric ds).1.kind ((numeric ds).1.unit : Nat) false [] b s (numeric ds).2.2 cv (op || (numeric ds).2.1) w) := by
  have HL := Lib.hid h
  have hlt := h.lt
  have HB := Lib.hid h.lt
  have hc1 := h.c1
  have hpos : (pos s ds : Int) ≤ 140737488355328 := by have := @pos_le s ds; have := h.small; omega
  clear h
  rename World => w0
  have hto : To b s ds cv op (w0.alloc (.cells zeroTk 62)) (w0.alloc (.cells zeroTk 62)) := To.start HL.out _
  unfold zeroTk at hto
  go_enter Tryz.func69, Tryz.ntmps69
  go_upto_region 3 with ((go_at_call 59; go_must ((first | (with_reducible refine (peekT0 (by assumption)).mono ?_) | (with_reducible refine (peekT1 (by assumption)).mono ?_) | (with_reducible refine (peekT2 (by assumption)).mono ?_)); rintro e w1 ⟨rfl, rfl⟩)))
  go_cut [19] (fun x wx => x = .bool (pk ds 0 == 43 || pk ds 0 == 45) ∧ wx = w0.alloc (.cells #[.int .i64 0, .int .i64 0, .int .i64 0, .int .i64 0, .bool false, .string ⟨#[]⟩] 62))
  case first =>
    cases q1 : (pk ds 0 == 43)
    · go_wp2_with fail
      go_meet
      exact ⟨by rw [q1]; rfl, rfl⟩
    · go_wp2_with fail
      go_meet
      exact ⟨by rw [q1]; rfl, rfl⟩
  case rest =>
    obtain ⟨rfl, rfl⟩ := hcut
    go_upto_if 19 with (fail)
    go_cut [] (fun wx => Hid (To b s (numSign ds) cv op (w0.alloc (.cells #[.int .i64 0, .int .i64 0, .int .i64 0, .int .i64 0, .bool false, .string ⟨#[]⟩] 62)) wx))
    case first =>
      cases q1 : (pk ds 0 == 43 || pk ds 0 == 45)
      · have HN : Hid (numSign ds = ds) := by show _ = _; unfold numSign; rw [if_neg]; simp at q1; omega
        go_wp2_with fail
        go_meet
        show To _ _ _ _ _ _ _
        rw [HN.out]; exact hto
      · have HN : Hid (numSign ds = ds.tail) := by show _ = _; unfold numSign; rw [if_pos]; simpa using q1
        go_wp2_with (go_at_call 61; go_must (refine (takeT (by assumption)).mono ?_; rintro e w1 ⟨rfl, hto1⟩))
        go_meet
        show To _ _ _ _ _ _ _
        rw [HN.out]; exact hto1
    case rest =>
      clear hto
      have hto := hcut.out
      generalize hD0 : numSign ds = D0 at hto hcut
      have HD0 := Lib.hid hD0
      clear hD0 hcut
      go_upto_region 6 with ((go_at_call 94; go_must (refine (digitsT (by assumption)).mono ?_; rintro e w1 ⟨rfl, hto1⟩)))
      generalize hD1 : digits D0 = D1 at hto1
      have HD1 := Lib.hid hD1
      clear hD1 hto
      have hto := hto1
      clear hto1
      generalize hW : (w0.alloc (.cells #[.int .i64 0, .int .i64 0, .int .i64 0, .int .i64 0, .bool false, .string ⟨#[]⟩] 62)) = W1 at hto
      have HW := Lib.hid hW
      clear hW
      go_cut [31] (fun x wx => x = .bool (pk D1 0 == 46 && dgQ (pk D1 1)) ∧ Hid (To b s D1 cv op W1 wx))
      case first =>
        cases q1 : (pk D1 0 == 46)
        · go_wp2_with (go_at_call 59; go_must ((first | (with_reducible refine (peekT0 (by assumption)).mono ?_) | (with_reducible refine (peekT1 (by assumption)).mono ?_) | (with_reducible refine (peekT2 (by assumption)).mono ?_)); rintro e w1 ⟨rfl, rfl⟩))
          go_meet
          exact ⟨by rw [q1]; rfl, hto⟩
        · cases q2 : dgQ (pk D1 1)
          all_goals
            have H2 := Lib.hid q2
            clear q2
            go_wp2_with (first | (go_at_call 59; go_must ((first | (with_reducible refine (peekT0 (by assumption)).mono ?_) | (with_reducible refine (peekT1 (by assumption)).mono ?_) | (with_reducible refine (peekT2 (by assumption)).mono ?_)); rintro e w1 ⟨rfl, rfl⟩)) | (go_at_call 90; go_must (refine (dg_any _ _).mono ?_; rintro e w1 ⟨rfl, rfl⟩; rw [H2.out])))
            go_meet
            exact ⟨by rw [q1, H2.out]; rfl, hto⟩
      case rest =>
        obtain ⟨rfl, hto2⟩ := hcut
        clear hto
        have hto := hto2.out
        clear hto2
        go_upto_if 31 with (fail)
        go_cut [] (fun wx => Hid (To b s (numDot D1) cv (op || numOpen D1) W1 wx))
        case first =>
          cases q1 : (pk D1 0 == 46 && dgQ (pk D1 1))
          · have HN : Hid (numDot D1 = D1) := by
              show _ = _; unfold numDot; rw [if_neg]
              rintro ⟨k1, k2⟩; rw [k1, dgQ_iff.2 k2] at q1; cases q1
            cases q2 : (pk D1 0 == 46)
            · have HO : Hid (numOpen D1 = false) := by
                show _ = _; unfold numOpen; simp at q2; simp [q2]
              clear q1
              go_wp2_with (go_at_call 59; go_must ((first | (with_reducible refine (peekT0 (by assumption)).mono ?_) | (with_reducible refine (peekT1 (by assumption)).mono ?_) | (with_reducible refine (peekT2 (by assumption)).mono ?_)); rintro e w1 ⟨rfl, rfl⟩))
              go_meet
              show To _ _ _ _ _ _ _
              rw [HN.out, HO.out, Bool.or_false]; exact hto
            · have HO : Hid (numOpen D1 = true) := by
                show _ = _; unfold numOpen
                have k1 : pk D1 0 = 46 := by simpa using q2
                rw [k1] at q1
                have : ¬ isDg (pk D1 1) := by intro hx; rw [dgQ_iff.2 hx] at q1; cases q1
                simp [k1, this]
              have hc3 := hto.lx.c3
              have hf3 := hto.lx.f 3
              clear q1
              go_wp2_with (go_at_call 59; go_must ((first | (with_reducible refine (peekT0 (by assumption)).mono ?_) | (with_reducible refine (peekT1 (by assumption)).mono ?_) | (with_reducible refine (peekT2 (by assumption)).mono ?_)); rintro e w1 ⟨rfl, rfl⟩))
              go_meet
              show To _ _ _ _ _ _ _
              rw [HN.out, HO.out, Bool.or_true]; exact hto.open_ true
          · have k : pk D1 0 = 46 ∧ isDg (pk D1 1) := by
              simp only [Bool.and_eq_true, beq_iff_eq] at q1; exact ⟨q1.1, dgQ_iff.1 q1.2⟩
            have HN : Hid (numDot D1 = digits D1.tail) := by show _ = _; unfold numDot; rw [if_pos k]
            have HO : Hid (numOpen D1 = false) := by show _ = _; unfold numOpen; simp [k.2]
            clear k
            go_wp2_with (first | (go_at_call 61; go_must (refine (takeT (by assumption)).mono ?_; rintro e w1 ⟨rfl, hto1⟩)) | (go_at_call 94; go_must (refine (digitsT (by assumption)).mono ?_; rintro e w1 ⟨rfl, hto1⟩)))
            go_meet
            show To _ _ _ _ _ _ _
            rw [HN.out, HO.out, Bool.or_false]; assumption
        case rest =>
          clear hto
          have hto := hcut.out
          clear hcut
          generalize hD2 : numDot D1 = D2 at hto
          have HD2 := Lib.hid hD2
          clear hD2
          generalize hO2 : (op || numOpen D1) = op2 at hto
          have HO2 := Lib.hid hO2
          clear hO2
          go_upto_region 12 with ((go_at_call 59; go_must ((first | (with_reducible refine (peekT0 (by assumption)).mono ?_) | (with_reducible refine (peekT1 (by assumption)).mono ?_) | (with_reducible refine (peekT2 (by assumption)).mono ?_)); rintro e w1 ⟨rfl, rfl⟩)))
          go_cut [49] (fun x wx => x = .bool (pk D2 0 == 101 || pk D2 0 == 69) ∧ Hid (To b s D2 cv op2 W1 wx))
          case first =>
            cases q1 : (pk D2 0 == 101)
            all_goals
              go_wp2_with fail
              go_meet
              exact ⟨by rw [q1]; rfl, hto⟩
          case rest =>
            obtain ⟨rfl, hto2⟩ := hcut
            clear hto
            have hto := hto2.out
            clear hto2
            go_upto_if 49 with (fail)
            go_cut [] (fun wx => Hid (To b s (numExp D2) cv op2 W1 wx))
            case first =>
              cases q1 : (pk D2 0 == 101 || pk D2 0 == 69)
              · have HN : Hid (numExp D2 = D2) := by
                  show _ = _; apply numExp_stop; intro hp; have := hp.1; simp at q1; omega
                go_wp2_with fail
                go_meet
                show To _ _ _ _ _ _ _
                rw [HN.out]; exact hto
              · have k1 : pk D2 0 = 101 ∨ pk D2 0 = 69 := by simpa using q1
                have HK1 := Lib.hid k1
                clear k1 q1
                go_upto_region 14 with ((go_at_call 59; go_must ((first | (with_reducible refine (peekT0 (by assumption)).mono ?_) | (with_reducible refine (peekT1 (by assumption)).mono ?_) | (with_reducible refine (peekT2 (by assumption)).mono ?_)); rintro e w1 ⟨rfl, rfl⟩)))
                go_cut [66] (fun x wx => x = .bool (dgQ (pk D2 1) || ((pk D2 1 == 43 || pk D2 1 == 45) && dgQ (pk D2 2))) ∧ Hid (To b s D2 cv op2 W1 wx))
                case first =>
                  cases q2 : dgQ (pk D2 1)
                  · have H2 := Lib.hid q2
                    clear q2
                    cases q3 : (pk D2 1 == 43)
                    · cases q4 : (pk D2 1 == 45)
                      · go_wp2_with (first | (go_at_call 59; go_must ((first | (with_reducible refine (peekT0 (by assumption)).mono ?_) | (with_reducible refine (peekT1 (by assumption)).mono ?_) | (with_reducible refine (peekT2 (by assumption)).mono ?_)); rintro e w1 ⟨rfl, rfl⟩)) | (go_at_call 90; go_must (refine (dg_any _ _).mono ?_; rintro e w1 ⟨rfl, rfl⟩; rw [H2.out])))
                        go_meet
                        exact ⟨by rw [q3, q4, H2.out]; rfl, hto⟩
                      · cases q5 : dgQ (pk D2 2)
                        all_goals
                          have H5 := Lib.hid q5
                          clear q5
                          go_wp2_with fail
                          refine (dg_any _ _).mono ?_
                          rintro e w1 ⟨rfl, rfl⟩
                          rw [H2.out]
                          go_wp2_with (go_at_call 59; go_must ((first | (with_reducible refine (peekT0 (by assumption)).mono ?_) | (with_reducible refine (peekT1 (by assumption)).mono ?_) | (with_reducible refine (peekT2 (by assumption)).mono ?_)); rintro e w1 ⟨rfl, rfl⟩))
                          refine (dg_any _ _).mono ?_
                          rintro e w1 ⟨rfl, rfl⟩
                          rw [H5.out]
                          go_wp2_with fail
                          go_meet
                          exact ⟨by rw [q3, q4, H2.out, H5.out]; rfl, hto⟩
                    · cases q5 : dgQ (pk D2 2)
                      all_goals
                        have H5 := Lib.hid q5
                        clear q5
                        go_wp2_with fail
                        refine (dg_any _ _).mono ?_
                        rintro e w1 ⟨rfl, rfl⟩
                        rw [H2.out]
                        go_wp2_with (go_at_call 59; go_must ((first | (with_reducible refine (peekT0 (by assumption)).mono ?_) | (with_reducible refine (peekT1 (by assumption)).mono ?_) | (with_reducible refine (peekT2 (by assumption)).mono ?_)); rintro e w1 ⟨rfl, rfl⟩))
                        refine (dg_any _ _).mono ?_
                        rintro e w1 ⟨rfl, rfl⟩
                        rw [H5.out]
                        go_wp2_with fail
                        go_meet
                        exact ⟨by rw [q3, H2.out, H5.out]; rfl, hto⟩
                  · have H2 := Lib.hid q2
                    clear q2
                    go_wp2_with (first | (go_at_call 59; go_must ((first | (with_reducible refine (peekT0 (by assumption)).mono ?_) | (with_reducible refine (peekT1 (by assumption)).mono ?_) | (with_reducible refine (peekT2 (by assumption)).mono ?_)); rintro e w1 ⟨rfl, rfl⟩)) | (go_at_call 90; go_must (refine (dg_any _ _).mono ?_; rintro e w1 ⟨rfl, rfl⟩; rw [H2.out])))
                    go_meet
                    exact ⟨by rw [H2.out]; rfl, hto⟩
                case rest =>
                  obtain ⟨rfl, hto2⟩ := hcut
                  clear hto
                  have hto := hto2.out
                  clear hto2
                  cases q6 : (dgQ (pk D2 1) || ((pk D2 1 == 43 || pk D2 1 == 45) && dgQ (pk D2 2)))
                  · have HN : Hid (numExp D2 = D2) := by
                      show _ = _; apply numExp_stop; rintro ⟨_, hp⟩
                      have : (dgQ (pk D2 1) || ((pk D2 1 == 43 || pk D2 1 == 45) && dgQ (pk D2 2))) = true := by
                        simp only [Bool.or_eq_true, Bool.and_eq_true, beq_iff_eq, dgQ_iff]; exact hp
                      rw [this] at q6; cases q6
                    clear q6
                    go_wp2_with fail
                    go_meet
                    show To _ _ _ _ _ _ _
                    rw [HN.out]; exact hto
                  · have HN : Hid (numExp D2 = digits D2.tail.tail) := by
                      show _ = _; apply numExp_go; refine ⟨HK1.out, ?_⟩
                      simpa only [Bool.or_eq_true, Bool.and_eq_true, beq_iff_eq, dgQ_iff] using q6
                    clear q6
                    go_wp2_with (first | (go_at_call 61; go_must (refine (takeT (by assumption)).mono ?_; rintro e w1 ⟨rfl, hto1⟩)) | (go_at_call 94; go_must (refine (digitsT (by assumption)).mono ?_; rintro e w1 ⟨rfl, hto1⟩)))
                    go_meet
                    show To _ _ _ _ _ _ _
                    rw [HN.out]; assumption
            case rest =>
              clear hto
              have hto := hcut.out
              clear hcut
              generalize hD3 : numExp D2 = D3 at hto
              have HE : Hid (numEnd ds = (numOpen D1, D3)) := by
                show _ = _; unfold numEnd; rw [HD0.out, HD1.out, HD2.out, hD3]
              have HO : Hid (op2 = (op || numOpen D1)) := HO2.out.symm
              clear hD3 HD0 HD1 HD2 HO2
              clear hc1
              have hc1 := hto.lx.c1
              have hp3 : (pos s D3 : Int) ≤ 140737488355328 := by have := @pos_le s D3; have := HL.out.small; omega
              have HP : Hid ((pos s D3 : Int) - pos s ds = ((ds.length - D3.length : Nat) : Int)) := by
                have h1 := pos_split HL.out.suf (numEnd_split ds)
                rw [HE.out] at h1; exact h1
              rw [← HW.out] at hto
              have hres := hto.res HB.out
              have r0 := cell_blk hres 0
              have r1 := cell_blk hres 1
              have r2 := cell_blk hres 2
              have r3 := cell_blk hres 3
              have r4 := cell_blk hres 4
              have r5 := cell_blk hres 5
              have g0 := frozen_blk hres 0
              have g1 := frozen_blk hres 1
              have g2 := frozen_blk hres 2
              have g3 := frozen_blk hres 3
              have g4 := frozen_blk hres 4
              have g5 := frozen_blk hres 5
              clear hres HW
              cases q1 : idQ (pk D3 0) (pk D3 1) (pk D3 2)
              · have HI := Lib.hid q1
                have HNI : Hid (¬ ident3 (pk D3 0) (pk D3 1) (pk D3 2)) := by intro hx; rw [idQ_iff.2 hx] at q1; cases q1
                clear q1
                cases q2 : (pk D3 0 == 37)
                · have HF : Hid (numeric ds = (⟨30, 0, []⟩, numOpen D1, D3)) := by
                    show _ = _; unfold numeric; simp only [HE.out]; rw [if_neg HNI.out, if_neg (by simpa using q2)]
                  go_wp2_with (first | (go_at_call 59; go_must ((first | (with_reducible refine (peekT0 (by assumption)).mono ?_) | (with_reducible refine (peekT1 (by assumption)).mono ?_) | (with_reducible refine (peekT2 (by assumption)).mono ?_)); rintro e w1 ⟨rfl, rfl⟩)) | (go_at_call 67; go_must (refine (id_any _ _ _ _).mono ?_; rintro e w1 ⟨rfl, rfl⟩; rw [HI.out])))
                  refine bodyPost_ret (v := tkV 30 0 false []) (by simp [results, Tryz.results69, go_sem, tkV, bsOf, r0, r1, r2, r3, r4, r5]) rfl ?_
                  rw [HF.out]
                  refine ⟨rfl, ?_⟩
                  have := hto.store6 HB.out (.int .i64 30) (.int .i64 0) (.int .i64 0) (.int .i64 0) (.bool false) (.string ⟨#[]⟩)
                  rw [HO.out] at this; exact this
                · have HF : Hid (numeric ds = (⟨34, 0, []⟩, numOpen D1, D3.tail)) := by
                    show _ = _; unfold numeric; simp only [HE.out]; rw [if_neg HNI.out, if_pos (by simpa using q2)]
                  clear r0 r1 r2 r3 r4 r5 g0 g1 g2 g3 g4 g5
                  go_wp2_with (first | (go_at_call 59; go_must ((first | (with_reducible refine (peekT0 (by assumption)).mono ?_) | (with_reducible refine (peekT1 (by assumption)).mono ?_) | (with_reducible refine (peekT2 (by assumption)).mono ?_)); rintro e w1 ⟨rfl, rfl⟩)) | (go_at_call 67; go_must (refine (id_any _ _ _ _).mono ?_; rintro e w1 ⟨rfl, rfl⟩; rw [HI.out])))
                  refine (takeT (by assumption)).mono ?_
                  rintro e w1 ⟨rfl, hto1⟩
                  have hres := hto1.res HB.out
                  have r0 := cell_blk hres 0
                  have r1 := cell_blk hres 1
                  have r2 := cell_blk hres 2
                  have r3 := cell_blk hres 3
                  have r4 := cell_blk hres 4
                  have r5 := cell_blk hres 5
                  have g0 := frozen_blk hres 0
                  have g1 := frozen_blk hres 1
                  have g2 := frozen_blk hres 2
                  have g3 := frozen_blk hres 3
                  have g4 := frozen_blk hres 4
                  have g5 := frozen_blk hres 5
                  clear hres
                  go_wp2_with fail
                  refine bodyPost_ret (v := tkV 34 0 false []) (by simp [results, Tryz.results69, go_sem, tkV, bsOf, r0, r1, r2, r3, r4, r5]) rfl ?_
                  rw [HF.out]
                  refine ⟨rfl, ?_⟩
                  have := hto1.store6 HB.out (.int .i64 34) (.int .i64 0) (.int .i64 0) (.int .i64 0) (.bool false) (.string ⟨#[]⟩)
                  rw [HO.out] at this; exact this
              · have HI := Lib.hid q1
                have HNI := idQ_iff.1 q1
                have HF : Hid (numeric ds = (⟨26, ds.length - D3.length, []⟩, numOpen D1 || (name D3).2.1, (name D3).2.2)) := by
                  show _ = _; unfold numeric; simp only [HE.out]; rw [if_pos HNI]
                clear q1 HNI
                clear r0 r1 r2 r3 r4 r5 g0 g1 g2 g3 g4 g5
                go_wp2_with (first | (go_at_call 59; go_must ((first | (with_reducible refine (peekT0 (by assumption)).mono ?_) | (with_reducible refine (peekT1 (by assumption)).mono ?_) | (with_reducible refine (peekT2 (by assumption)).mono ?_)); rintro e w1 ⟨rfl, rfl⟩)) | (go_at_call 67; go_must (refine (id_any _ _ _ _).mono ?_; rintro e w1 ⟨rfl, rfl⟩; rw [HI.out])))
                refine (nameT (by assumption)).mono ?_
                rintro e w1 ⟨rfl, hto1⟩
                have hres := hto1.res HB.out
                have r0 := cell_blk hres 0
                have r1 := cell_blk hres 1
                have r2 := cell_blk hres 2
                have r3 := cell_blk hres 3
                have r4 := cell_blk hres 4
                have r5 := cell_blk hres 5
                have g0 := frozen_blk hres 0
                have g1 := frozen_blk hres 1
                have g2 := frozen_blk hres 2
                have g3 := frozen_blk hres 3
                have g4 := frozen_blk hres 4
                have g5 := frozen_blk hres 5
                clear hres
                go_wp2_with fail
                refine bodyPost_ret (v := tkV 26 (ds.length - D3.length : Nat) false []) (by simp [results, Tryz.results69, go_sem, tkV, bsOf, HP.out, r0, r1, r2, r3, r4, r5]) rfl ?_
                rw [HF.out]
                refine ⟨rfl, ?_⟩
                show To b s (name D3).2.2 cv (op || (numOpen D1 || (name D3).2.1)) _ _
                rw [← Bool.or_assoc, ← HO.out]
                exact hto1.store6 HB.out _ _ _ _ _ _
end
end Go.Proofs.YtkfdcbdlcipmfaaGreatFmt
