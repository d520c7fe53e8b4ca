/- Walks: the reference's lexer: names and what belongs to them (printed by genS13.py). -/
import Derived.Test.YtkfdcbdlcipmfaaGreatFmtH28
import Derived.Deep.Light
set_option linter.unusedVariables false
set_option linter.unusedSimpArgs false
namespace Go.Proofs.YtkfdcbdlcipmfaaGreatFmt
open Go.RowKit Css
theorem url_size (ds : List Int) : (enc (url ds).2.1).length ≤ 4 * ds.length := by
  have ht := fun l : List Int => List.length_tail (l := l)
  have he := fun l : List Int => escape_len l
  fun_induction url ds with
  | case1 => simp
  | case2 => simp
  | case3 => simp
  | case4 ds h1 h2 h3 h4 ih => have := spaces_len ds; omega
  | case5 => simp
  | case6 ds h1 h2 h3 h4 h5 r ih =>
    have q1 := ht ds
    have q2 := he ds.tail
    have q3 := len_of_pk h2
    have q4 := (wd_pos (escape ds.tail).1).2
    simp only []
    split
    · rw [enc_length_cons]; simp only [r] at *; omega
    · simp
  | case7 ds h1 h2 h3 h4 h5 r ih =>
    have q1 := ht ds
    have q3 := len_of_pk h2
    have q4 := (wd_pos (pk ds 0)).2
    simp only []
    split
    · rw [enc_length_cons]; simp only [r] at *; omega
    · simp
theorem hexRun_split (n : Nat) : ∀ (v : Int) (ds : List Int), ∃ X, ds = X ++ (hexRun n v ds).2 := by
  induction n with
  | zero => intro v ds; exact ⟨[], rfl⟩
  | succ n ih =>
    intro v ds
    unfold hexRun
    split
    · obtain ⟨X, h⟩ := ih (v * 16 + hexv (pk ds 0)) ds.tail
      cases ds with
      | nil => exact ⟨[], by rename_i h0; exact absurd h0 (by decide)⟩
      | cons c t => exact ⟨c :: X, by rw [List.cons_append, ← h]; rfl⟩
    · exact ⟨[], rfl⟩
theorem tail_split' (ds : List Int) : ∃ X, ds = X ++ ds.tail := by
  cases ds with
  | nil => exact ⟨[], rfl⟩
  | cons c t => exact ⟨[c], rfl⟩
theorem split_trans' {a b c : List Int} (h1 : ∃ X, a = X ++ b) (h2 : ∃ X, b = X ++ c) : ∃ X, a = X ++ c := by
  obtain ⟨X, e1⟩ := h1
  obtain ⟨Y, e2⟩ := h2
  exact ⟨X ++ Y, by rw [e1, e2, List.append_assoc]⟩
theorem newline_split (ds : List Int) : ∃ X, ds = X ++ newline ds := by
  unfold newline; split
  · exact split_trans' (tail_split' _) (tail_split' _)
  · exact tail_split' _
theorem escape_split (ds : List Int) : ∃ X, ds = X ++ (escape ds).2.2 := by
  unfold escape
  repeat' split
  · exact tail_split' _
  · exact tail_split' _
  · exact split_trans' (hexRun_split _ _ _) (newline_split _)
  · exact split_trans' (hexRun_split _ _ _) (tail_split' _)
  · exact hexRun_split _ _ _
theorem escape_none {ds : List Int} (h : (escape ds).2.2.length = ds.length) : (escape ds).1 = 65533 := by
  cases ds with
  | nil => decide
  | cons c t =>
    exfalso
    have hr : 0 ≤ hexv c → (hexRun 6 0 (c :: t)).2.length ≤ t.length := by
      intro hc
      unfold hexRun
      rw [pk_cons_zero, if_pos hc]
      exact hexRun_len 5 _ t
    have hn := newline_len (hexRun 6 0 (c :: t)).2
    have ht := List.length_tail (l := (hexRun 6 0 (c :: t)).2)
    unfold escape at h
    rw [pk_cons_zero] at h
    by_cases hx : hexv c < 0
    · rw [if_pos hx] at h
      split at h <;> simp at h
    · rw [if_neg hx] at h
      have hr := hr (by omega)
      repeat' split at h
      all_goals simp only [List.length_cons] at h; omega
theorem name_split (ds : List Int) : ∃ X, ds = X ++ (name ds).2.2 ∧ (name ds).1.length ≤ X.length ∧ (X.length = (name ds).1.length → (∀ c ∈ (name ds).1, c < 128) → X = (name ds).1) := by
  fun_induction name ds with
  | case1 ds h ih =>
    obtain ⟨X, h1, h2, h3⟩ := ih
    cases ds with
    | nil => exact absurd h (by decide)
    | cons c t =>
      simp only [pk_cons_zero, List.tail_cons] at *
      refine ⟨c :: X, by rw [List.cons_append, ← h1], by simp; omega, fun hl hc => ?_⟩
      rw [h3 (by simpa using hl) (fun d hd => hc d (by simp [hd]))]
  | case2 ds h h2 ih =>
    obtain ⟨X, h1, h2', h3⟩ := ih
    cases ds with
    | nil => have := h2.1; simp at this
    | cons c t =>
      simp only [List.tail_cons] at *
      obtain ⟨Y, hY⟩ := escape_split t
      refine ⟨c :: (Y ++ X), by rw [List.cons_append, List.append_assoc, ← h1, ← hY], by simp; omega, fun hl hc => ?_⟩
      exfalso
      have hy : Y.length = 0 := by simp at hl; omega
      have hz : (escape t).2.2.length = t.length := by
        have := congrArg List.length hY
        rw [List.length_append] at this; omega
      have := hc (escape t).1 (by simp)
      rw [escape_none hz] at this
      omega
  | case3 => exact ⟨[], rfl, Nat.le_refl _, fun _ _ => rfl⟩
theorem enc1_low {c : Int} (h : Rng c) (b : UInt8) (t : List UInt8) (e : enc1 c = b :: t) (hb : b.toNat < 128) : 0 ≤ c ∧ c < 128 ∧ t = [] := by
  unfold Rng at h
  have k : ∀ x : Int, 128 ≤ x → x < 256 → b = by8 x → False := by
    intro x h1 h2 hx
    have := by8_nat (c := x) (by omega) h2
    rw [hx] at hb; omega
  unfold enc1 at e
  split at e
  · simp only [List.cons.injEq] at e
    refine ⟨?_, by assumption, e.2.symm⟩
    by_cases h0 : 0 ≤ c
    · exact h0
    · exfalso
      have := by8_mod c
      rw [← e.1] at hb
      omega
  · exfalso
    split at e
    · simp only [List.cons.injEq] at e; exact k _ (by omega) (by omega) e.1.symm
    · split at e
      · simp only [List.cons.injEq] at e; exact k _ (by omega) (by omega) e.1.symm
      · simp only [List.cons.injEq] at e; exact k _ (by omega) (by omega) e.1.symm
theorem url_three {l : List Int} (hr : ∀ c ∈ l, Rng c) (h : isUrlB (enc l) = true) : l.length = 3 ∧ ∀ c ∈ l, c < 128 := by
  have h3 : (enc l).length = 3 := by
    by_cases hx : (enc l).length = 3
    · exact hx
    · rw [isUrlB_len _ hx] at h; cases h
  match he : enc l, h3 with
  | [x, y, z], _ =>
    rw [he] at h
    unfold isUrlB at h
    simp only [Bool.and_eq_true, Bool.or_eq_true, beq_iff_eq] at h
    obtain ⟨⟨hx, hy⟩, hz⟩ := h
    have lx : x.toNat < 128 := by rcases hx with rfl | rfl <;> decide
    have ly : y.toNat < 128 := by rcases hy with rfl | rfl <;> decide
    have lz : z.toNat < 128 := by rcases hz with rfl | rfl <;> decide
    have step : ∀ (c : Int) (t : List Int) (b : UInt8) (r : List UInt8), Rng c → enc (c :: t) = b :: r → b.toNat < 128 → c < 128 ∧ enc t = r := by
      intro c t b r hc e hb
      rw [enc_cons] at e
      cases hq : enc1 c with
      | nil => have q1 := enc1_length c; rw [hq] at q1; have q2 := (wd_pos c).1; simp at q1; omega
      | cons b' t' =>
        rw [hq] at e
        simp only [List.cons_append, List.cons.injEq] at e
        obtain ⟨k0, k1, k2⟩ := enc1_low hc b' t' hq (by rw [e.1]; exact hb)
        subst k2
        exact ⟨k1, by simpa using e.2⟩
    match l, he with
    | [], he => simp [enc] at he
    | c1 :: l1, he =>
      obtain ⟨k1, e1⟩ := step c1 l1 x [y, z] (hr c1 (by simp)) he lx
      match l1, e1 with
      | [], e1 => simp [enc] at e1
      | c2 :: l2, e1 =>
        obtain ⟨k2, e2⟩ := step c2 l2 y [z] (hr c2 (by simp)) e1 ly
        match l2, e2 with
        | [], e2 => simp [enc] at e2
        | c3 :: l3, e2 =>
          obtain ⟨k3, e3⟩ := step c3 l3 z [] (hr c3 (by simp)) e2 lz
          match l3, e3 with
          | [], _ =>
            refine ⟨rfl, ?_⟩
            intro c hc
            simp at hc
            rcases hc with rfl | rfl | rfl <;> assumption
          | c4 :: l4, e3 =>
            rw [enc_cons] at e3
            have q1 := enc1_length c4
            have q2 := (wd_pos c4).1
            have h0 := congrArg List.length e3
            rw [List.length_append, q1] at h0; simp at h0; omega
theorem name_rng {ds : List Int} (h : ∀ c ∈ ds, Rng c) : ∀ c ∈ (name ds).1, Rng c := by
  fun_induction name ds with
  | case1 ds h1 ih =>
    intro c hc
    simp at hc
    rcases hc with rfl | hc
    · exact pk_rng h 0
    · exact ih (tail_rng h) c hc
  | case2 ds h1 h2 ih =>
    intro c hc
    simp at hc
    rcases hc with rfl | hc
    · exact escape_rng (tail_rng h)
    · exact ih (fun x hx => h x (List.mem_of_mem_tail (escape_mem _ x hx))) c hc
  | case3 => simp
theorem url_short {s : ByteArray} {ds : List Int} (hs : Suf s ds) (h : isUrlB (enc (name ds).1) = true) : ((pos s (name ds).2.2 : Int) - pos s ds = 3) ↔ ds.length - (name ds).2.2.length = 3 := by
  obtain ⟨X, e, h1, h2⟩ := name_split ds
  obtain ⟨k1, k2⟩ := url_three (name_rng (suf_rng hs)) h
  have hb := hs.bw_le
  generalize hR : (name ds).2.2 = R at *
  generalize hN : (name ds).1 = N at *
  have e1 : ds.length - R.length = X.length := by rw [e, List.length_append]; omega
  have e2 : (pos s R : Int) - pos s ds = (bw X : Int) := by
    have hbw : bw ds = bw X + bw R := by rw [e, bw_append]
    unfold pos; rw [hbw] at hb ⊢; omega
  rw [e1, e2]
  have hw := len_le_bw X
  constructor
  · intro h3; omega
  · intro h3
    have := h2 (by omega) k2
    rw [this, bw_ascii k2]; omega
section
variable {b : Nat} {s : ByteArray} {ds : List Int} {cv : Value} {op : Bool} {w : World}
def NdR (b : Nat) (s : ByteArray) (ds : List Int) (cv : Value) (op : Bool) (w : World) (e : Ending) (w' : World) : Prop :=
  e = .returned (tkV (named ds).1.kind 0 false (enc (named ds).1.text)) ∧ To b s (named ds).2.2 cv (op || (named ds).2.1) w w'
theorem To.far {w0 w : World} (h : To b s ds cv op w0 w) {p : Addr} (hb : p.block ≠ b) (hp : w0.heap.size ≤ p.block) (u : Value) : To b s ds cv op w0 (w.setCell p u) :=
  ⟨h.lx.same (Below.heap_setCell _ _ _ _ (Ne.symm hb)), h.lk.os, h.lk.tape, h.lk.output, by have := h.lk.size; simpa [World.setCell] using this, fun i hi hb' => (Below.heap_setCell _ _ _ _ (by omega)).trans (h.lk.block i hi hb')⟩
theorem To.alloc {w0 w : World} (h : To b s ds cv op w0 w) (o : Obj) : To b s ds cv op w0 (w.alloc o) := h.below ((Below.refl _ _).alloc (Nat.le_refl _) o)
theorem To.stored {w0 w : World} (h : To b s ds cv op w0 w) (o : Obj) (u0 u1 u2 u3 u4 u5 : Value) :
    To b s ds cv op w0 (((((((w.alloc o).setCell ⟨w.heap.size, 0, none⟩ u0).setCell ⟨w.heap.size, 1, none⟩ u1).setCell ⟨w.heap.size, 2, none⟩ u2).setCell ⟨w.heap.size, 3, none⟩ u3).setCell ⟨w.heap.size, 4, none⟩ u4).setCell ⟨w.heap.size, 5, none⟩ u5) := by
  have hb : w.heap.size ≠ b := by have := h.lx.lt; omega
  have hp := h.lk.size
  exact ((((((h.alloc o).far hb hp u0).far hb hp u1).far hb hp u2).far hb hp u3).far hb hp u4).far hb hp u5
theorem urlT {w0 : World} (h : To b s ds cv op w0 w) : Calls Tryz.prog 95 #[.pointer (some ⟨b, 0, none⟩)] w fun e w' => e = .returned (.agg #[.int .i64 (url ds).1, .int .i64 0, .int .i64 0, .int .i64 0, .bool false, .string (bsOf (enc (url ds).2.1))]) ∧ To b s (url ds).2.2.2 cv (op || (url ds).2.2.1) w0 w' :=
  (url_any h.lx).mono fun _ _ k => ⟨k.1, h.then k.2⟩
set_option maxHeartbeats 6400000 in
set_option maxRecDepth 100000 in
theorem named_any (h : LX b s ds cv op w) : Calls Tryz.prog 70 #[.pointer (some ⟨b, 0, none⟩)] w (NdR b s ds cv op w) := by
  have HL := Lib.hid h
  have hlt := h.lt
  have hc1 := h.c1
  have hpos : (pos s ds : Int) ≤ 140737488355328 := by have := @pos_le s ds; have := h.small; omega
  clear h
  rename World => w0
  have hto0 : To b s ds cv op (w0.alloc (.cells #[.int .i64 0, .int .i64 0, .int .i64 0, .int .i64 0, .bool false, .string ⟨#[]⟩] 62)) (w0.alloc (.cells #[.int .i64 0, .int .i64 0, .int .i64 0, .int .i64 0, .bool false, .string ⟨#[]⟩] 62)) := To.start HL.out _
  have HU : Hid (named ds = if pk (name ds).2.2 0 ≠ 40 then (⟨29, 0, (name ds).1⟩, (name ds).2.1, (name ds).2.2) else if isUrlB (enc (name ds).1) = true ∧ pk (spaces (name ds).2.2.tail) 0 ≠ 34 ∧ pk (spaces (name ds).2.2.tail) 0 ≠ 39 then
    (⟨(url (spaces (name ds).2.2.tail)).1, 0, (url (spaces (name ds).2.2.tail)).2.1⟩, (name ds).2.1 || (url (spaces (name ds).2.2.tail)).2.2.1 || decide (ds.length - (name ds).2.2.length ≠ 3) || !trimmedB (enc (url (spaces (name ds).2.2.tail)).2.1), (url (spaces (name ds).2.2.tail)).2.2.2)
    else (⟨27, 0, (name ds).1⟩, (name ds).2.1, (name ds).2.2.tail)) := by show _ = _; unfold named; rfl
  have HSH := Lib.hid (url_short HL.out.suf)
  go_enter Tryz.func70, Tryz.ntmps70
  go_wp2_with fail
  refine (nameT (by assumption)).mono ?_
  rintro e w1 ⟨rfl, hto⟩
  clear hto0 hc1
  generalize hR : (name ds).2.2 = R at hto HU HSH
  generalize hN : (name ds).1 = N at HU HSH ⊢
  generalize hO : (op || (name ds).2.1) = op1 at hto
  have HO : Hid (∀ x, (op || ((name ds).2.1 || x)) = (op1 || x)) := fun x => by rw [← hO, Bool.or_assoc]
  have HO1 := Lib.hid hO
  clear hR hN hO
  have hc1 := hto.lx.c1
  have hp3 : (pos s R : Int) ≤ 140737488355328 := by have := @pos_le s R; have := HL.out.small; omega
  generalize hps : (pos s R : Int) - pos s ds = dp at HSH
  cases k1 : (pk R 0 == 40)
  · have k2 : (pk R 0 != 40) = true := by simpa using k1
    have HF : Hid (named ds = (⟨29, 0, N⟩, (name ds).2.1, R)) := by show _ = _; rw [HU.out, if_pos (by simpa using k1)]
    have hres := hto.res hlt
    have r0 := cell_blk hres 0
    have r1 := cell_blk hres 1
    have r2 := cell_blk hres 2
    have r3 := cell_blk hres 3
    have r4 := cell_blk hres 4
    have r5 := cell_blk hres 5
    have g0 := frozen_blk hres 0
    have g1 := frozen_blk hres 1
    have g2 := frozen_blk hres 2
    have g3 := frozen_blk hres 3
    have g4 := frozen_blk hres 4
    have g5 := frozen_blk hres 5
    clear hres
    go_wp2_with (go_at_call 59; go_must ((first | (with_reducible refine (peekT0 (by assumption)).mono ?_) | (with_reducible refine (peekT1 (by assumption)).mono ?_) | (with_reducible refine (peekT2 (by assumption)).mono ?_)); rintro e w1 ⟨rfl, rfl⟩))
    refine bodyPost_ret (v := tkV 29 0 false (enc N)) (by simp [results, Tryz.results70, go_sem, tkV, bsOf, r0, r1, r2, r3, r4, r5]) rfl ?_
    refine ⟨by rw [HF.out], ?_⟩
    rw [HF.out]
    show To b s R cv (op || (name ds).2.1) _ _
    rw [HO1.out]
    exact hto.store6 hlt _ _ _ _ _ _
  · have k2 : (pk R 0 != 40) = false := by simpa using k1
    have HK : Hid (named ds = if isUrlB (enc N) = true ∧ pk (spaces R.tail) 0 ≠ 34 ∧ pk (spaces R.tail) 0 ≠ 39 then
    (⟨(url (spaces R.tail)).1, 0, (url (spaces R.tail)).2.1⟩, (name ds).2.1 || (url (spaces R.tail)).2.2.1 || decide (ds.length - R.length ≠ 3) || !trimmedB (enc (url (spaces R.tail)).2.1), (url (spaces R.tail)).2.2.2)
    else (⟨27, 0, N⟩, (name ds).2.1, R.tail)) := by show _ = _; rw [HU.out, if_neg (by simpa using k1)]
    cases k3 : isUrlB (enc N)
    · have K3 := Lib.hid (show isUrlB (bsOf (enc N)).data.toList = false by rw [bsOf_list]; exact k3)
      have HF : Hid (named ds = (⟨27, 0, N⟩, (name ds).2.1, R.tail)) := by show _ = _; rw [HK.out, if_neg (by rw [k3]; simp)]
      clear k3
      go_wp2_with (go_at_call 59; go_must ((first | (with_reducible refine (peekT0 (by assumption)).mono ?_) | (with_reducible refine (peekT1 (by assumption)).mono ?_) | (with_reducible refine (peekT2 (by assumption)).mono ?_)); rintro e w1 ⟨rfl, rfl⟩))
      refine (takeT (by assumption)).mono ?_
      rintro e w2 ⟨rfl, hto2⟩
      have hres := hto2.res hlt
      have r0 := cell_blk hres 0
      have r1 := cell_blk hres 1
      have r2 := cell_blk hres 2
      have r3 := cell_blk hres 3
      have r4 := cell_blk hres 4
      have r5 := cell_blk hres 5
      have g0 := frozen_blk hres 0
      have g1 := frozen_blk hres 1
      have g2 := frozen_blk hres 2
      have g3 := frozen_blk hres 3
      have g4 := frozen_blk hres 4
      have g5 := frozen_blk hres 5
      clear hres
      go_wp2_with (go_at_call 48; go_must (refine (isURL_any _ _).mono ?_; rintro e w1 ⟨rfl, rfl⟩; rw [K3.out]))
      refine bodyPost_ret (v := tkV 27 0 false (enc N)) (by simp [results, Tryz.results70, go_sem, tkV, bsOf, r0, r1, r2, r3, r4, r5]) rfl ?_
      refine ⟨by rw [HF.out], ?_⟩
      rw [HF.out]
      show To b s R.tail cv (op || (name ds).2.1) _ _
      rw [HO1.out]
      exact hto2.store6 hlt _ _ _ _ _ _
    · have K3 := Lib.hid (show isUrlB (bsOf (enc N)).data.toList = true by rw [bsOf_list]; exact k3)
      have HSH2 : Hid ((dp = 3) ↔ ds.length - R.length = 3) := HSH.out k3
      have HK3 := Lib.hid k3
      clear k3
      go_wp2_with (go_at_call 59; go_must ((first | (with_reducible refine (peekT0 (by assumption)).mono ?_) | (with_reducible refine (peekT1 (by assumption)).mono ?_) | (with_reducible refine (peekT2 (by assumption)).mono ?_)); rintro e w1 ⟨rfl, rfl⟩))
      refine (takeT (by assumption)).mono ?_
      rintro e w2 ⟨rfl, hto2⟩
      have HT2 := Lib.hid hto2
      have hc1 := hto2.lx.c1
      go_wp2_with (go_at_call 48; go_must (refine (isURL_any _ _).mono ?_; rintro e w1 ⟨rfl, rfl⟩; rw [K3.out]))
      clear hto2
      go_loopg [] R.tail.length (fun k wr => ∃ D : List Int, D.length = k ∧ Hid (spaces D = spaces R.tail) ∧ Hid (To b s D cv op1 (w0.alloc (.cells #[.int .i64 0, .int .i64 0, .int .i64 0, .int .i64 0, .bool false, .string ⟨#[]⟩] 62)) wr))
      case atStart => exact ⟨R.tail, rfl, rfl, HT2.out⟩
      case round =>
        obtain ⟨D, hD, HD, HT⟩ := hrel
        have hto := HT.out
        cases hd : spQ (pk D 0)
        · have N0 := Lib.hid hd
          have HN : Hid (D = spaces R.tail) := by
            show _ = _
            rw [← HD.out]; symm; apply spaces_stop
            intro hx; rw [spQ_iff.2 hx] at hd; cases hd
          clear hd
          cases q1 : (pk D 0 == 34)
          · cases q2 : (pk D 0 == 39)
            · have m1 : (pk D 0 != 34) = true := by simpa using q1
              have m2 : (pk D 0 != 39) = true := by simpa using q2
              have HF : Hid (named ds = (⟨(url D).1, 0, (url D).2.1⟩, (name ds).2.1 || (url D).2.2.1 || decide (ds.length - R.length ≠ 3) || !trimmedB (enc (url D).2.1), (url D).2.2.2)) := by
                show _ = _; rw [HK.out, if_pos ⟨HK3.out, by rw [← HN.out]; simpa using q1, by rw [← HN.out]; simpa using q2⟩, ← HN.out]
              go_wp2_with (first | (go_at_call 59; go_must ((first | (with_reducible refine (peekT0 (by assumption)).mono ?_) | (with_reducible refine (peekT1 (by assumption)).mono ?_) | (with_reducible refine (peekT2 (by assumption)).mono ?_)); rintro e w1 ⟨rfl, rfl⟩)) | (go_at_call 64; go_must (refine (sp_any _ _).mono ?_; rintro e w1 ⟨rfl, rfl⟩; rw [N0.out])))
              refine (urlT (by assumption)).mono ?_
              rintro e w3 ⟨rfl, hto3⟩
              clear q1 q2 m1 m2
              have HTR := Lib.hid (show (trimmedB (bsOf (enc (url D).2.1)).data.toList) = trimmedB (enc (url D).2.1) by rw [bsOf_list])
              have HSZ : Hid (((bsOf (enc (url D).2.1)).size : Int) ≤ 1125899906842624) := by
                go_light
                show _ ≤ _
                have h1 := url_size D
                have h2 := suf_len HT.out.lx.suf
                have h3 := HT.out.lx.small
                rw [bsOf_size]; omega
              generalize hT : enc (url D).2.1 = tx at HTR HSZ HF ⊢
              generalize hK : (url D).1 = kk at HF ⊢
              generalize hop3 : (op1 || (url D).2.2.1) = op3 at hto3
              have HOP3 := Lib.hid hop3
              have HTX := Lib.hid hT
              clear hop3 hT hK
              have hz : w0.heap.size < w3.heap.size := by have := hto3.lk.size; simp at this; omega
              have hz2 : b < w3.heap.size := hto3.lx.lt
              have hc3 := hto3.lx.c3
              have hf3 := hto3.lx.f 3
              have hways : (op3 = true ∧ Hid ((op3 || (!(dp == 3) || !trimmedB tx)) = true)) ∨ (op3 = false ∧ (dp == 3) = false ∧ Hid ((op3 || (!(dp == 3) || !trimmedB tx)) = true)) ∨ (op3 = false ∧ (dp == 3) = true ∧ Hid (trimmedB tx = true) ∧ Hid ((op3 || (!(dp == 3) || !trimmedB tx)) = false)) ∨ (op3 = false ∧ (dp == 3) = true ∧ Hid (trimmedB tx = false) ∧ Hid ((op3 || (!(dp == 3) || !trimmedB tx)) = true)) := by
                have hid : ∀ p : Prop, Hid p = p := fun _ => rfl
                simp only [hid]
                cases op3 <;> cases hq : (dp == 3) <;> cases hr : trimmedB tx <;> simp
              have HPL : Hid ((op || ((name ds).2.1 || (url D).2.2.1 || decide (ds.length - R.length ≠ 3) || !trimmedB tx)) = (op3 || (!(dp == 3) || !trimmedB tx))) := by
                show _ = _
                rw [← HOP3.out, ← HO1.out]
                have : decide (ds.length - R.length ≠ 3) = !(dp == 3) := by
                  have h9 := HSH2.out
                  by_cases hq : dp = 3
                  · have := h9.1 hq; simp [hq, this]
                  · have : ¬ ds.length - R.length = 3 := fun h => hq (h9.2 h)
                    simp [hq, this]
                rw [this]
                simp [Bool.or_assoc]
              rcases hways with ⟨h3, HV⟩ | ⟨h3, hd3, HV⟩ | ⟨h3, hd3, HTT, HV⟩ | ⟨h3, hd3, HTT, HV⟩
              · rw [h3] at hc3
                go_upto_region 15 with (fail)
                have hto9 := (hto3.open_ true).alloc (.cells #[.int .i64 kk, .int .i64 0, .int .i64 0, .int .i64 0, .bool false, .string (bsOf tx)] 62)
                have ht8 : ((w3.setCell ⟨b, 3, none⟩ (.bool true)).alloc (.cells #[.int .i64 kk, .int .i64 0, .int .i64 0, .int .i64 0, .bool false, .string (bsOf tx)] 62)).heap[w3.heap.size]? = some (.cells #[.int .i64 kk, .int .i64 0, .int .i64 0, .int .i64 0, .bool false, .string (bsOf tx)] 62 (0, 0)) := by
                  have h8 := heap_alloc_new (w3.setCell ⟨b, 3, none⟩ (.bool true)) (.cells #[.int .i64 kk, .int .i64 0, .int .i64 0, .int .i64 0, .bool false, .string (bsOf tx)] 62)
                  rw [show (w3.setCell ⟨b, 3, none⟩ (.bool true)).heap.size = w3.heap.size by simp [World.setCell]] at h8
                  exact h8
                generalize (w3.setCell ⟨b, 3, none⟩ (.bool true)).alloc (.cells #[.int .i64 kk, .int .i64 0, .int .i64 0, .int .i64 0, .bool false, .string (bsOf tx)] 62) = W9 at hto9 ht8 ⊢
                have t0 := cell_blk ht8 0
                have t1 := cell_blk ht8 1
                have t2 := cell_blk ht8 2
                have t3 := cell_blk ht8 3
                have t4 := cell_blk ht8 4
                have t5 := cell_blk ht8 5
                clear ht8 hc3 hf3
                have hres := hto9.res hlt
                have r0 := cell_blk hres 0
                have r1 := cell_blk hres 1
                have r2 := cell_blk hres 2
                have r3 := cell_blk hres 3
                have r4 := cell_blk hres 4
                have r5 := cell_blk hres 5
                have g0 := frozen_blk hres 0
                have g1 := frozen_blk hres 1
                have g2 := frozen_blk hres 2
                have g3 := frozen_blk hres 3
                have g4 := frozen_blk hres 4
                have g5 := frozen_blk hres 5
                clear hres
                go_wp2_with fail
                refine bodyPost_ret (v := tkV kk 0 false tx) (by simp [results, Tryz.results70, go_sem, tkV, bsOf, r0, r1, r2, r3, r4, r5]) rfl ?_
                refine ⟨by rw [HF.out]; show _ = Ending.returned (tkV kk 0 false (enc (url D).2.1)); rw [HTX.out], ?_⟩
                rw [HF.out]
                show To b s (url D).2.2.2 cv (op || ((name ds).2.1 || (url D).2.2.1 || decide (ds.length - R.length ≠ 3) || !trimmedB tx)) _ _
                rw [HPL.out, HV.out]
                exact hto9.store6 hlt _ _ _ _ _ _
              · rw [h3] at hc3
                go_upto_region 15 with (fail)
                have hto9 := (hto3.open_ true).alloc (.cells #[.int .i64 kk, .int .i64 0, .int .i64 0, .int .i64 0, .bool false, .string (bsOf tx)] 62)
                have ht8 : ((w3.setCell ⟨b, 3, none⟩ (.bool true)).alloc (.cells #[.int .i64 kk, .int .i64 0, .int .i64 0, .int .i64 0, .bool false, .string (bsOf tx)] 62)).heap[w3.heap.size]? = some (.cells #[.int .i64 kk, .int .i64 0, .int .i64 0, .int .i64 0, .bool false, .string (bsOf tx)] 62 (0, 0)) := by
                  have h8 := heap_alloc_new (w3.setCell ⟨b, 3, none⟩ (.bool true)) (.cells #[.int .i64 kk, .int .i64 0, .int .i64 0, .int .i64 0, .bool false, .string (bsOf tx)] 62)
                  rw [show (w3.setCell ⟨b, 3, none⟩ (.bool true)).heap.size = w3.heap.size by simp [World.setCell]] at h8
                  exact h8
                generalize (w3.setCell ⟨b, 3, none⟩ (.bool true)).alloc (.cells #[.int .i64 kk, .int .i64 0, .int .i64 0, .int .i64 0, .bool false, .string (bsOf tx)] 62) = W9 at hto9 ht8 ⊢
                have t0 := cell_blk ht8 0
                have t1 := cell_blk ht8 1
                have t2 := cell_blk ht8 2
                have t3 := cell_blk ht8 3
                have t4 := cell_blk ht8 4
                have t5 := cell_blk ht8 5
                clear ht8 hc3 hf3
                have hres := hto9.res hlt
                have r0 := cell_blk hres 0
                have r1 := cell_blk hres 1
                have r2 := cell_blk hres 2
                have r3 := cell_blk hres 3
                have r4 := cell_blk hres 4
                have r5 := cell_blk hres 5
                have g0 := frozen_blk hres 0
                have g1 := frozen_blk hres 1
                have g2 := frozen_blk hres 2
                have g3 := frozen_blk hres 3
                have g4 := frozen_blk hres 4
                have g5 := frozen_blk hres 5
                clear hres
                go_wp2_with fail
                refine bodyPost_ret (v := tkV kk 0 false tx) (by simp [results, Tryz.results70, go_sem, tkV, bsOf, r0, r1, r2, r3, r4, r5]) rfl ?_
                refine ⟨by rw [HF.out]; show _ = Ending.returned (tkV kk 0 false (enc (url D).2.1)); rw [HTX.out], ?_⟩
                rw [HF.out]
                show To b s (url D).2.2.2 cv (op || ((name ds).2.1 || (url D).2.2.1 || decide (ds.length - R.length ≠ 3) || !trimmedB tx)) _ _
                rw [HPL.out, HV.out]
                exact hto9.store6 hlt _ _ _ _ _ _
              · rw [h3] at hc3
                go_upto_region 15 with ((go_at_call 96; go_must (refine (trimmed_any _ HSZ.out _).mono ?_; rintro e w1 ⟨rfl, rfl⟩; rw [HTR.out, HTT.out])))
                have hto9 := (hto3.open_ false).alloc (.cells #[.int .i64 kk, .int .i64 0, .int .i64 0, .int .i64 0, .bool false, .string (bsOf tx)] 62)
                have ht8 : ((w3.setCell ⟨b, 3, none⟩ (.bool false)).alloc (.cells #[.int .i64 kk, .int .i64 0, .int .i64 0, .int .i64 0, .bool false, .string (bsOf tx)] 62)).heap[w3.heap.size]? = some (.cells #[.int .i64 kk, .int .i64 0, .int .i64 0, .int .i64 0, .bool false, .string (bsOf tx)] 62 (0, 0)) := by
                  have h8 := heap_alloc_new (w3.setCell ⟨b, 3, none⟩ (.bool false)) (.cells #[.int .i64 kk, .int .i64 0, .int .i64 0, .int .i64 0, .bool false, .string (bsOf tx)] 62)
                  rw [show (w3.setCell ⟨b, 3, none⟩ (.bool false)).heap.size = w3.heap.size by simp [World.setCell]] at h8
                  exact h8
                generalize (w3.setCell ⟨b, 3, none⟩ (.bool false)).alloc (.cells #[.int .i64 kk, .int .i64 0, .int .i64 0, .int .i64 0, .bool false, .string (bsOf tx)] 62) = W9 at hto9 ht8 ⊢
                have t0 := cell_blk ht8 0
                have t1 := cell_blk ht8 1
                have t2 := cell_blk ht8 2
                have t3 := cell_blk ht8 3
                have t4 := cell_blk ht8 4
                have t5 := cell_blk ht8 5
                clear ht8 hc3 hf3
                have hres := hto9.res hlt
                have r0 := cell_blk hres 0
                have r1 := cell_blk hres 1
                have r2 := cell_blk hres 2
                have r3 := cell_blk hres 3
                have r4 := cell_blk hres 4
                have r5 := cell_blk hres 5
                have g0 := frozen_blk hres 0
                have g1 := frozen_blk hres 1
                have g2 := frozen_blk hres 2
                have g3 := frozen_blk hres 3
                have g4 := frozen_blk hres 4
                have g5 := frozen_blk hres 5
                clear hres
                go_wp2_with fail
                refine bodyPost_ret (v := tkV kk 0 false tx) (by simp [results, Tryz.results70, go_sem, tkV, bsOf, r0, r1, r2, r3, r4, r5]) rfl ?_
                refine ⟨by rw [HF.out]; show _ = Ending.returned (tkV kk 0 false (enc (url D).2.1)); rw [HTX.out], ?_⟩
                rw [HF.out]
                show To b s (url D).2.2.2 cv (op || ((name ds).2.1 || (url D).2.2.1 || decide (ds.length - R.length ≠ 3) || !trimmedB tx)) _ _
                rw [HPL.out, HV.out]
                exact hto9.store6 hlt _ _ _ _ _ _
              · rw [h3] at hc3
                go_upto_region 15 with ((go_at_call 96; go_must (refine (trimmed_any _ HSZ.out _).mono ?_; rintro e w1 ⟨rfl, rfl⟩; rw [HTR.out, HTT.out])))
                have hto9 := (hto3.open_ true).alloc (.cells #[.int .i64 kk, .int .i64 0, .int .i64 0, .int .i64 0, .bool false, .string (bsOf tx)] 62)
                have ht8 : ((w3.setCell ⟨b, 3, none⟩ (.bool true)).alloc (.cells #[.int .i64 kk, .int .i64 0, .int .i64 0, .int .i64 0, .bool false, .string (bsOf tx)] 62)).heap[w3.heap.size]? = some (.cells #[.int .i64 kk, .int .i64 0, .int .i64 0, .int .i64 0, .bool false, .string (bsOf tx)] 62 (0, 0)) := by
                  have h8 := heap_alloc_new (w3.setCell ⟨b, 3, none⟩ (.bool true)) (.cells #[.int .i64 kk, .int .i64 0, .int .i64 0, .int .i64 0, .bool false, .string (bsOf tx)] 62)
                  rw [show (w3.setCell ⟨b, 3, none⟩ (.bool true)).heap.size = w3.heap.size by simp [World.setCell]] at h8
                  exact h8
                generalize (w3.setCell ⟨b, 3, none⟩ (.bool true)).alloc (.cells #[.int .i64 kk, .int .i64 0, .int .i64 0, .int .i64 0, .bool false, .string (bsOf tx)] 62) = W9 at hto9 ht8 ⊢
                have t0 := cell_blk ht8 0
                have t1 := cell_blk ht8 1
                have t2 := cell_blk ht8 2
                have t3 := cell_blk ht8 3
                have t4 := cell_blk ht8 4
                have t5 := cell_blk ht8 5
                clear ht8 hc3 hf3
                have hres := hto9.res hlt
                have r0 := cell_blk hres 0
                have r1 := cell_blk hres 1
                have r2 := cell_blk hres 2
                have r3 := cell_blk hres 3
                have r4 := cell_blk hres 4
                have r5 := cell_blk hres 5
                have g0 := frozen_blk hres 0
                have g1 := frozen_blk hres 1
                have g2 := frozen_blk hres 2
                have g3 := frozen_blk hres 3
                have g4 := frozen_blk hres 4
                have g5 := frozen_blk hres 5
                clear hres
                go_wp2_with fail
                refine bodyPost_ret (v := tkV kk 0 false tx) (by simp [results, Tryz.results70, go_sem, tkV, bsOf, r0, r1, r2, r3, r4, r5]) rfl ?_
                refine ⟨by rw [HF.out]; show _ = Ending.returned (tkV kk 0 false (enc (url D).2.1)); rw [HTX.out], ?_⟩
                rw [HF.out]
                show To b s (url D).2.2.2 cv (op || ((name ds).2.1 || (url D).2.2.1 || decide (ds.length - R.length ≠ 3) || !trimmedB tx)) _ _
                rw [HPL.out, HV.out]
                exact hto9.store6 hlt _ _ _ _ _ _
            · have m1 : (pk D 0 != 34) = true := by simpa using q1
              have m2 : (pk D 0 != 39) = false := by simpa using q2
              have HF : Hid (named ds = (⟨27, 0, N⟩, (name ds).2.1, R.tail)) := by
                show _ = _; rw [HK.out, if_neg]; rintro ⟨_, h1, h2⟩; rw [← HN.out] at h1 h2; have h3 := q2; simp at h3; first | exact h1 h3 | exact h2 h3
              have hto9 : To b s R.tail cv op1 (w0.alloc (.cells #[.int .i64 0, .int .i64 0, .int .i64 0, .int .i64 0, .bool false, .string ⟨#[]⟩] 62)) (wr.setCell ⟨b, 1, none⟩ (.int .i64 (pos s R.tail : Nat))) := ⟨hto.lx.setAt HT2.out.lx.suf rfl, hto.lk.set_ _ _⟩
              have hc1 := hto.lx.c1
              have hf1 := hto.lx.f 1
              have hres := hto.res hlt
              have r0 := cell_blk hres 0
              have r1 := cell_blk hres 1
              have r2 := cell_blk hres 2
              have r3 := cell_blk hres 3
              have r4 := cell_blk hres 4
              have r5 := cell_blk hres 5
              have g0 := frozen_blk hres 0
              have g1 := frozen_blk hres 1
              have g2 := frozen_blk hres 2
              have g3 := frozen_blk hres 3
              have g4 := frozen_blk hres 4
              have g5 := frozen_blk hres 5
              clear hres
              go_wp2_with (first | (go_at_call 59; go_must ((first | (with_reducible refine (peekT0 (by assumption)).mono ?_) | (with_reducible refine (peekT1 (by assumption)).mono ?_) | (with_reducible refine (peekT2 (by assumption)).mono ?_)); rintro e w1 ⟨rfl, rfl⟩)) | (go_at_call 64; go_must (refine (sp_any _ _).mono ?_; rintro e w1 ⟨rfl, rfl⟩; rw [N0.out])))
              refine bodyPost_ret (v := tkV 27 0 false (enc N)) (by simp [results, Tryz.results70, go_sem, tkV, bsOf, r0, r1, r2, r3, r4, r5]) rfl ?_
              refine ⟨by rw [HF.out], ?_⟩
              rw [HF.out]
              show To b s R.tail cv (op || (name ds).2.1) _ _
              rw [HO1.out]
              exact hto9.store6 hlt _ _ _ _ _ _
          · have m1 : (pk D 0 != 34) = false := by simpa using q1
            have HF : Hid (named ds = (⟨27, 0, N⟩, (name ds).2.1, R.tail)) := by
              show _ = _; rw [HK.out, if_neg]; rintro ⟨_, h1, h2⟩; rw [← HN.out] at h1 h2; have h3 := q1; simp at h3; first | exact h1 h3 | exact h2 h3
            have hto9 : To b s R.tail cv op1 (w0.alloc (.cells #[.int .i64 0, .int .i64 0, .int .i64 0, .int .i64 0, .bool false, .string ⟨#[]⟩] 62)) (wr.setCell ⟨b, 1, none⟩ (.int .i64 (pos s R.tail : Nat))) := ⟨hto.lx.setAt HT2.out.lx.suf rfl, hto.lk.set_ _ _⟩
            have hc1 := hto.lx.c1
            have hf1 := hto.lx.f 1
            have hres := hto.res hlt
            have r0 := cell_blk hres 0
            have r1 := cell_blk hres 1
            have r2 := cell_blk hres 2
            have r3 := cell_blk hres 3
            have r4 := cell_blk hres 4
            have r5 := cell_blk hres 5
            have g0 := frozen_blk hres 0
            have g1 := frozen_blk hres 1
            have g2 := frozen_blk hres 2
            have g3 := frozen_blk hres 3
            have g4 := frozen_blk hres 4
            have g5 := frozen_blk hres 5
            clear hres
            go_wp2_with (first | (go_at_call 59; go_must ((first | (with_reducible refine (peekT0 (by assumption)).mono ?_) | (with_reducible refine (peekT1 (by assumption)).mono ?_) | (with_reducible refine (peekT2 (by assumption)).mono ?_)); rintro e w1 ⟨rfl, rfl⟩)) | (go_at_call 64; go_must (refine (sp_any _ _).mono ?_; rintro e w1 ⟨rfl, rfl⟩; rw [N0.out])))
            refine bodyPost_ret (v := tkV 27 0 false (enc N)) (by simp [results, Tryz.results70, go_sem, tkV, bsOf, r0, r1, r2, r3, r4, r5]) rfl ?_
            refine ⟨by rw [HF.out], ?_⟩
            rw [HF.out]
            show To b s R.tail cv (op || (name ds).2.1) _ _
            rw [HO1.out]
            exact hto9.store6 hlt _ _ _ _ _ _
        · have hx := spQ_iff.1 hd
          have N0 := Lib.hid hd
          have HLT : Hid (D.tail.length < D.length) := pk_lt (by intro h0; rw [h0] at hx; revert hx; decide)
          have HN : Hid (spaces D.tail = spaces R.tail) := by
            show _ = _
            rw [← HD.out]
            cases D with
            | nil => rfl
            | cons c t => rw [spaces, if_pos (by simpa using hx)]; rfl
          clear hx hd
          go_wp2_with (first | (go_at_call 59; go_must ((first | (with_reducible refine (peekT0 (by assumption)).mono ?_) | (with_reducible refine (peekT1 (by assumption)).mono ?_) | (with_reducible refine (peekT2 (by assumption)).mono ?_)); rintro e w1 ⟨rfl, rfl⟩)) | (go_at_call 64; go_must (refine (sp_any _ _).mono ?_; rintro e w1 ⟨rfl, rfl⟩; rw [N0.out])))
          refine (takeT (by assumption)).mono ?_
          rintro e w3 ⟨rfl, hto3⟩
          go_wp2_with fail
          go_roundg D.tail.length
          case measure => have := HLT.out; omega
          case rel => exact ⟨D.tail, rfl, HN.out, hto3⟩
end
end Go.Proofs.YtkfdcbdlcipmfaaGreatFmt
