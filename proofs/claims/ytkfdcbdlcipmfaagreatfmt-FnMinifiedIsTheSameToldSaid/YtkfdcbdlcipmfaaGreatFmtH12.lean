/- Walks: the reference's decoding of one code point, all of it. -/
import Derived.Test.YtkfdcbdlcipmfaaGreatFmtH11
set_option linter.unusedVariables false
set_option linter.unusedSimpArgs false
namespace Go.Proofs.YtkfdcbdlcipmfaaGreatFmt
open Go.RowKit Css
set_option maxHeartbeats 400000 in
set_option maxRecDepth 100000 in
theorem r0 (s : ByteArray) (p : Nat) (hs : (s.size : Int) ≤ 140737488355328) (hp : (s.size : Int) ≤ (p : Int)) (w : World) : Calls Tryz.prog 52 #[.string s, .int .i64 p] w (RetR (-1, 0) w) := by
  go_enter Tryz.func52, Tryz.ntmps52
  go_wp2
  go_ret2
  exact RetR.mk' ⟨rfl, rfl⟩
set_option maxHeartbeats 400000 in
set_option maxRecDepth 100000 in
theorem r1 (s : ByteArray) (p : Nat) (hs : (s.size : Int) ≤ 140737488355328) (hp : (p : Int) < (s.size : Int)) (h : bt s p < 128) (w : World) : Calls Tryz.prog 52 #[.string s, .int .i64 p] w (RetR (bt s p, 1) w) := by
  have b0 := bt_get s p
  have r0 := bt_range s p
  generalize bt s p = x0 at *
  go_enter Tryz.func52, Tryz.ntmps52
  go_wp2
  go_ret2
  exact RetR.mk' ⟨rfl, rfl⟩
set_option maxHeartbeats 400000 in
set_option maxRecDepth 100000 in
theorem r1b (s : ByteArray) (p : Nat) (hs : (s.size : Int) ≤ 140737488355328) (hp : (p : Int) < (s.size : Int)) (h : 128 ≤ bt s p) (h2 : bt s p < 194 ∨ 245 ≤ bt s p) (w : World) : Calls Tryz.prog 52 #[.string s, .int .i64 p] w (RetR (-2, 1) w) := by
  have b0 := bt_get s p
  have r0 := bt_range s p
  generalize bt s p = x0 at *
  rcases h2 with h2 | h2
  all_goals
    go_enter Tryz.func52, Tryz.ntmps52
    go_wp2
    go_ret2
    exact RetR.mk' ⟨rfl, rfl⟩
theorem rune_any (s : ByteArray) (p : Nat) (hs : (s.size : Int) ≤ 140737488355328) (w : World) : Calls Tryz.prog 52 #[.string s, .int .i64 p] w (RetR (runeQ s p) w) := by
  by_cases hp : s.size ≤ p
  · rw [runeQ_end s p hp]; exact r0 s p hs (by omega) w
  have hp2 : p < s.size := by omega
  have hpi : (p : Int) < (s.size : Int) := by omega
  have hr := bt_range s p
  by_cases h1 : bt s p < 128
  · rw [runeQ_low s p hp2 h1]; exact r1 s p hs hpi h1 w
  by_cases h2 : bt s p < 194 ∨ 245 ≤ bt s p
  · rw [runeQ_bad s p hp2 (by omega) h2]; exact r1b s p hs hpi (by omega) h2 w
  have q1 := bt_range s (p + 1)
  have q2 := bt_range s (p + 2)
  have q3 := bt_range s (p + 3)
  by_cases c2 : bt s p < 224
  · rw [runeQ_2 s p hp2 (by omega) c2]
    by_cases e1 : p + 1 < s.size
    · by_cases g1 : bt s (p + 1) / 64 = 2
      · rw [if_pos ⟨e1, g1⟩]
        unfold chk
        rw [if_neg (by omega)]
        exact r2c s p hs hpi (by omega) c2 (by omega) g1 (by omega) (by omega) (by omega) w
      · rw [if_neg (by omega)]
        exact r2b s p hs hpi (by omega) c2 (by omega) g1 w
    · rw [if_neg (by omega)]
      exact r2a s p hs hpi (by omega) c2 (by omega) w
  by_cases c3 : bt s p < 240
  · rw [runeQ_3 s p hp2 (by omega) c3]
    by_cases e1 : p + 1 < s.size
    · by_cases g1 : bt s (p + 1) / 64 = 2
      · by_cases e2 : p + 2 < s.size
        · by_cases g2 : bt s (p + 2) / 64 = 2
          · rw [if_pos ⟨⟨e1, g1⟩, e2, g2⟩]
            unfold chk
            by_cases k1 : ((bt s p % 16) * 64 + bt s (p + 1) % 64) * 64 + bt s (p + 2) % 64 < 2048
            · rw [if_pos (by omega)]
              exact r3e s p hs hpi (by omega) c3 (by omega) g1 (by omega) g2 k1 w
            · by_cases k2 : 55296 ≤ ((bt s p % 16) * 64 + bt s (p + 1) % 64) * 64 + bt s (p + 2) % 64 ∧ ((bt s p % 16) * 64 + bt s (p + 1) % 64) * 64 + bt s (p + 2) % 64 < 57344
              · rw [if_pos (by omega)]
                exact r3f s p hs hpi (by omega) c3 (by omega) g1 (by omega) g2 k2.1 k2.2 w
              · rw [if_neg (by omega)]
                exact r3g s p hs hpi (by omega) c3 (by omega) g1 (by omega) g2 (by omega) (by omega) (by omega) w
          · rw [if_neg (by omega)]
            exact r3d s p hs hpi (by omega) c3 (by omega) g1 (by omega) g2 w
        · rw [if_neg (by omega)]
          exact r3c s p hs hpi (by omega) c3 (by omega) g1 (by omega) w
      · rw [if_neg (by omega)]
        exact r3b s p hs hpi (by omega) c3 (by omega) g1 w
    · rw [if_neg (by omega)]
      exact r3a s p hs hpi (by omega) c3 (by omega) w
  rw [runeQ_4 s p hp2 (by omega) (by omega)]
  by_cases e1 : p + 1 < s.size
  · by_cases g1 : bt s (p + 1) / 64 = 2
    · by_cases e2 : p + 2 < s.size
      · by_cases g2 : bt s (p + 2) / 64 = 2
        · by_cases e3 : p + 3 < s.size
          · by_cases g3 : bt s (p + 3) / 64 = 2
            · rw [if_pos ⟨⟨e1, g1⟩, ⟨e2, g2⟩, e3, g3⟩]
              unfold chk
              by_cases k1 : (((bt s p % 8) * 64 + bt s (p + 1) % 64) * 64 + bt s (p + 2) % 64) * 64 + bt s (p + 3) % 64 < 65536
              · rw [if_pos (by omega)]
                exact r4g s p hs hpi (by omega) (by omega) (by omega) g1 (by omega) g2 (by omega) g3 k1 w
              · by_cases k2 : 1114111 < (((bt s p % 8) * 64 + bt s (p + 1) % 64) * 64 + bt s (p + 2) % 64) * 64 + bt s (p + 3) % 64
                · rw [if_pos (by omega)]
                  exact r4h s p hs hpi (by omega) (by omega) (by omega) g1 (by omega) g2 (by omega) g3 k2 w
                · rw [if_neg (by omega)]
                  exact r4i s p hs hpi (by omega) (by omega) (by omega) g1 (by omega) g2 (by omega) g3 (by omega) (by omega) (by omega) w
            · rw [if_neg (by omega)]
              exact r4f s p hs hpi (by omega) (by omega) (by omega) g1 (by omega) g2 (by omega) g3 w
          · rw [if_neg (by omega)]
            exact r4e s p hs hpi (by omega) (by omega) (by omega) g1 (by omega) g2 (by omega) w
        · rw [if_neg (by omega)]
          exact r4d s p hs hpi (by omega) (by omega) (by omega) g1 (by omega) g2 w
      · rw [if_neg (by omega)]
        exact r4c s p hs hpi (by omega) (by omega) (by omega) g1 (by omega) w
    · rw [if_neg (by omega)]
      exact r4b s p hs hpi (by omega) (by omega) (by omega) g1 w
  · rw [if_neg (by omega)]
    exact r4a s p hs hpi (by omega) (by omega) (by omega) w
end Go.Proofs.YtkfdcbdlcipmfaaGreatFmt
namespace Go.Proofs.YtkfdcbdlcipmfaaGreatFmt
open Go.RowKit Css
structure Lk (b : Nat) (w w' : World) : Prop where
  os : w'.os = w.os
  tape : w'.tape = w.tape
  output : w'.output = w.output
  size : w.heap.size ≤ w'.heap.size
  block : ∀ i, i < w.heap.size → i ≠ b → w'.heap[i]? = w.heap[i]?
theorem Lk.refl (b : Nat) (w : World) : Lk b w w := ⟨rfl, rfl, rfl, Nat.le_refl _, fun _ _ _ => rfl⟩
theorem Lk.trans {b : Nat} {u v w : World} (h : Lk b u v) (k : Lk b v w) : Lk b u w :=
  ⟨k.os.trans h.os, k.tape.trans h.tape, k.output.trans h.output, Nat.le_trans h.size k.size, fun i hi hb => (k.block i (Nat.lt_of_lt_of_le hi h.size) hb).trans (h.block i hi hb)⟩
theorem Lk.drew {b : Nat} {a w : World} (h : Lk b a w) : Lk b a w.drew := ⟨h.os, h.tape, h.output, h.size, h.block⟩
theorem Lk.drewN {b : Nat} {a w : World} (h : Lk b a w) (n : Nat) : Lk b a (w.drewN n) := ⟨h.os, h.tape, h.output, h.size, h.block⟩
theorem Lk.set_ {b : Nat} {a w : World} (h : Lk b a w) (o : Nat) (u : Value) : Lk b a (w.setCell ⟨b, o, none⟩ u) :=
  h.trans ⟨rfl, rfl, rfl, by simp [World.setCell], fun i hi hb => Below.heap_setCell _ _ _ _ (by simpa using hb)⟩
theorem Lk.of_below {b : Nat} {w w' : World} (h : Below w.heap.size w w') : Lk b w w' := ⟨h.os, h.tape, h.output, h.size, fun i hi _ => h.block i hi⟩
theorem Lk.below {b B : Nat} {a w w' : World} (h : Lk b w w') (hb : B ≤ b) (ha : Below B a w) (hB : B ≤ w.heap.size) : Below B a w' :=
  ha.trans ⟨h.os, h.tape, h.output, h.size, fun i hi => h.block i (by omega) (by omega)⟩
structure LX (b : Nat) (s : ByteArray) (ds : List Int) (cv : Value) (op : Bool) (w : World) : Prop where
  blk : ∃ T, w.heap[b]? = some (.cells #[.string s, .int .i64 (pos s ds : Nat), cv, .bool op] T (0, 0))
  suf : Suf s ds
  small : (s.size : Int) ≤ 140737488355328
section
variable {b : Nat} {s : ByteArray} {ds : List Int} {cv : Value} {op : Bool} {w w' : World}
theorem cell_blk {b : Nat} {cs : Array Value} {T : TypeId} (h : w.heap[b]? = some (.cells cs T (0, 0))) (i : Nat) : w.cell? ⟨b, i, none⟩ = cs[i]? := cell_of_row w b i cs T (0, 0) h
theorem frozen_blk {b : Nat} {cs : Array Value} {T : TypeId} (h : w.heap[b]? = some (.cells cs T (0, 0))) (i : Nat) : w.frozen? ⟨b, i, none⟩ = false := by simp [World.frozen?, h]
theorem LX.c0 (h : LX b s ds cv op w) : w.cell? ⟨b, 0, none⟩ = some (.string s) := by obtain ⟨T, hb⟩ := h.blk; exact cell_blk hb 0
theorem LX.c1 (h : LX b s ds cv op w) : w.cell? ⟨b, 1, none⟩ = some (.int .i64 (pos s ds : Nat)) := by obtain ⟨T, hb⟩ := h.blk; exact cell_blk hb 1
theorem LX.c2 (h : LX b s ds cv op w) : w.cell? ⟨b, 2, none⟩ = some cv := by obtain ⟨T, hb⟩ := h.blk; exact cell_blk hb 2
theorem LX.c3 (h : LX b s ds cv op w) : w.cell? ⟨b, 3, none⟩ = some (.bool op) := by obtain ⟨T, hb⟩ := h.blk; exact cell_blk hb 3
theorem LX.f (h : LX b s ds cv op w) (i : Nat) : w.frozen? ⟨b, i, none⟩ = false := by obtain ⟨T, hb⟩ := h.blk; exact frozen_blk hb i
theorem LX.lt (h : LX b s ds cv op w) : b < w.heap.size := World.block_lt_of_cell? w _ h.c0
theorem LX.same (h : LX b s ds cv op w) (hb : w'.heap[b]? = w.heap[b]?) : LX b s ds cv op w' := ⟨by obtain ⟨T, e⟩ := h.blk; exact ⟨T, hb.trans e⟩, h.suf, h.small⟩
theorem LX.below (h : LX b s ds cv op w) (hb : Below w.heap.size w w') : LX b s ds cv op w' := h.same (hb.block b h.lt)
theorem LX.drew (h : LX b s ds cv op w) : LX b s ds cv op w.drew := ⟨h.blk, h.suf, h.small⟩
theorem LX.drewN (h : LX b s ds cv op w) (n : Nat) : LX b s ds cv op (w.drewN n) := ⟨h.blk, h.suf, h.small⟩
theorem LX.alloc (h : LX b s ds cv op w) (o : Obj) : LX b s ds cv op (w.alloc o) := h.below ((Below.refl _ _).alloc (Nat.le_refl _) o)
theorem heap_set_same {b : Nat} {cs : Array Value} {T : TypeId} (h : w.heap[b]? = some (.cells cs T (0, 0))) (i : Nat) (u : Value) : (w.setCell ⟨b, i, none⟩ u).heap[b]? = some (.cells (cs.setIfInBounds i u) T (0, 0)) := by
  simp [World.setCell, Array.getElem?_modify, h]
theorem LX.setAt (h : LX b s ds cv op w) {ds' : List Int} (hs : Suf s ds') {v : Value} (hv : v = .int .i64 (pos s ds' : Nat)) : LX b s ds' cv op (w.setCell ⟨b, 1, none⟩ v) := by
  obtain ⟨T, hb⟩ := h.blk
  subst hv
  exact ⟨⟨T, heap_set_same hb 1 _⟩, hs, h.small⟩
theorem LX.setOpen (h : LX b s ds cv op w) (op' : Bool) : LX b s ds cv op' (w.setCell ⟨b, 3, none⟩ (.bool op')) := by
  obtain ⟨T, hb⟩ := h.blk
  exact ⟨⟨T, heap_set_same hb 3 _⟩, h.suf, h.small⟩
theorem LX.setCom (h : LX b s ds cv op w) (cv' : Value) : LX b s ds cv' op (w.setCell ⟨b, 2, none⟩ cv') := by
  obtain ⟨T, hb⟩ := h.blk
  exact ⟨⟨T, heap_set_same hb 2 _⟩, h.suf, h.small⟩
end
theorem suf_drop {s : ByteArray} {ds : List Int} (h : Suf s ds) (k : Nat) : Suf s (ds.drop k) := by
  induction k generalizing ds with
  | zero => exact h
  | succ k ih =>
    have := ih h.tail
    cases ds with
    | nil => simpa using this
    | cons c t => simpa using this
theorem rune_suf {s : ByteArray} {ds : List Int} (h : Suf s ds) : (runeQ s (pos s ds)).1 = pk ds 0 ∧ pos s ds + (runeQ s (pos s ds)).2 = pos s ds.tail := ⟨h.rune.1, h.rune.2.symm⟩
theorem quiet_eq {P : Program} {f : FuncId} {args : Array Value} {w : World} {n : Nat} {v : Value}
    (h : Calls P f args (w.drewN n) fun e w' => e = .returned v ∧ w.drewN n = w') : Calls P f args (w.drewN n) fun e w'' => e = .returned v ∧ ∃ m, w'' = w.drewN m :=
  h.mono fun _ _ ⟨he, hm⟩ => ⟨he, n, hm.symm⟩
structure To (b : Nat) (s : ByteArray) (ds : List Int) (cv : Value) (op : Bool) (w w' : World) : Prop where
  lx : LX b s ds cv op w'
  lk : Lk b w w'
set_option maxHeartbeats 800000 in
set_option maxRecDepth 100000 in
theorem take_any {b : Nat} {s : ByteArray} {ds : List Int} {cv : Value} {op : Bool} {w : World} (h : LX b s ds cv op w) :
    Calls Tryz.prog 61 #[.pointer (some ⟨b, 0, none⟩)] w fun e w' => e = .returned (.int .i64 (pk ds 0)) ∧ To b s ds.tail cv op w w' := by
  have HL := Lib.hid h
  have hc0 := h.c0
  have hc1 := h.c1
  have hf1 := h.f 1
  obtain ⟨e1, e2⟩ := rune_suf h.suf
  have E1 := Lib.hid e1
  have E2 := Lib.hid e2
  have hp1 : ((runeQ s (pos s ds)).2 : Int) ≤ 140737488355328 := by have := @pos_le s ds.tail; have := h.small; omega
  have hp2 : (pos s ds : Int) ≤ 140737488355328 := by have := @pos_le s ds; have := h.small; omega
  clear h e1 e2
  go_enter Tryz.func61, Tryz.ntmps61
  go_wp2_with fail
  go_quiet ((go_at_call 52; exact quiet_eq (rune_any _ _ HL.out.small _)))
  go_wp2
  go_ret
  refine ⟨by rw [← E1.out]; rfl, (HL.out.drewN _).setAt HL.out.suf.tail ?_, ((Lk.refl b w).drewN _).set_ _ _⟩
  rw [← E2.out]; rfl
set_option maxHeartbeats 800000 in
set_option maxRecDepth 100000 in
theorem peek_any {b : Nat} {s : ByteArray} {ds : List Int} {cv : Value} {op : Bool} {w : World} (h : LX b s ds cv op w) (k : Nat) (hk : (k : Int) ≤ 3) :
    Calls Tryz.prog 59 #[.pointer (some ⟨b, 0, none⟩), .int .i64 k] w (RetI (pk ds k) w) := by
  have HL := Lib.hid h
  have hc0 := h.c0
  have hc1 := h.c1
  clear h
  go_enter Tryz.func59, Tryz.ntmps59
  go_wp2_with fail
  go_loop [5, 15] (fun p5 p15 => ∃ j : Nat, (j : Int) ≤ (k : Int) ∧ p15 = .int .i64 j ∧ p5 = .int .i64 (pos s (ds.drop j) : Nat)) (fun _ p15 => k - (intOf p15).toNat)
  case atStart => exact ⟨0, by omega, rfl, rfl⟩
  case round =>
    obtain ⟨j, hj, rfl, rfl⟩ := hrel
    obtain ⟨e1, e2⟩ := rune_suf (suf_drop HL.out.suf j)
    have E1 := Lib.hid e1
    have E2 := Lib.hid e2
    have hp1 : ((runeQ s (pos s (ds.drop j))).2 : Int) ≤ 140737488355328 := by have := @pos_le s (ds.drop j).tail; have := HL.out.small; omega
    have hp2 : (pos s (ds.drop j) : Int) ≤ 140737488355328 := by have := @pos_le s (ds.drop j); have := HL.out.small; omega
    clear e1 e2
    by_cases hlt : (j : Int) < (k : Int)
    · go_wp2_with (go_at_call 52; go_must (refine (rune_any _ _ HL.out.small _).mono ?_; rintro e w' ⟨rfl, rfl⟩))
      go_round
      case rel =>
        refine ⟨j + 1, by omega, by go_num, ?_⟩
        have e : ds.drop (j + 1) = (ds.drop j).tail := by rw [List.tail_drop]
        rw [e, ← E2.out]; go_num
      case measure => simp [intOf]; omega
    · have hjk : j = k := by omega
      subst hjk
      go_wp2_with (go_at_call 52; go_must (refine (rune_any _ _ HL.out.small _).mono ?_; rintro e w' ⟨rfl, rfl⟩))
      go_ret
      refine RetI.mk' ?_
      rw [E1.out]; unfold pk; simp [List.getD_eq_getElem?_getD]
end Go.Proofs.YtkfdcbdlcipmfaaGreatFmt
