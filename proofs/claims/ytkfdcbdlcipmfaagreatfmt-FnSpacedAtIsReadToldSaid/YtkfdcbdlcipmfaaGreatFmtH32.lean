/- Walks: the reference's lexer: the next token, all of it. -/
import Derived.Test.YtkfdcbdlcipmfaaGreatFmtH31
import Derived.Test.YtkfdcbdlcipmfaaGreatFmtH07
import Derived.Laws.IdiomStrings
import Derived.Deep.Light
set_option linter.unusedVariables false
set_option linter.unusedSimpArgs false
namespace Go.Proofs.YtkfdcbdlcipmfaaGreatFmt
open Go.RowKit Css
section
variable {b : Nat} {s : ByteArray} {ds : List Int} {cv : Value} {op : Bool} {w0 w : World}
theorem bf {a c : Int} (h : a ≠ c) : (a == c) = false := by simpa using h
theorem bt' {a c : Int} (h : a = c) : (a == c) = true := by simpa using h
theorem qf {p : Prop} [Decidable p] (h : ¬ p) : decide p = false := by simpa using h
theorem qt {p : Prop} [Decidable p] (h : p) : decide p = true := by simpa using h
theorem co_first {a b c : Int} (h : counts a b c) : a ≠ 35 ∧ a ≠ 60 ∧ a ≠ 64 := by
  have := counts_first h; unfold isDg at this; omega
theorem id_first {a b c : Int} (h : ident3 a b c) : a ≠ 35 ∧ a ≠ 60 ∧ a ≠ 64 := by
  unfold ident3 starts esc at h; omega
theorem next_any (h : LX b s ds cv op w) : Calls Tryz.prog 54 #[.pointer (some ⟨b, 0, none⟩)] w (NxR b s ds cv op w) := by
  by_cases c1 : pk ds 0 = -1
  · exact nx1 h (bt' c1) (by show _ = _; unfold next; rw [if_pos c1])
  by_cases c2 : isSp (pk ds 0)
  · exact nx2 h (bf c1) (qt c2) (by show _ = _; unfold next; rw [if_neg c1, if_pos c2])
  by_cases c3 : pk ds 0 = 34 ∨ pk ds 0 = 39
  · have hn : Hid (next ds = (⟨(quotedRun (pk ds 0) ds.tail).1, 0, (quotedRun (pk ds 0) ds.tail).2.1⟩, (quotedRun (pk ds 0) ds.tail).2.2.1, (quotedRun (pk ds 0) ds.tail).2.2.2)) := by
      show _ = _; unfold next; rw [if_neg c1, if_neg c2, if_pos c3]
    by_cases d : pk ds 0 = 34
    · exact nx3_34 h (bf c1) (bt' d) (qf c2) c3 hn
    · exact nx3_39 h (bf c1) (bf d) (bt' (by omega)) (qf c2) c3 hn
  have a34 : pk ds 0 ≠ 34 := by omega
  have a39 : pk ds 0 ≠ 39 := by omega
  by_cases c4 : pk ds 0 = 35 ∧ (cont (pk ds 1) ∨ esc (pk ds 1) (pk ds 2))
  · have hn : Hid (next ds = (⟨28, 0, (name ds.tail).1⟩, (name ds.tail).2.1, (name ds.tail).2.2)) := by
      show _ = _; unfold next; rw [if_neg c1, if_neg c2, if_neg c3, if_pos c4]
    by_cases d : cont (pk ds 1)
    · exact nx4a h (bf c1) (bf a34) (bf a39) (bt' c4.1) (qf c2) (qt d) hn
    · exact nx4b h (bf c1) (bf a34) (bf a39) (bt' c4.1) (qf c2) (qf d) (qt (c4.2.resolve_left d)) hn
  by_cases c5 : counts (pk ds 0) (pk ds 1) (pk ds 2)
  · have hn : Hid (next ds = (⟨(numeric ds).1.kind, (numeric ds).1.unit, []⟩, (numeric ds).2.1, (numeric ds).2.2)) := by
      show _ = _; unfold next; rw [if_neg c1, if_neg c2, if_neg c3, if_neg c4, if_pos c5]
      have := numeric_text ds
      rw [← this]
    exact nx5 h (bf c1) (bf a34) (bf a39) (bf (co_first c5).1) (qf c2) (qt c5) hn
  by_cases c6 : pk ds 0 = 45 ∧ pk ds 1 = 45 ∧ pk ds 2 = 62
  · have hn : Hid (next ds = (⟨4, 0, []⟩, false, ds.tail.tail.tail)) := by
      show _ = _; unfold next; rw [if_neg c1, if_neg c2, if_neg c3, if_neg c4, if_neg c5, if_pos c6]
    exact nx6 h (bf c1) (bf a34) (bf a39) (bf (by omega)) (bt' c6.1) (bt' c6.2.1) (bt' c6.2.2) (qf c2) (qf c5) hn
  by_cases c7 : ident3 (pk ds 0) (pk ds 1) (pk ds 2)
  · have hn : Hid (next ds = (⟨(named ds).1.kind, 0, (named ds).1.text⟩, (named ds).2.1, (named ds).2.2)) := by
      show _ = _; unfold next; rw [if_neg c1, if_neg c2, if_neg c3, if_neg c4, if_neg c5, if_neg c6, if_pos c7]
      have := named_unit ds
      rw [← this]
    have a35 := (id_first c7).1
    by_cases d : pk ds 0 = 45
    · by_cases d2 : pk ds 1 = 45
      · exact nx7c h (bf c1) (bf a34) (bf a39) (bf a35) (bt' d) (bt' d2) (bf (fun d3 => c6 ⟨d, d2, d3⟩)) (qf c2) (qf c5) (qt c7) trivial hn
      · exact nx7b h (bf c1) (bf a34) (bf a39) (bf a35) (bt' d) (bf d2) (qf c2) (qf c5) (qt c7) trivial hn
    · exact nx7a h (bf c1) (bf a34) (bf a39) (bf a35) (bf d) (qf c2) (qf c5) (qt c7) trivial hn
  by_cases c8 : pk ds 0 = 60 ∧ pk ds 1 = 33 ∧ pk ds 2 = 45 ∧ pk ds 3 = 45
  · have hn : Hid (next ds = (⟨5, 0, []⟩, false, ds.tail.tail.tail.tail)) := by
      show _ = _; unfold next; rw [if_neg c1, if_neg c2, if_neg c3, if_neg c4, if_neg c5, if_neg c6, if_neg c7, if_pos c8]
    exact nx8 h (bf c1) (bf a34) (bf a39) (bf (by omega)) (bf (by omega)) (bt' c8.1) (bt' c8.2.1) (bt' c8.2.2.1) (bt' c8.2.2.2) (qf c2) (qf c5) (qf c7) trivial hn
  by_cases c9 : pk ds 0 = 64 ∧ ident3 (pk ds 1) (pk ds 2) (pk ds 3)
  · have hn : Hid (next ds = (⟨1, 0, (name ds.tail).1⟩, (name ds.tail).2.1, (name ds.tail).2.2)) := by
      show _ = _; unfold next; rw [if_neg c1, if_neg c2, if_neg c3, if_neg c4, if_neg c5, if_neg c6, if_neg c7, if_neg c8, if_pos c9]
    exact nx9 h (bf c1) (bf a34) (bf a39) (bf (by omega)) (bf (by omega)) (bf (by omega)) (bt' c9.1) (qf c2) (qf c5) (qf c7) (qt c9.2) hn
  have hn : Hid (next ds = (⟨signKind (pk ds 0), 0, []⟩, false, ds.tail)) := by
    show _ = _; unfold next; rw [if_neg c1, if_neg c2, if_neg c3, if_neg c4, if_neg c5, if_neg c6, if_neg c7, if_neg c8, if_neg c9]
  by_cases d35 : pk ds 0 = 35
  · exact nx10a h (bf c1) (bf a34) (bf a39) (bt' d35) (bf (by omega)) (bf (by omega)) (bf (by omega)) (qf c2) (qf c5) (qf c7) trivial (qf (fun hx => c4 ⟨d35, .inl hx⟩)) (qf (fun hx => c4 ⟨d35, .inr hx⟩)) hn
  by_cases d45 : pk ds 0 = 45
  · have d1 : pk ds 1 ≠ 45 := fun hx => c7 (.inl ⟨d45, .inr (.inl hx)⟩)
    exact nx10b h (bf c1) (bf a34) (bf a39) (bf d35) (bt' d45) (bf d1) (bf (by omega)) (bf (by omega)) (qf c2) (qf c5) (qf c7) trivial hn
  by_cases d60 : pk ds 0 = 60
  · by_cases e1 : pk ds 1 = 33
    · by_cases e2 : pk ds 2 = 45
      · exact nx10e h (bf c1) (bf a34) (bf a39) (bf d35) (bf d45) (bt' d60) (bt' e1) (bt' e2) (bf (fun e3 => c8 ⟨d60, e1, e2, e3⟩)) (bf (by omega)) (qf c2) (qf c5) (qf c7) trivial hn
      · exact nx10d h (bf c1) (bf a34) (bf a39) (bf d35) (bf d45) (bt' d60) (bt' e1) (bf e2) (bf (by omega)) (qf c2) (qf c5) (qf c7) trivial hn
    · exact nx10c h (bf c1) (bf a34) (bf a39) (bf d35) (bf d45) (bt' d60) (bf e1) (bf (by omega)) (qf c2) (qf c5) (qf c7) trivial hn
  by_cases d64 : pk ds 0 = 64
  · exact nx10f h (bf c1) (bf a34) (bf a39) (bf d35) (bf d45) (bf d60) (bt' d64) (qf c2) (qf c5) (qf c7) (qf (fun hx => c9 ⟨d64, hx⟩)) hn
  · exact nx10g h (bf c1) (bf a34) (bf a39) (bf d35) (bf d45) (bf d60) (bf d64) (qf c2) (qf c5) (qf c7) trivial hn
end
end Go.Proofs.YtkfdcbdlcipmfaaGreatFmt
namespace Go.Proofs.YtkfdcbdlcipmfaaGreatFmt
open Go.RowKit Css
theorem info169 : (Tryz.prog.info? 169).map (fun i => (i.zero, i.size, i.bytes)) = some (some (.agg #[.int .i64 0, .int .i64 0]), 2, 16) := by kernel_rfl
theorem info62 : (Tryz.prog.info? 62).map (fun i => (i.zero, i.size, i.bytes)) = some (some (.agg #[.int .i64 0, .int .i64 0, .int .i64 0, .int .i64 0, .bool false, .string ⟨#[]⟩]), 6, 56) := by kernel_rfl
structure Lc (T : TypeId) (B b : Nat) (w w' : World) : Prop where
  os : w'.os = w.os
  tape : w'.tape = w.tape
  output : w'.output = w.output
  size : w.heap.size ≤ w'.heap.size
  low : ∀ i, i < B → w'.heap[i]? = w.heap[i]?
  block : ∀ i, i < w.heap.size → i ≠ b → ¬ IsTy T w.heap[i]? → w'.heap[i]? = w.heap[i]?
section
variable {T : TypeId} {B b : Nat} {u v w w' : World}
theorem Lc.refl (T : TypeId) (B b : Nat) (w : World) : Lc T B b w w := ⟨rfl, rfl, rfl, Nat.le_refl _, fun _ _ => rfl, fun _ _ _ _ => rfl⟩
theorem Lc.trans (h : Lc T B b u v) (k : Lc T B b v w) : Lc T B b u w :=
  ⟨k.os.trans h.os, k.tape.trans h.tape, k.output.trans h.output, Nat.le_trans h.size k.size, fun i hi => (k.low i hi).trans (h.low i hi), fun i hi hb hT => by
    have e := h.block i hi hb hT
    exact (k.block i (Nat.lt_of_lt_of_le hi h.size) hb (by rw [e]; exact hT)).trans e⟩
theorem Lc.of_lk (h : Lk b w w') (hB : B ≤ b) (hw : B ≤ w.heap.size) : Lc T B b w w' := ⟨h.os, h.tape, h.output, h.size, fun i hi => h.block i (by omega) (by omega), fun i hi hb _ => h.block i hi hb⟩
theorem Lc.grown {bs : Nat} {x : Value} {n : Nat} {xs : List Value} (hg : w.grownBy w' x.ownBlock) (ho : w.ownsRow B T bs x n xs) (hB : B ≤ w.heap.size) : Lc T B b w w' := by
  refine ⟨hg.os, hg.tape, hg.output, hg.size, fun i hi => hg.block i (by omega) ?_, fun i hi _ hT => hg.block i hi ?_⟩
  · rcases ho.2 with ⟨rfl, _⟩ | ⟨q, cap, cur, rfl, hq, hh, _⟩
    · simp [Value.ownBlock]
    · simp only [Value.ownBlock, ne_eq, Option.some.injEq]; omega
  · rcases ho.2 with ⟨rfl, _⟩ | ⟨q, cap, cur, rfl, hq, hh, _⟩
    · simp [Value.ownBlock]
    · simp only [Value.ownBlock, ne_eq, Option.some.injEq]
      rintro rfl
      exact hT ⟨cur, (0, 0), hh⟩
theorem Lc.below (h : Lc T B b w w') (hw : B ≤ w.heap.size) : Below B w w' := ⟨h.os, h.tape, h.output, h.size, h.low⟩
theorem own_drewN {base n : Nat} {e : TypeId} {size : Nat} {x : Value} {xs : List Value} (h : w.ownsRow base e size x n xs) (k : Nat) : (w.drewN k).ownsRow base e size x n xs := h
end
structure Cm (B b : Nat) (cv : Value) (n : Nat) (w : World) : Prop where
  own : ∃ xs, w.ownsRow B 169 2 cv n xs
  ne : cv.ownBlock ≠ some b
section
variable {ops : Array Oper} {o : Oper} {a : Act} {K : Act → World → Prop} {Q : Exit → Act → World → Prop} {E : Prop}
theorem step_piece (hgd : o.guard = none) (s x : Operand) (ho : o.op = .call { callee := .builtin .append, args := #[s, x], argTypes := #[97, 97] })
    {B b : Nat} {cv : Value} {n : Nat} {w : World} (H : Cm B b cv n w) (hB : B ≤ w.heap.size) (hb : b < w.heap.size) (y0 y1 : Int) (hn : n ≤ 4294967296)
    (hs : a.eval s = cv) (hx : a.eval x = .slice (some ⟨w.heap.size, 0, none⟩) 1 1)
    (h : ∀ v' w', Cm B b v' (n + 1) w' → Lc 169 B b w w' → w'.heap[b]? = w.heap[b]? → K (a.put o.dst v') w') :
    if Region.wanted o (yielded ops a.tmps) = true then Oper.wp Tryz.prog o a ((w.alloc (.cells #[.int .i64 y0, .int .i64 y1] 169)).drew) K Q else E := by
  have hw : Region.wanted o (yielded ops a.tmps) = true := by simp [Region.wanted, hgd]
  rw [if_pos hw]
  obtain ⟨i, hi, hz0, hz1, hz2⟩ := parts_of info169
  obtain ⟨xs, hown⟩ := H.own
  have H1 : ((w.alloc (.cells #[.int .i64 y0, .int .i64 y1] 169)).drew).ownsRow B 169 2 cv n xs := (hown.alloc _)
  obtain ⟨v', w', hr, h2, h3, _, h5⟩ := run_append_own_at (P := Tryz.prog) ((w.alloc (.cells #[.int .i64 y0, .int .i64 y1] 169)).drew) B 97 o.type 169 i (.agg #[.int .i64 0, .int .i64 0]) 2 16 Tryz.underlying97 hi hz0 hz1 hz2 rfl (by decide) cv n xs H1 ⟨w.heap.size, 0, none⟩ 1 1 [.int .i64 y0, .int .i64 y1] rfl (by
    intro j u hj
    have e : (⟨w.heap.size, 0, none⟩ : Addr).add j = ⟨w.heap.size, j, none⟩ := by
      unfold Addr.add; split
      · rename_i h; subst h; rfl
      · simp
    rw [e]
    have : (w.alloc (.cells #[.int .i64 y0, .int .i64 y1] 169)).cell? ⟨w.heap.size, j, none⟩ = (#[Value.int .i64 y0, .int .i64 y1])[j]? := World.cell?_alloc_mark w _ _ _ j
    show (w.alloc (.cells #[.int .i64 y0, .int .i64 y1] 169)).cell? ⟨w.heap.size, j, none⟩ = some u
    rw [this, ← hj]; simp) (by simp [Value.oneCell']) (by unfold maxLen; omega) (by omega) (by show B ≤ (w.alloc _).heap.size; simp; omega)
  have hla : Lc 169 B b w ((w.alloc (.cells #[.int .i64 y0, .int .i64 y1] 169)).drew) := by
    have hbl := (Below.refl w.heap.size w).alloc (Nat.le_refl _) (.cells #[.int .i64 y0, .int .i64 y1] 169)
    exact ⟨hbl.os, hbl.tape, hbl.output, hbl.size, fun i hi => hbl.block i (by omega), fun i hi _ _ => hbl.block i hi⟩
  have hlb : Lc 169 B b ((w.alloc (.cells #[.int .i64 y0, .int .i64 y1] 169)).drew) w' := Lc.grown h3 H1 (by show B ≤ (w.alloc _).heap.size; simp; omega)
  have hbb : w'.heap[b]? = w.heap[b]? := by
    rw [h3.block b (by show b < (w.alloc _).heap.size; simp; omega) (fun e => H.ne e.symm)]
    exact Below.heap_alloc w _ b hb
  have hne : v'.ownBlock ≠ some b := by
    rcases h5 with e | e
    · rw [e]; exact H.ne
    · rw [e]; intro hx; injection hx with hx; have : (w.alloc (.cells #[.int .i64 y0, .int .i64 y1] 169)).heap.size = b := hx; simp at this; omega
  have hgo : K (a.put o.dst v') w' := h v' w' ⟨⟨_, h2⟩, hne⟩ (hla.trans hlb) hbb
  unfold Oper.wp execOp
  simp only [ho, resolve, invoke, builtin, Sem.run_bind, Sem.run_pure, Result.andThen_ok, List.map_toArray, List.map_cons, List.map_nil, hs, hx, hr]
  exact hgo
end
theorem Cm.lk {B b : Nat} {cv : Value} {n : Nat} {w w' : World} (h : Cm B b cv n w) (hk : Lk b w w') : Cm B b cv n w' := by
  obtain ⟨xs, ho⟩ := h.own
  exact ⟨⟨xs, own_keep ho fun q hq => hk.block q (own_lt ho hq).1 (fun e => h.ne (by rw [hq, e]))⟩, h.ne⟩
theorem Lc.setB {T : TypeId} {B b : Nat} {w w' : World} (h : Lc T B b w w') (hB : B ≤ b) (o : Nat) (u : Value) : Lc T B b w (w'.setCell ⟨b, o, none⟩ u) :=
  h.trans ⟨rfl, rfl, rfl, by simp [World.setCell], fun i hi => Below.heap_setCell _ _ _ _ (by simp; omega), fun i hi hb _ => Below.heap_setCell _ _ _ _ (by simpa using hb)⟩
theorem Cm.setB {B b : Nat} {cv : Value} {n : Nat} {w : World} (h : Cm B b cv n w) (o : Nat) (u : Value) : Cm B b cv n (w.setCell ⟨b, o, none⟩ u) := h.lk ((Lk.refl b w).set_ o u)
theorem dec_ne (l : List UInt8) : ∀ c ∈ dec l, c ≠ -1 := by
  fun_induction dec l with
  | case1 => simp
  | case2 x t ih =>
    intro c hc
    simp at hc
    rcases hc with rfl | hc
    · exact (runeL_wd x t).2
    · exact ih c hc
theorem suf_nil {s : ByteArray} {ds : List Int} (h : Suf s ds) (h0 : pk ds 0 = -1) : ds = [] := by
  obtain ⟨X, h⟩ := h
  exact nil_of_pk (fun c hc => dec_ne _ c (by rw [h]; simp [hc])) h0
structure Ca (B b : Nat) (s : ByteArray) (D : List Int) (op : Bool) (m : Nat) (w : World) (cv : Value) (w' : World) : Prop where
  lx : LX b s D cv op w'
  cm : Cm B b cv m w'
  lc : Lc 169 B b w w'
theorem Ca.mk' {B b : Nat} {s : ByteArray} {D : List Int} {op : Bool} {m : Nat} {u w w' : World} {cv v' : Value} (hx : LX b s D cv op w) (hB : B ≤ b) (hu : Lc 169 B b u w) (hc : Cm B b v' m w') (hl : Lc 169 B b w w') (hb : w'.heap[b]? = w.heap[b]?) : Ca B b s D op m u v' (w'.setCell ⟨b, 2, none⟩ v') :=
  ⟨(hx.same hb).setCom v', hc.setB 2 v', (hu.trans hl).setB hB 2 v'⟩
theorem comEnd_unf (D : List Int) : comEnd D = if pk D 0 = 42 ∧ pk D 1 = 47 then (false, D.tail.tail) else if pk D 0 = -1 ∧ D = [] then (true, []) else comEnd D.tail := by
  cases D with
  | nil => unfold comEnd; simp
  | cons c t => rw [comEnd]; simp
theorem comments_unf (D : List Int) : comments D = if pk D 0 = 47 ∧ pk D 1 = 42 then
    (if (comEnd D.tail.tail).1 then (1, true, (comEnd D.tail.tail).2) else ((comments (comEnd D.tail.tail).2).1 + 1, (comments (comEnd D.tail.tail).2).2.1, (comments (comEnd D.tail.tail).2).2.2)) else (0, false, D) := by
  rw [comments]; simp only [dite_eq_ite]
section
variable {b : Nat} {s : ByteArray} {ds : List Int} {cv : Value} {op : Bool} {w : World}
def ComR (B b : Nat) (s : ByteArray) (ds : List Int) (n : Nat) (op : Bool) (w : World) (e : Ending) (w' : World) : Prop :=
  e = .returned (.tuple #[]) ∧ ∃ cv', LX b s (comments ds).2.2 cv' (op || (comments ds).2.1) w' ∧ Cm B b cv' (n + (comments ds).1) w' ∧ Lc 169 B b w w'
structure CI (ds : List Int) (n : Nat) (op : Bool) (D : List Int) (m : Nat) (op' : Bool) : Prop where
  num : m + (comments D).1 = n + (comments ds).1
  opn : (op' || (comments D).2.1) = (op || (comments ds).2.1)
  rest : (comments D).2.2 = (comments ds).2.2
  size : m + D.length ≤ n + ds.length
set_option maxHeartbeats 3200000 in
set_option maxRecDepth 100000 in
theorem comment_any (h : LX b s ds cv op w) (B n : Nat) (hB : B ≤ b) (hc : Cm B b cv n w) (hn : n + ds.length ≤ 4294967296) : Calls Tryz.prog 53 #[.pointer (some ⟨b, 0, none⟩)] w (ComR B b s ds n op w) := by
  have HL := Lib.hid h
  have HC := Lib.hid hc
  have HN0 := Lib.hid hn
  have HBB := Lib.hid hB
  clear h hc hn hB
  rename World => w0
  go_enter Tryz.func53, Tryz.ntmps53
  go_wp2_with fail
  go_loopg [] ds.length (fun k wr => ∃ (D : List Int) (op' : Bool) (cv' : Value) (m : Nat), D.length = k ∧ Hid (CI ds n op D m op') ∧ Hid (LX b s D cv' op' wr) ∧ Hid (Cm B b cv' m wr) ∧ Hid (Lc 169 B b w0 wr))
  case atStart => exact ⟨ds, op, cv, n, rfl, ⟨rfl, rfl, rfl, Nat.le_refl _⟩, HL.out, HC.out, Lc.refl _ _ _ _⟩
  case round =>
    obtain ⟨D, op', cv', m, hD, HI, HX, HM, HK⟩ := hrel
    have hto : To b s D cv' op' wr wr := ⟨HX.out, Lk.refl _ _⟩
    have HU := Lib.hid (comments_unf D)
    cases k1 : (pk D 0 == 47)
    · have HF : Hid (comments D = (0, false, D)) := by show _ = _; rw [HU.out, if_neg (by rintro ⟨h, _⟩; rw [h] at k1; cases k1)]
      go_wp2_with (go_at_call 59; go_must ((first | (with_reducible refine (peekT0 (by assumption)).mono ?_) | (with_reducible refine (peekT1 (by assumption)).mono ?_)); rintro e w1 ⟨rfl, rfl⟩))
      go_end0
      refine ⟨rfl, cv', ?_, ?_, HK.out⟩
      · rw [← HI.out.rest, ← HI.out.opn, HF.out, Bool.or_false]; exact HX.out
      · rw [← HI.out.num, HF.out, Nat.add_zero]; exact HM.out
    · cases k2 : (pk D 1 == 42)
      · have HF : Hid (comments D = (0, false, D)) := by show _ = _; rw [HU.out, if_neg (by rintro ⟨_, h⟩; rw [h] at k2; cases k2)]
        go_wp2_with (go_at_call 59; go_must ((first | (with_reducible refine (peekT0 (by assumption)).mono ?_) | (with_reducible refine (peekT1 (by assumption)).mono ?_)); rintro e w1 ⟨rfl, rfl⟩))
        go_end0
        refine ⟨rfl, cv', ?_, ?_, HK.out⟩
        · rw [← HI.out.rest, ← HI.out.opn, HF.out, Bool.or_false]; exact HX.out
        · rw [← HI.out.num, HF.out, Nat.add_zero]; exact HM.out
      · have d1 : pk D 0 = 47 := by simpa using k1
        have d2 : pk D 1 = 42 := by simpa using k2
        have hn0 : D ≠ [] := by rintro rfl; simp at d1
        have hn1 : D.tail ≠ [] := by
          intro h; have := pk_tail D 0; rw [h] at this; simp at this; rw [d2] at this; omega
        have HDL : Hid (D.tail.tail.length + 2 ≤ D.length) := by
          show _ ≤ _
          have h1 := List.length_tail (l := D)
          have h2 := List.length_tail (l := D.tail)
          have h3 := List.length_pos_iff.2 hn0
          have h4 := List.length_pos_iff.2 hn1
          omega
        have HF : Hid (comments D = if (comEnd D.tail.tail).1 then (1, true, (comEnd D.tail.tail).2) else ((comments (comEnd D.tail.tail).2).1 + 1, (comments (comEnd D.tail.tail).2).2.1, (comments (comEnd D.tail.tail).2).2.2)) := by
          show _ = _; rw [HU.out, if_pos ⟨d1, d2⟩]
        have HP : Hid (pos s D.tail.tail = pos s D + 2) := by
          show _ = _
          have s0 := HX.out.suf
          have a0 := pos_low s0 (by rw [d1]; decide) (by rw [d1]; decide)
          have e1 : pk D.tail 0 = 42 := by rw [pk_tail]; exact d2
          have a1 := pos_low s0.tail (by rw [e1]; decide) (by rw [e1]; decide)
          omega
        have hto2 : To b s D.tail.tail cv' op' wr (wr.setCell ⟨b, 1, none⟩ (.int .i64 ((pos s D : Int) + 2))) := ⟨HX.out.setAt HX.out.suf.tail.tail (by rw [HP.out]; rfl), (Lk.refl b wr).set_ _ _⟩
        have HTO2 := Lib.hid hto2
        have hc1 := HX.out.c1
        have hf1 := HX.out.f 1
        have hp : (pos s D : Int) ≤ 140737488355328 := by have := @pos_le s D; have := HX.out.small; omega
        clear d1 d2 hn0 hn1 hto2
        obtain ⟨wo, hwo⟩ : ∃ x, x = wr := ⟨wr, rfl⟩
        subst hwo
        go_wp2_with (go_at_call 59; go_must ((first | (with_reducible refine (peekT0 (by assumption)).mono ?_) | (with_reducible refine (peekT1 (by assumption)).mono ?_)); rintro e w1 ⟨rfl, rfl⟩))
        clear hc1 hf1 hto
        go_loopg [] D.tail.tail.length (fun k wx => ∃ E : List Int, E.length = k ∧ Hid (comEnd E = comEnd D.tail.tail ∧ E.length ≤ D.tail.tail.length) ∧ Hid (To b s E cv' op' wo wx))
        case atStart => exact ⟨D.tail.tail, rfl, ⟨rfl, Nat.le_refl _⟩, HTO2.out⟩
        case round =>
          obtain ⟨E, hE, HE, HT⟩ := hrel
          have hto := HT.out
          have HUE := Lib.hid (comEnd_unf E)
          cases e3 : (pk E 0 == -1)
          · have n3 : ¬ pk E 0 = -1 := by simpa using e3
            have HLT := Lib.hid (pk_lt n3)
            have hway : ((pk E 0 == 42) = true ∧ (pk E 1 == 47) = true ∧ Hid (comEnd E = (false, E.tail.tail))) ∨ ((pk E 0 == 42) = true ∧ (pk E 1 == 47) = false ∧ Hid (comEnd E = comEnd E.tail)) ∨ ((pk E 0 == 42) = false ∧ Hid (comEnd E = comEnd E.tail)) := by
              have hid : ∀ p : Prop, Hid p = p := fun _ => rfl
              simp only [beq_iff_eq, beq_eq_false_iff_ne, hid]
              rw [HUE.out]
              by_cases c1 : pk E 0 = 42
              · by_cases c2 : pk E 1 = 47
                · left; exact ⟨c1, c2, by rw [if_pos ⟨c1, c2⟩]⟩
                · right; left; exact ⟨c1, c2, by rw [if_neg (fun h => c2 h.2), if_neg (fun h => n3 h.1)]⟩
              · right; right; exact ⟨c1, by rw [if_neg (fun h => c1 h.1), if_neg (fun h => n3 h.1)]⟩
            rcases hway with ⟨q1, q2, HN⟩ | ⟨q1, q2, HN⟩ | ⟨q1, HN⟩
            · have d1 : pk E 0 = 42 := by simpa using q1
              have d2 : pk E 1 = 47 := by simpa using q2
              have HP2 : Hid (pos s E.tail.tail = pos s E + 2) := by
                show _ = _
                have s0 := hto.lx.suf
                have a0 := pos_low s0 (by rw [d1]; decide) (by rw [d1]; decide)
                have e1 : pk E.tail 0 = 47 := by rw [pk_tail]; exact d2
                have a1 := pos_low s0.tail (by rw [e1]; decide) (by rw [e1]; decide)
                omega
              have hc1 := hto.lx.c1
              have hf1 := hto.lx.f 1
              have hpe : (pos s E : Int) ≤ 140737488355328 := by have := @pos_le s E; have := hto.lx.small; omega
              have hto4 : To b s E.tail.tail cv' op' wo (wr.setCell ⟨b, 1, none⟩ (.int .i64 ((pos s E : Int) + 2))) := ⟨hto.lx.setAt hto.lx.suf.tail.tail (by rw [HP2.out]; rfl), hto.lk.set_ _ _⟩
              have HTO4 := Lib.hid hto4
              clear d1 d2 n3 hto4
              go_upto_region 8 with ((go_at_call 59; go_must ((first | (with_reducible refine (peekT0 (by assumption)).mono ?_) | (with_reducible refine (peekT1 (by assumption)).mono ?_)); rintro e w1 ⟨rfl, rfl⟩)))
              have hto4 := HTO4.out
              generalize wr.setCell ⟨b, 1, none⟩ (.int .i64 ((pos s E : Int) + 2)) = W4 at hto4 HTO4 ⊢
              have hcm4 : Cm B b cv' m W4 := HM.out.lk hto4.lk
              have HMC := Lib.hid hcm4
              have hBw : B ≤ W4.heap.size := by go_light; have := hto4.lk.size; have := HX.out.lt; have := HBB.out; omega
              have hbw : b < W4.heap.size := hto4.lx.lt
              have HNM : Hid (m ≤ 4294967296) := by go_light; show _ ≤ _; have := HI.out.size; have := HN0.out; omega
              have HLC : Hid (Lc 169 B b w0 W4) := HK.out.trans (Lc.of_lk hto4.lk HBB.out (by go_light; have := HX.out.lt; have := HBB.out; omega))
              have hc1 := hto4.lx.c1
              have hc2 := hto4.lx.c2
              clear hto hto4 hcm4
              have HCE : Hid (comEnd D.tail.tail = (false, E.tail.tail)) := by show _ = _; rw [← HE.out.1, HN.out]
              have HLE : Hid (E.tail.tail.length + 2 ≤ D.length) := by
                go_light
                show _ ≤ _
                have h1 := HE.out.2
                have h2 := HLT.out
                have h3 := List.length_tail (l := E.tail)
                have h4 := HDL.out
                omega
              have HF2 : Hid (comments D = ((comments E.tail.tail).1 + 1, (comments E.tail.tail).2.1, (comments E.tail.tail).2.2)) := by
                show _ = _; rw [HF.out, HCE.out]; rfl
              go_region_law (refine step_piece rfl _ _ rfl HMC.out hBw hbw _ _ HNM.out rfl rfl ?_; intro v' w2 hcm hlc hbb; obtain ⟨xs4, ho4⟩ := hcm.own; obtain ⟨A4, k4, rfl⟩ := own_slice ho4; clear ho4; have hc2' := (HTO4.out.lx.same hbb).c2; have hf2' := (HTO4.out.lx.same hbb).f 2; have HCM2 := Lib.hid hcm; have HLC2 := Lib.hid hlc; have HBB2 := Lib.hid hbb; clear hcm hlc hbb)
              all_goals
                go_wp2_with fail
                go_roundg E.tail.tail.length
                case measure => have := HLE.out; rw [← hD]; omega
                case rel =>
                  have hca := Ca.mk' HTO4.out.lx HBB.out HLC.out HCM2.out HLC2.out HBB2.out
                  refine ⟨E.tail.tail, op', _, m + 1, rfl, ⟨?_, ?_, ?_, ?_⟩, hca.lx, hca.cm, hca.lc⟩
                  · rw [← HI.out.num, HF2.out]; show m + 1 + _ = m + (_ + 1); omega
                  · rw [← HI.out.opn, HF2.out]
                  · rw [← HI.out.rest, HF2.out]
                  · have := HI.out.size; have := HLE.out; omega
            · go_wp2_with (first | (go_at_call 59; go_must ((first | (with_reducible refine (peekT0 (by assumption)).mono ?_) | (with_reducible refine (peekT1 (by assumption)).mono ?_)); rintro e w1 ⟨rfl, rfl⟩)) | (go_at_call 61; go_must (refine (takeT (by assumption)).mono ?_; rintro e w1 ⟨rfl, hto1⟩)))
              go_roundg E.tail.length
              case measure => have := HLT.out; omega
              case rel => exact ⟨E.tail, rfl, ⟨by rw [← HN.out]; exact HE.out.1, by have := HE.out.2; have := HLT.out; omega⟩, hto1⟩
            · go_wp2_with (first | (go_at_call 59; go_must ((first | (with_reducible refine (peekT0 (by assumption)).mono ?_) | (with_reducible refine (peekT1 (by assumption)).mono ?_)); rintro e w1 ⟨rfl, rfl⟩)) | (go_at_call 61; go_must (refine (takeT (by assumption)).mono ?_; rintro e w1 ⟨rfl, hto1⟩)))
              go_roundg E.tail.length
              case measure => have := HLT.out; omega
              case rel => exact ⟨E.tail, rfl, ⟨by rw [← HN.out]; exact HE.out.1, by have := HE.out.2; have := HLT.out; omega⟩, hto1⟩
          · have d0 : pk E 0 = -1 := by simpa using e3
            have hE0 : E = [] := suf_nil hto.lx.suf d0
            subst hE0
            have HCE : Hid (comEnd D.tail.tail = (true, [])) := by show _ = _; rw [← HE.out.1]; rfl
            have HF2 : Hid (comments D = (1, true, [])) := by show _ = _; rw [HF.out, HCE.out]; rfl
            have e42 : (pk [] 0 == 42) = false := rfl
            clear d0
            go_wp2_with (go_at_call 59; go_must ((first | (with_reducible refine (peekT0 (by assumption)).mono ?_) | (with_reducible refine (peekT1 (by assumption)).mono ?_)); rintro e w1 ⟨rfl, rfl⟩))
            refine (takeT (by assumption)).mono ?_
            rintro e w5 ⟨rfl, hto1⟩
            have hc3 := hto1.lx.c3
            have hf3 := hto1.lx.f 3
            go_upto_region 6 with (fail)
            have hto4 : To b s [] cv' true wo (w5.setCell ⟨b, 3, none⟩ (.bool true)) := hto1.open_ true
            have HTO4 := Lib.hid hto4
            clear hto hto1 hc3 hf3
            generalize w5.setCell ⟨b, 3, none⟩ (.bool true) = W4 at hto4 HTO4 ⊢
            have hcm4 : Cm B b cv' m W4 := HM.out.lk hto4.lk
            have HMC := Lib.hid hcm4
            have hBw : B ≤ W4.heap.size := by go_light; have := hto4.lk.size; have := HX.out.lt; have := HBB.out; omega
            have hbw : b < W4.heap.size := hto4.lx.lt
            have HNM : Hid (m ≤ 4294967296) := by go_light; show _ ≤ _; have := HI.out.size; have := HN0.out; omega
            have HLC : Hid (Lc 169 B b w0 W4) := HK.out.trans (Lc.of_lk hto4.lk HBB.out (by go_light; have := HX.out.lt; have := HBB.out; omega))
            have hc1 := hto4.lx.c1
            have hc2 := hto4.lx.c2
            clear hto4 hcm4
            go_region_law (refine step_piece rfl _ _ rfl HMC.out hBw hbw _ _ HNM.out rfl rfl ?_; intro v' w2 hcm hlc hbb; obtain ⟨xs4, ho4⟩ := hcm.own; obtain ⟨A4, k4, rfl⟩ := own_slice ho4; clear ho4; have hc2' := (HTO4.out.lx.same hbb).c2; have hf2' := (HTO4.out.lx.same hbb).f 2; have HCM2 := Lib.hid hcm; have HLC2 := Lib.hid hlc; have HBB2 := Lib.hid hbb; clear hcm hlc hbb)
            all_goals
              go_wp2_with fail
              refine bodyPost_ret (results_none rfl _ _ _) rfl ?_
              have hca := Ca.mk' HTO4.out.lx HBB.out HLC.out HCM2.out HLC2.out HBB2.out
              refine ⟨rfl, .slice A4 (m + 1) k4, ?_, ?_, hca.lc⟩
              · rw [← HI.out.rest, ← HI.out.opn, HF2.out, Bool.or_true]; exact hca.lx
              · rw [← HI.out.num, HF2.out]; exact hca.cm
end
end Go.Proofs.YtkfdcbdlcipmfaaGreatFmt
namespace Go.Proofs.YtkfdcbdlcipmfaaGreatFmt
open Go.RowKit Css
def tkCells (s : ByteArray) (x : Tk × List Int × List Int) (id : Bool) : List Value := [.int .i64 x.1.kind, .int .i64 (pos s x.2.1 : Nat), .int .i64 (pos s x.2.2 : Nat), .int .i64 (x.1.unit : Nat), .bool id, .string (bsOf (enc x.1.text))]
inductive TkRow (s : ByteArray) : List (Tk × List Int × List Int) → List Value → Prop
  | nil : TkRow s [] []
  | snoc (l : List (Tk × List Int × List Int)) (xs : List Value) (x : Tk × List Int × List Int) (id : Bool) : TkRow s l xs → TkRow s (l ++ [x]) (xs ++ tkCells s x id)
theorem next_kind0 {ds : List Int} (h : pk ds 0 ≠ -1) : (next ds).1.kind ≠ 0 := by
  unfold next
  rw [if_neg h]
  split
  · simp
  split
  · have := quotedRun_kind (pk ds 0) ds.tail; simp only []; omega
  split
  · simp
  split
  · have := numeric_kind ds; omega
  split
  · simp
  split
  · have := named_kind ds; omega
  split
  · simp
  split
  · simp
  · simp only []
    unfold signKind
    repeat (refine ite_ok (P := fun k => k ≠ 0) (by decide) ?_)
    decide
theorem next_eof {ds : List Int} (h : pk ds 0 = -1) : next ds = (⟨0, 0, []⟩, false, ds) := by unfold next; rw [if_pos h]
theorem comments_count (ds : List Int) : (comments ds).1 + (comments ds).2.2.length ≤ ds.length := by
  fun_induction comments ds with
  | case1 ds h h2 =>
    have h0 := len_of_pk (ds := ds) (by rw [h.1]; decide)
    have h3 := comEnd_len ds.tail.tail
    have h4 := List.length_tail (l := ds)
    have h5 := List.length_tail (l := ds.tail)
    simp only []; omega
  | case2 ds h h2 ih =>
    have h0 := len_of_pk (ds := ds) (by rw [h.1]; decide)
    have h3 := comEnd_len ds.tail.tail
    have h4 := List.length_tail (l := ds)
    have h5 := List.length_tail (l := ds.tail)
    simp only []; omega
  | case3 => simp
theorem tokens_unf (D : List Int) : tokens D = if pk (comments D).2.2 0 = -1 then ([], (comments D).1, (comments D).2.1) else
    (((next (comments D).2.2).1, (comments D).2.2, (next (comments D).2.2).2.2) :: (tokens (next (comments D).2.2).2.2).1, (comments D).1 + (tokens (next (comments D).2.2).2.2).2.1, (comments D).2.1 || (next (comments D).2.2).2.1 || (tokens (next (comments D).2.2).2.2).2.2) := by
  rw [tokens]; simp only [dite_eq_ite]
def TokR (s : ByteArray) (ds : List Int) (w : World) (e : Ending) (w' : World) : Prop :=
  ∃ (out : Value) (A : Option Addr) (c : Nat) (xs : List Value), e = .returned (.tuple #[out, .slice A (tokens ds).2.1 c, .bool (tokens ds).2.2]) ∧ w'.ownsRow w.heap.size 62 6 out (tokens ds).1.length xs ∧ TkRow s (tokens ds).1 xs ∧ Below w.heap.size w w'
structure TI (ds : List Int) (l : List (Tk × List Int × List Int)) (D : List Int) (m : Nat) (op' : Bool) : Prop where
  toks : l ++ (tokens D).1 = (tokens ds).1
  num : m + (tokens D).2.1 = (tokens ds).2.1
  opn : (op' || (tokens D).2.2) = (tokens ds).2.2
  size : m + D.length ≤ ds.length
  many : l.length + D.length ≤ ds.length
theorem ty_ne {o : Option Obj} {T T' : TypeId} (h : IsTy T o) (hne : T ≠ T') : ¬ IsTy T' o := by
  obtain ⟨cs, fr, rfl⟩ := h
  rintro ⟨cs', fr', h⟩
  injection h with h
  injection h with _ h _
  exact hne h
structure Ow (B b : Nat) (s : ByteArray) (l : List (Tk × List Int × List Int)) (v : Value) (w : World) : Prop where
  own : ∃ xs, w.ownsRow B 62 6 v l.length xs ∧ TkRow s l xs
  ne : v.ownBlock ≠ some b
theorem Ow.lc {B b : Nat} {s : ByteArray} {l : List (Tk × List Int × List Int)} {v : Value} {w w' : World} (h : Ow B b s l v w) (hk : Lc 169 B b w w') : Ow B b s l v w' := by
  obtain ⟨xs, ho, hr⟩ := h.own
  refine ⟨⟨xs, own_keep ho (fun q hq => ?_), hr⟩, h.ne⟩
  obtain ⟨h1, h2, h3⟩ := own_lt ho hq
  exact hk.block q h1 (fun e => h.ne (by rw [hq, e])) (ty_ne h3 (by decide))
theorem Ow.lk {B b : Nat} {s : ByteArray} {l : List (Tk × List Int × List Int)} {v : Value} {w w' : World} (h : Ow B b s l v w) (hk : Lk b w w') : Ow B b s l v w' := by
  obtain ⟨xs, ho, hr⟩ := h.own
  exact ⟨⟨xs, own_keep ho fun q hq => hk.block q (own_lt ho hq).1 (fun e => h.ne (by rw [hq, e])), hr⟩, h.ne⟩
theorem Cm.grown {B b : Nat} {cv : Value} {n : Nat} {w w' : World} (h : Cm B b cv n w) {v : Value} {k bs : Nat} {xs : List Value} (hg : w.grownBy w' v.ownBlock) (ho : w.ownsRow B 62 bs v k xs) : Cm B b cv n w' := by
  obtain ⟨ys, hc⟩ := h.own
  refine ⟨⟨ys, own_keep hc (fun q hq => hg.block q (own_lt hc hq).1 (fun e => ?_))⟩, h.ne⟩
  exact ty_ne (own_lt hc hq).2.2 (by decide) (own_lt ho e.symm).2.2
section
variable {ops : Array Oper} {rest : List Oper} {o : Oper} {a : Act} {Q : Exit → Act → World → Prop}
theorem wpList_tok (hgd : o.guard = none) (s x : Operand) (ho : o.op = .call { callee := .builtin .append, args := #[s, x], argTypes := #[96, 96] })
    {B b : Nat} {sx : ByteArray} {l : List (Tk × List Int × List Int)} {v : Value} {w : World} (H : Ow B b sx l v w) (hB : B ≤ w.heap.size) (hb : b < w.heap.size) (tk : Tk × List Int × List Int) (id : Bool) (hn : l.length ≤ 2147483647)
    (hs : a.eval s = v) (hx : a.eval x = .slice (some ⟨w.heap.size, 0, none⟩) 1 1)
    (h : ∀ v' w', Ow B b sx (l ++ [tk]) v' w' → Below B w w' → w'.heap[b]? = w.heap[b]? → (∀ cv n, Cm B b cv n w → Cm B b cv n w') → wpList Tryz.prog ops Q rest (a.put o.dst v') w') :
    wpList Tryz.prog ops Q (o :: rest) a (w.alloc (.cells #[.int .i64 tk.1.kind, .int .i64 (pos sx tk.2.1 : Nat), .int .i64 (pos sx tk.2.2 : Nat), .int .i64 (tk.1.unit : Nat), .bool id, .string (bsOf (enc tk.1.text))] 62)) := by
  obtain ⟨i, hi, hz0, hz1, hz2⟩ := parts_of info62
  obtain ⟨xs, hown, hrow⟩ := H.own
  have H1 : (w.alloc (.cells #[.int .i64 tk.1.kind, .int .i64 (pos sx tk.2.1 : Nat), .int .i64 (pos sx tk.2.2 : Nat), .int .i64 (tk.1.unit : Nat), .bool id, .string (bsOf (enc tk.1.text))] 62)).ownsRow B 62 6 v l.length xs := hown.alloc _
  generalize hO : Obj.cells #[.int .i64 tk.1.kind, .int .i64 (pos sx tk.2.1 : Nat), .int .i64 (pos sx tk.2.2 : Nat), .int .i64 (tk.1.unit : Nat), .bool id, .string (bsOf (enc tk.1.text))] 62 = O at H1 ⊢
  have hsz : (w.alloc O).heap.size = w.heap.size + 1 := by simp
  obtain ⟨v', w', hr, h2, h3, _, h5⟩ := run_append_own_at (P := Tryz.prog) (w.alloc O) B 96 o.type 62 i (.agg #[.int .i64 0, .int .i64 0, .int .i64 0, .int .i64 0, .bool false, .string ⟨#[]⟩]) 6 56 Tryz.underlying96 hi hz0 hz1 hz2 rfl (by decide) v l.length xs H1 ⟨w.heap.size, 0, none⟩ 1 1 (tkCells sx tk id) rfl (by
    intro j u hj
    have e : (⟨w.heap.size, 0, none⟩ : Addr).add j = ⟨w.heap.size, j, none⟩ := by
      unfold Addr.add; split
      · rename_i h; subst h; rfl
      · simp
    rw [e, ← hO, World.cell?_alloc_mark w _ _ _ j, ← hj]; simp [tkCells]) (by simp [tkCells, Value.oneCell']) (by unfold maxLen; omega) (by omega) (by omega)
  have hla : Below B w (w.alloc O) := (Below.refl _ _).alloc hB _
  have hlb : Lc 62 B b (w.alloc O) w' := Lc.grown h3 H1 (by omega)
  have hbb : w'.heap[b]? = w.heap[b]? := by
    rw [h3.block b (by omega) (fun e => H.ne e.symm)]
    exact Below.heap_alloc w _ b hb
  have hne : v'.ownBlock ≠ some b := by
    rcases h5 with e | e
    · rw [e]; exact H.ne
    · rw [e]; intro hx; injection hx with hx; omega
  refine wpList_plain hgd fun K hK => ?_
  unfold Oper.wp execOp
  simp only [ho, resolve, invoke, builtin, Sem.run_bind, Sem.run_pure, Result.andThen_ok, List.map_toArray, List.map_cons, List.map_nil, hs, hx, hr]
  refine hK _ _ (h v' w' ⟨⟨_, by rw [List.length_append]; exact h2, .snoc _ _ _ _ hrow⟩, hne⟩ (hla.trans (hlb.below (by omega))) hbb fun cv n hc => ?_)
  obtain ⟨ys, hy⟩ := hc.own
  have hc1 : Cm B b cv n (w.alloc O) := ⟨⟨ys, hy.alloc _⟩, hc.ne⟩
  exact hc1.grown h3 H1
end
set_option maxHeartbeats 3200000 in
set_option maxRecDepth 100000 in
theorem tokens_any (s : ByteArray) (hs : (s.size : Int) ≤ 2147483647) (w : World) : Calls Tryz.prog 44 #[.string s] w (TokR s (dec s.data.toList) w) := by
  have hl : (dec s.data.toList).length ≤ 2147483647 := by
    have := suf_len (suf_all s); omega
  have HLEN := Lib.hid hl
  have HP0 := Lib.hid (pos_all s)
  have HSA := Lib.hid (suf_all s)
  generalize dec s.data.toList = ds at HLEN HP0 HSA ⊢
  have HS := Lib.hid hs
  clear hl hs
  rename World => w0
  have HX0 : Hid (LX w0.heap.size s ds (.slice none 0 0) false (w0.alloc (.cells #[.string s, .int .i64 0, .slice none 0 0, .bool false] 146))) := by
    refine ⟨⟨146, ?_⟩, HSA.out, by have := HS.out; omega⟩
    rw [HP0.out]
    exact heap_alloc_new w0 _
  have HC0 : Hid (Cm w0.heap.size w0.heap.size (.slice none 0 0) 0 (w0.alloc (.cells #[.string s, .int .i64 0, .slice none 0 0, .bool false] 146))) := ⟨⟨[], by simp, .inl ⟨rfl, rfl⟩⟩, by simp [Value.ownBlock]⟩
  go_enter Tryz.func44, Tryz.ntmps44
  go_wp2_with fail
  have HW0 : Hid (Below w0.heap.size w0 (w0.alloc (.cells #[.string s, .int .i64 0, .slice none 0 0, .bool false] 146))) := (Below.refl _ _).alloc (Nat.le_refl _) _
  go_loopg [6] ds.length (fun k p6 wr => ∃ (l : List (Tk × List Int × List Int)) (D : List Int) (m : Nat) (op' : Bool) (cv' : Value), D.length = k ∧ Hid (TI ds l D m op') ∧ Hid (LX w0.heap.size s D cv' op' wr) ∧ Hid (Cm w0.heap.size w0.heap.size cv' m wr) ∧ Hid (Ow w0.heap.size w0.heap.size s l p6 wr) ∧ Hid (Below w0.heap.size w0 wr))
  case atStart => exact ⟨[], ds, 0, false, _, rfl, ⟨rfl, Nat.zero_add _, rfl, by simp, by simp⟩, HX0.out, HC0.out, ⟨⟨[], ⟨by simp, .inl ⟨rfl, rfl⟩⟩, .nil⟩, by simp [Value.ownBlock]⟩, HW0.out⟩
  case round =>
    obtain ⟨l, D, m, op', cv', hD, HI, HX, HM, HO, HB⟩ := hrel
    clear HX0 HC0 HW0
    go_wp2_with fail
    refine (comment_any HX.out w0.heap.size m (Nat.le_refl _) HM.out (by have := HI.out.size; have := HLEN.out; omega)).mono ?_
    rintro e w1 ⟨rfl, cv1, hlx, hcm, hlc⟩
    have HU := Lib.hid (tokens_unf D)
    have HCL := Lib.hid (comments_len D)
    have HCT := Lib.hid (comments_count D)
    generalize hD1 : (comments D).2.2 = D1 at hlx HU HCL HCT
    generalize hop1 : (op' || (comments D).2.1) = op1 at hlx
    generalize hm1 : m + (comments D).1 = m1 at hcm
    have HOP1 := Lib.hid hop1
    have HM1 := Lib.hid hm1
    clear hD1 hop1 hm1
    have HX1 := Lib.hid hlx
    have HC1 := Lib.hid hcm
    have HO1 := Lib.hid (HO.out.lc hlc)
    have HB1 : Hid (Below w0.heap.size w0 w1) := HB.out.trans (hlc.below HB.out.size)
    have hc1 := hlx.c1
    clear hlx hcm hlc
    go_wp2_with fail
    refine (next_any HX1.out).mono ?_
    rintro e w2 ⟨id, he, hto⟩
    unfold tkV at he
    subst he
    have HTO := Lib.hid hto
    have hc1 := hto.lx.c1
    have hc2 := hto.lx.c2
    have hc3 := hto.lx.c3
    have hlt2 := hto.lx.lt
    clear hto
    cases k0 : (pk D1 0 == -1)
    · have n0 : ¬ pk D1 0 = -1 := by simpa using k0
      have hk0 : ((next D1).1.kind == 0) = false := by simpa using next_kind0 n0
      go_wp2_with fail
      go_region
      all_goals
        go_upto_region 9 with (fail)
        have hto := HTO.out
        have ht8 : ((w2.alloc (.cells #[.int .i64 (next D1).1.kind, .int .i64 (pos s D1 : Nat), .int .i64 (pos s (next D1).2.2 : Nat), .int .i64 ((next D1).1.unit : Nat), .bool id, .string (bsOf (enc (next D1).1.text))] 62)).drew).heap[w2.heap.size]? = some (.cells #[.int .i64 (next D1).1.kind, .int .i64 (pos s D1 : Nat), .int .i64 (pos s (next D1).2.2 : Nat), .int .i64 ((next D1).1.unit : Nat), .bool id, .string (bsOf (enc (next D1).1.text))] 62 (0, 0)) := heap_alloc_new w2 _
        have hW : Below w2.heap.size w2 ((w2.alloc (.cells #[.int .i64 (next D1).1.kind, .int .i64 (pos s D1 : Nat), .int .i64 (pos s (next D1).2.2 : Nat), .int .i64 ((next D1).1.unit : Nat), .bool id, .string (bsOf (enc (next D1).1.text))] 62)).drew) := ((Below.refl _ _).alloc (Nat.le_refl _) _).drew
        generalize (w2.alloc (.cells #[.int .i64 (next D1).1.kind, .int .i64 (pos s D1 : Nat), .int .i64 (pos s (next D1).2.2 : Nat), .int .i64 ((next D1).1.unit : Nat), .bool id, .string (bsOf (enc (next D1).1.text))] 62)).drew = W9 at ht8 hW ⊢
        have t0 := cell_blk ht8 0
        have t1 := cell_blk ht8 1
        have t2 := cell_blk ht8 2
        have t3 := cell_blk ht8 3
        have t4 := cell_blk ht8 4
        have t5 := cell_blk ht8 5
        have hto9 := hto.below hW
        have HTO9 := Lib.hid hto9
        have HO9 := Lib.hid (HO1.out.lk hto9.lk)
        have HC9 := Lib.hid (HC1.out.lk hto9.lk)
        have HB9 : Hid (Below w0.heap.size w0 W9) := HB1.out.trans (hto9.lk.below (Nat.le_refl _) (Below.refl _ _) HB1.out.size)
        have hB9 : w0.heap.size ≤ W9.heap.size := HB9.out.size
        have hb9 : w0.heap.size < W9.heap.size := hto9.lx.lt
        have HLN : Hid (l.length ≤ 2147483647) := by go_light; show _ ≤ _; have := HI.out.many; have := HLEN.out; omega
        clear ht8 hW hto hto9 hc1 hc2 hc3
        go_wp2_with (at_builtin; go_must (refine wpList_tok rfl _ _ rfl HO9.out hB9 hb9 ((next D1).1, D1, (next D1).2.2) id HLN.out rfl rfl ?_; intro v' w9 hw9 hbe hbb hcc; have HW9 := Lib.hid hw9; have HBE := Lib.hid hbe; have HBB := Lib.hid hbb; have HCC := Lib.hid hcc; clear hw9 hbe hbb hcc))
        go_roundg (next D1).2.2.length
        case measure =>
          go_light
          have h1 := next_lt n0
          have h2 := HCL.out
          omega
        case rel =>
          have hT := HU.out
          rw [if_neg n0] at hT
          have hI := HI.out
          refine ⟨l ++ [((next D1).1, D1, (next D1).2.2)], (next D1).2.2, m1, op1 || (next D1).2.1, cv1, rfl, ⟨?_, ?_, ?_, ?_, ?_⟩, HTO9.out.lx.same HBB.out, HCC.out _ _ HC9.out, HW9.out, HB9.out.trans HBE.out⟩
          · rw [← hI.toks, hT]; simp
          · rw [← hI.num, hT, ← HM1.out]; show _ = m + (_ + _); omega
          · rw [← hI.opn, hT, ← HOP1.out]; simp [Bool.or_assoc]
          · have h1 := next_lt n0; have h2 := HCL.out; have h3 := hI.size; have h4 := HM1.out; have h5 := HCT.out; go_light; omega
          · have h1 := next_lt n0; have h2 := HCL.out; have h3 := hI.many; go_light; rw [List.length_append]; simp; omega
    · have n0 : pk D1 0 = -1 := by simpa using k0
      have HN := Lib.hid (next_eof n0)
      have hk0 : ((next D1).1.kind == 0) = true := by rw [HN.out]; rfl
      go_wp2_with fail
      go_quiet (fail)
      go_wp2_with fail
      obtain ⟨ys, hys⟩ := HC1.out.own
      obtain ⟨Ac, kc, hcv⟩ := own_slice hys
      obtain ⟨xs, hxs, hrow⟩ := (HO1.out.lk HTO.out.lk).own
      have hI := HI.out
      have hT := HU.out
      rw [if_pos n0] at hT
      have e1 : l = (tokens ds).1 := by rw [← hI.toks, hT, List.append_nil]
      have e2 : m1 = (tokens ds).2.1 := by rw [← hI.num, hT, ← HM1.out]
      have e3 : op1 = (tokens ds).2.2 := by rw [← hI.opn, hT, ← HOP1.out]
      go_ret3
      refine ⟨u6, Ac, kc, xs, ?_, ?_, ?_, ?_⟩
      · rw [← e2, ← e3, ← hcv]
        show Ending.returned (.tuple #[u6, cv1, .bool (op1 || (next D1).2.1)]) = _
        rw [HN.out, Bool.or_false]
      · rw [← e1]
        exact own_drewN (hxs.alloc _) _
      · rw [← e1]; exact hrow
      · have hb2 : Below w0.heap.size w0 w2 := HB1.out.trans (HTO.out.lk.below (Nat.le_refl _) (Below.refl _ _) HB1.out.size)
        have h9 := hb2.alloc hb2.size (.cells #[.int .i64 (next D1).1.kind, .int .i64 0, .int .i64 0, .int .i64 ((next D1).1.unit : Nat), .bool id, .string (bsOf (enc (next D1).1.text))] 62)
        exact ⟨h9.os, h9.tape, h9.output, h9.size, h9.block⟩
end Go.Proofs.YtkfdcbdlcipmfaaGreatFmt
