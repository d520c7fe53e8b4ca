/- Walks: the reference's tokens of a text. -/
import Derived.Test.YtkfdcbdlcipmfaaGreatFmtG35
import Derived.Test.YtkfdcbdlcipmfaaGreatFmtG09
set_option linter.unusedVariables false
set_option linter.unusedSimpArgs false
namespace Go.Proofs.YtkfdcbdlcipmfaaGreatFmt
open Go.RowKit Css
def tkCells (s : ByteArray) (x : Tk × List Int × List Int) (id : Bool) : List Value := [.int .i64 x.1.kind, .int .i64 (pos s x.2.1 : Nat), .int .i64 (pos s x.2.2 : Nat), .int .i64 (x.1.unit : Nat), .bool id, .string (bsOf (enc x.1.text))]
inductive TkRow (s : ByteArray) : List (Tk × List Int × List Int) → List Value → Prop
  | nil : TkRow s [] []
  | snoc (l : List (Tk × List Int × List Int)) (xs : List Value) (x : Tk × List Int × List Int) (id : Bool) : TkRow s l xs → TkRow s (l ++ [x]) (xs ++ tkCells s x id)
theorem next_kind0 {ds : List Int} (h : pk ds 0 ≠ -1) : (next ds).1.kind ≠ 0 := by
  unfold next
  rw [if_neg h]
  split
  · simp
  split
  · have := quotedRun_kind (pk ds 0) ds.tail; simp only []; omega
  split
  · simp
  split
  · have := numeric_kind ds; omega
  split
  · simp
  split
  · have := named_kind ds; omega
  split
  · simp
  split
  · simp
  · simp only []
    unfold signKind
    repeat (refine ite_ok (P := fun k => k ≠ 0) (by decide) ?_)
    decide
theorem next_eof {ds : List Int} (h : pk ds 0 = -1) : next ds = (⟨0, 0, []⟩, false, ds) := by unfold next; rw [if_pos h]
theorem comments_count (ds : List Int) : (comments ds).1 + (comments ds).2.2.length ≤ ds.length := by
  fun_induction comments ds with
  | case1 ds h h2 =>
    have h0 := len_of_pk (ds := ds) (by rw [h.1]; decide)
    have h3 := comEnd_len ds.tail.tail
    have h4 := List.length_tail (l := ds)
    have h5 := List.length_tail (l := ds.tail)
    simp only []; omega
  | case2 ds h h2 ih =>
    have h0 := len_of_pk (ds := ds) (by rw [h.1]; decide)
    have h3 := comEnd_len ds.tail.tail
    have h4 := List.length_tail (l := ds)
    have h5 := List.length_tail (l := ds.tail)
    simp only []; omega
  | case3 => simp
theorem tokens_unf (D : List Int) : tokens D = if pk (comments D).2.2 0 = -1 then ([], (comments D).1, (comments D).2.1) else
    (((next (comments D).2.2).1, (comments D).2.2, (next (comments D).2.2).2.2) :: (tokens (next (comments D).2.2).2.2).1, (comments D).1 + (tokens (next (comments D).2.2).2.2).2.1, (comments D).2.1 || (next (comments D).2.2).2.1 || (tokens (next (comments D).2.2).2.2).2.2) := by
  rw [tokens]; simp only [dite_eq_ite]
def TokR (s : ByteArray) (ds : List Int) (w : World) (e : Ending) (w' : World) : Prop :=
  ∃ (out : Value) (A : Option Addr) (c : Nat) (xs : List Value), e = .returned (.tuple #[out, .slice A (tokens ds).2.1 c, .bool (tokens ds).2.2]) ∧ w'.ownsRow w.heap.size 62 6 out (tokens ds).1.length xs ∧ TkRow s (tokens ds).1 xs ∧ Below w.heap.size w w'
structure TI (ds : List Int) (l : List (Tk × List Int × List Int)) (D : List Int) (m : Nat) (op' : Bool) : Prop where
  toks : l ++ (tokens D).1 = (tokens ds).1
  num : m + (tokens D).2.1 = (tokens ds).2.1
  opn : (op' || (tokens D).2.2) = (tokens ds).2.2
  size : m + D.length ≤ ds.length
  many : l.length + D.length ≤ ds.length
theorem ty_ne {o : Option Obj} {T T' : TypeId} (h : IsTy T o) (hne : T ≠ T') : ¬ IsTy T' o := by
  obtain ⟨cs, fr, rfl⟩ := h
  rintro ⟨cs', fr', h⟩
  injection h with h
  injection h with _ h _
  exact hne h
structure Ow (B b : Nat) (s : ByteArray) (l : List (Tk × List Int × List Int)) (v : Value) (w : World) : Prop where
  own : ∃ xs, w.ownsRow B 62 6 v l.length xs ∧ TkRow s l xs
  ne : v.ownBlock ≠ some b
theorem Ow.lc {B b : Nat} {s : ByteArray} {l : List (Tk × List Int × List Int)} {v : Value} {w w' : World} (h : Ow B b s l v w) (hk : Lc 169 B b w w') : Ow B b s l v w' := by
  obtain ⟨xs, ho, hr⟩ := h.own
  refine ⟨⟨xs, own_keep ho (fun q hq => ?_), hr⟩, h.ne⟩
  obtain ⟨h1, h2, h3⟩ := own_lt ho hq
  exact hk.block q h1 (fun e => h.ne (by rw [hq, e])) (ty_ne h3 (by decide))
theorem Ow.lk {B b : Nat} {s : ByteArray} {l : List (Tk × List Int × List Int)} {v : Value} {w w' : World} (h : Ow B b s l v w) (hk : Lk b w w') : Ow B b s l v w' := by
  obtain ⟨xs, ho, hr⟩ := h.own
  exact ⟨⟨xs, own_keep ho fun q hq => hk.block q (own_lt ho hq).1 (fun e => h.ne (by rw [hq, e])), hr⟩, h.ne⟩
theorem Cm.grown {B b : Nat} {cv : Value} {n : Nat} {w w' : World} (h : Cm B b cv n w) {v : Value} {k bs : Nat} {xs : List Value} (hg : w.grownBy w' v.ownBlock) (ho : w.ownsRow B 62 bs v k xs) : Cm B b cv n w' := by
  obtain ⟨ys, hc⟩ := h.own
  refine ⟨⟨ys, own_keep hc (fun q hq => hg.block q (own_lt hc hq).1 (fun e => ?_))⟩, h.ne⟩
  exact ty_ne (own_lt hc hq).2.2 (by decide) (own_lt ho e.symm).2.2
section
variable {ops : Array Oper} {rest : List Oper} {o : Oper} {a : Act} {Q : Exit → Act → World → Prop}
theorem wpList_tok (hgd : o.guard = none) (s x : Operand) (ho : o.op = .call { callee := .builtin .append, args := #[s, x], argTypes := #[96, 96] })
    {B b : Nat} {sx : ByteArray} {l : List (Tk × List Int × List Int)} {v : Value} {w : World} (H : Ow B b sx l v w) (hB : B ≤ w.heap.size) (hb : b < w.heap.size) (tk : Tk × List Int × List Int) (id : Bool) (hn : l.length ≤ 2147483647)
    (hs : a.eval s = v) (hx : a.eval x = .slice (some ⟨w.heap.size, 0, none⟩) 1 1)
    (h : ∀ v' w', Ow B b sx (l ++ [tk]) v' w' → Below B w w' → w'.heap[b]? = w.heap[b]? → (∀ cv n, Cm B b cv n w → Cm B b cv n w') → wpList Tryz.prog ops Q rest (a.put o.dst v') w') :
    wpList Tryz.prog ops Q (o :: rest) a (w.alloc (.cells #[.int .i64 tk.1.kind, .int .i64 (pos sx tk.2.1 : Nat), .int .i64 (pos sx tk.2.2 : Nat), .int .i64 (tk.1.unit : Nat), .bool id, .string (bsOf (enc tk.1.text))] 62)) := by
  obtain ⟨i, hi, hz0, hz1, hz2⟩ := parts_of info62
  obtain ⟨xs, hown, hrow⟩ := H.own
  have H1 : (w.alloc (.cells #[.int .i64 tk.1.kind, .int .i64 (pos sx tk.2.1 : Nat), .int .i64 (pos sx tk.2.2 : Nat), .int .i64 (tk.1.unit : Nat), .bool id, .string (bsOf (enc tk.1.text))] 62)).ownsRow B 62 6 v l.length xs := hown.alloc _
  generalize hO : Obj.cells #[.int .i64 tk.1.kind, .int .i64 (pos sx tk.2.1 : Nat), .int .i64 (pos sx tk.2.2 : Nat), .int .i64 (tk.1.unit : Nat), .bool id, .string (bsOf (enc tk.1.text))] 62 = O at H1 ⊢
  have hsz : (w.alloc O).heap.size = w.heap.size + 1 := by simp
  obtain ⟨v', w', hr, h2, h3, _, h5⟩ := run_append_own_at (P := Tryz.prog) (w.alloc O) B 96 o.type 62 i (.agg #[.int .i64 0, .int .i64 0, .int .i64 0, .int .i64 0, .bool false, .string ⟨#[]⟩]) 6 56 Tryz.underlying96 hi hz0 hz1 hz2 rfl (by decide) v l.length xs H1 ⟨w.heap.size, 0, none⟩ 1 1 (tkCells sx tk id) rfl (by
    intro j u hj
    have e : (⟨w.heap.size, 0, none⟩ : Addr).add j = ⟨w.heap.size, j, none⟩ := by
      unfold Addr.add; split
      · rename_i h; subst h; rfl
      · simp
    rw [e, ← hO, World.cell?_alloc_mark w _ _ _ j, ← hj]; simp [tkCells]) (by simp [tkCells, Value.oneCell']) (by unfold maxLen; omega) (by omega) (by omega)
  have hla : Below B w (w.alloc O) := (Below.refl _ _).alloc hB _
  have hlb : Lc 62 B b (w.alloc O) w' := Lc.grown h3 H1 (by omega)
  have hbb : w'.heap[b]? = w.heap[b]? := by
    rw [h3.block b (by omega) (fun e => H.ne e.symm)]
    exact Below.heap_alloc w _ b hb
  have hne : v'.ownBlock ≠ some b := by
    rcases h5 with e | e
    · rw [e]; exact H.ne
    · rw [e]; intro hx; injection hx with hx; omega
  refine wpList_plain hgd fun K hK => ?_
  unfold Oper.wp execOp
  simp only [ho, resolve, invoke, builtin, Sem.run_bind, Sem.run_pure, Result.andThen_ok, List.map_toArray, List.map_cons, List.map_nil, hs, hx, hr]
  refine hK _ _ (h v' w' ⟨⟨_, by rw [List.length_append]; exact h2, .snoc _ _ _ _ hrow⟩, hne⟩ (hla.trans (hlb.below (by omega))) hbb fun cv n hc => ?_)
  obtain ⟨ys, hy⟩ := hc.own
  have hc1 : Cm B b cv n (w.alloc O) := ⟨⟨ys, hy.alloc _⟩, hc.ne⟩
  exact hc1.grown h3 H1
end
set_option maxHeartbeats 3200000 in
set_option maxRecDepth 100000 in
theorem tokens_any (s : ByteArray) (hs : (s.size : Int) ≤ 2147483647) (w : World) : Calls Tryz.prog 44 #[.string s] w (TokR s (dec s.data.toList) w) := by
  have hl : (dec s.data.toList).length ≤ 2147483647 := by
    have := suf_len (suf_all s); omega
  have HLEN := Lib.hid hl
  have HP0 := Lib.hid (pos_all s)
  have HSA := Lib.hid (suf_all s)
  generalize dec s.data.toList = ds at HLEN HP0 HSA ⊢
  have HS := Lib.hid hs
  clear hl hs
  rename World => w0
  have HX0 : Hid (LX w0.heap.size s ds (.slice none 0 0) false (w0.alloc (.cells #[.string s, .int .i64 0, .slice none 0 0, .bool false] 146))) := by
    refine ⟨⟨146, ?_⟩, HSA.out, by have := HS.out; omega⟩
    rw [HP0.out]
    exact heap_alloc_new w0 _
  have HC0 : Hid (Cm w0.heap.size w0.heap.size (.slice none 0 0) 0 (w0.alloc (.cells #[.string s, .int .i64 0, .slice none 0 0, .bool false] 146))) := ⟨⟨[], by simp, .inl ⟨rfl, rfl⟩⟩, by simp [Value.ownBlock]⟩
  go_enter Tryz.func44, Tryz.ntmps44
  go_wp2_with fail
  have HW0 : Hid (Below w0.heap.size w0 (w0.alloc (.cells #[.string s, .int .i64 0, .slice none 0 0, .bool false] 146))) := (Below.refl _ _).alloc (Nat.le_refl _) _
  go_loopg [6] ds.length (fun k p6 wr => ∃ (l : List (Tk × List Int × List Int)) (D : List Int) (m : Nat) (op' : Bool) (cv' : Value), D.length = k ∧ Hid (TI ds l D m op') ∧ Hid (LX w0.heap.size s D cv' op' wr) ∧ Hid (Cm w0.heap.size w0.heap.size cv' m wr) ∧ Hid (Ow w0.heap.size w0.heap.size s l p6 wr) ∧ Hid (Below w0.heap.size w0 wr))
  case atStart => exact ⟨[], ds, 0, false, _, rfl, ⟨rfl, Nat.zero_add _, rfl, by simp, by simp⟩, HX0.out, HC0.out, ⟨⟨[], ⟨by simp, .inl ⟨rfl, rfl⟩⟩, .nil⟩, by simp [Value.ownBlock]⟩, HW0.out⟩
  case round =>
    obtain ⟨l, D, m, op', cv', hD, HI, HX, HM, HO, HB⟩ := hrel
    clear HX0 HC0 HW0
    go_wp2_with fail
    refine (comment_any HX.out w0.heap.size m (Nat.le_refl _) HM.out (by have := HI.out.size; have := HLEN.out; omega)).mono ?_
    rintro e w1 ⟨rfl, cv1, hlx, hcm, hlc⟩
    have HU := Lib.hid (tokens_unf D)
    have HCL := Lib.hid (comments_len D)
    have HCT := Lib.hid (comments_count D)
    generalize hD1 : (comments D).2.2 = D1 at hlx HU HCL HCT
    generalize hop1 : (op' || (comments D).2.1) = op1 at hlx
    generalize hm1 : m + (comments D).1 = m1 at hcm
    have HOP1 := Lib.hid hop1
    have HM1 := Lib.hid hm1
    clear hD1 hop1 hm1
    have HX1 := Lib.hid hlx
    have HC1 := Lib.hid hcm
    have HO1 := Lib.hid (HO.out.lc hlc)
    have HB1 : Hid (Below w0.heap.size w0 w1) := HB.out.trans (hlc.below HB.out.size)
    have hc1 := hlx.c1
    clear hlx hcm hlc
    go_wp2_with fail
    refine (next_any HX1.out).mono ?_
    rintro e w2 ⟨id, he, hto⟩
    unfold tkV at he
    subst he
    have HTO := Lib.hid hto
    have hc1 := hto.lx.c1
    have hc2 := hto.lx.c2
    have hc3 := hto.lx.c3
    have hlt2 := hto.lx.lt
    clear hto
    cases k0 : (pk D1 0 == -1)
    · have n0 : ¬ pk D1 0 = -1 := by simpa using k0
      have hk0 : ((next D1).1.kind == 0) = false := by simpa using next_kind0 n0
      go_wp2_with fail
      go_region
      all_goals
        go_upto_region 9 with (fail)
        have hto := HTO.out
        have ht8 : ((w2.alloc (.cells #[.int .i64 (next D1).1.kind, .int .i64 (pos s D1 : Nat), .int .i64 (pos s (next D1).2.2 : Nat), .int .i64 ((next D1).1.unit : Nat), .bool id, .string (bsOf (enc (next D1).1.text))] 62)).drew).heap[w2.heap.size]? = some (.cells #[.int .i64 (next D1).1.kind, .int .i64 (pos s D1 : Nat), .int .i64 (pos s (next D1).2.2 : Nat), .int .i64 ((next D1).1.unit : Nat), .bool id, .string (bsOf (enc (next D1).1.text))] 62 (0, 0)) := heap_alloc_new w2 _
        have hW : Below w2.heap.size w2 ((w2.alloc (.cells #[.int .i64 (next D1).1.kind, .int .i64 (pos s D1 : Nat), .int .i64 (pos s (next D1).2.2 : Nat), .int .i64 ((next D1).1.unit : Nat), .bool id, .string (bsOf (enc (next D1).1.text))] 62)).drew) := ((Below.refl _ _).alloc (Nat.le_refl _) _).drew
        generalize (w2.alloc (.cells #[.int .i64 (next D1).1.kind, .int .i64 (pos s D1 : Nat), .int .i64 (pos s (next D1).2.2 : Nat), .int .i64 ((next D1).1.unit : Nat), .bool id, .string (bsOf (enc (next D1).1.text))] 62)).drew = W9 at ht8 hW ⊢
        have t0 := cell_blk ht8 0
        have t1 := cell_blk ht8 1
        have t2 := cell_blk ht8 2
        have t3 := cell_blk ht8 3
        have t4 := cell_blk ht8 4
        have t5 := cell_blk ht8 5
        have hto9 := hto.below hW
        have HTO9 := Lib.hid hto9
        have HO9 := Lib.hid (HO1.out.lk hto9.lk)
        have HC9 := Lib.hid (HC1.out.lk hto9.lk)
        have HB9 : Hid (Below w0.heap.size w0 W9) := HB1.out.trans (hto9.lk.below (Nat.le_refl _) (Below.refl _ _) HB1.out.size)
        have hB9 : w0.heap.size ≤ W9.heap.size := HB9.out.size
        have hb9 : w0.heap.size < W9.heap.size := hto9.lx.lt
        have HLN : Hid (l.length ≤ 2147483647) := by go_light; show _ ≤ _; have := HI.out.many; have := HLEN.out; omega
        clear ht8 hW hto hto9 hc1 hc2 hc3
        go_wp2_with (at_builtin; go_must (refine wpList_tok rfl _ _ rfl HO9.out hB9 hb9 ((next D1).1, D1, (next D1).2.2) id HLN.out rfl rfl ?_; intro v' w9 hw9 hbe hbb hcc; have HW9 := Lib.hid hw9; have HBE := Lib.hid hbe; have HBB := Lib.hid hbb; have HCC := Lib.hid hcc; clear hw9 hbe hbb hcc))
        go_roundg (next D1).2.2.length
        case measure =>
          go_light
          have h1 := next_lt n0
          have h2 := HCL.out
          omega
        case rel =>
          have hT := HU.out
          rw [if_neg n0] at hT
          have hI := HI.out
          refine ⟨l ++ [((next D1).1, D1, (next D1).2.2)], (next D1).2.2, m1, op1 || (next D1).2.1, cv1, rfl, ⟨?_, ?_, ?_, ?_, ?_⟩, HTO9.out.lx.same HBB.out, HCC.out _ _ HC9.out, HW9.out, HB9.out.trans HBE.out⟩
          · rw [← hI.toks, hT]; simp
          · rw [← hI.num, hT, ← HM1.out]; show _ = m + (_ + _); omega
          · rw [← hI.opn, hT, ← HOP1.out]; simp [Bool.or_assoc]
          · have h1 := next_lt n0; have h2 := HCL.out; have h3 := hI.size; have h4 := HM1.out; have h5 := HCT.out; go_light; omega
          · have h1 := next_lt n0; have h2 := HCL.out; have h3 := hI.many; go_light; rw [List.length_append]; simp; omega
    · have n0 : pk D1 0 = -1 := by simpa using k0
      have HN := Lib.hid (next_eof n0)
      have hk0 : ((next D1).1.kind == 0) = true := by rw [HN.out]; rfl
      go_wp2_with fail
      go_quiet (fail)
      go_wp2_with fail
      obtain ⟨ys, hys⟩ := HC1.out.own
      obtain ⟨Ac, kc, hcv⟩ := own_slice hys
      obtain ⟨xs, hxs, hrow⟩ := (HO1.out.lk HTO.out.lk).own
      have hI := HI.out
      have hT := HU.out
      rw [if_pos n0] at hT
      have e1 : l = (tokens ds).1 := by rw [← hI.toks, hT, List.append_nil]
      have e2 : m1 = (tokens ds).2.1 := by rw [← hI.num, hT, ← HM1.out]
      have e3 : op1 = (tokens ds).2.2 := by rw [← hI.opn, hT, ← HOP1.out]
      go_ret3
      refine ⟨u6, Ac, kc, xs, ?_, ?_, ?_, ?_⟩
      · rw [← e2, ← e3, ← hcv]
        show Ending.returned (.tuple #[u6, cv1, .bool (op1 || (next D1).2.1)]) = _
        rw [HN.out, Bool.or_false]
      · rw [← e1]
        exact own_drewN (hxs.alloc _) _
      · rw [← e1]; exact hrow
      · have hb2 : Below w0.heap.size w0 w2 := HB1.out.trans (HTO.out.lk.below (Nat.le_refl _) (Below.refl _ _) HB1.out.size)
        have h9 := hb2.alloc hb2.size (.cells #[.int .i64 (next D1).1.kind, .int .i64 0, .int .i64 0, .int .i64 ((next D1).1.unit : Nat), .bool id, .string (bsOf (enc (next D1).1.text))] 62)
        exact ⟨h9.os, h9.tape, h9.output, h9.size, h9.block⟩
end Go.Proofs.YtkfdcbdlcipmfaaGreatFmt
namespace Go.Proofs.YtkfdcbdlcipmfaaGreatFmt
open Go.RowKit Css
theorem runeS {s : ByteArray} {ds : List Int} (h : Suf s ds) (hs : (s.size : Int) ≤ 140737488355328) (w : World) (n : Nat) (hn : n = (runeQ s (pos s ds)).2) : Calls Tryz.prog 52 #[.string s, .int .i64 (pos s ds : Nat)] w fun e w' => e = .returned (.tuple #[.int .i64 (pk ds 0), .int .i64 (n : Nat)]) ∧ w = w' := by
  subst hn
  refine (rune_any s (pos s ds) hs w).mono ?_
  rintro e w' ⟨he, hw⟩
  exact ⟨by rw [he, (rune_suf h).1], hw⟩
def plainGo (first : Bool) (D : List Int) : Bool := D.all okC && !(first && pk D 0 == 65279)
theorem pos_pos {s : ByteArray} {ds : List Int} (h : Suf s ds) : (pos s ds : Int) < (s.size : Int) ↔ ds ≠ [] := by
  have hb := h.bw_le
  unfold pos
  cases ds with
  | nil => simp [bw]
  | cons c t =>
    have := (wd_pos c).1
    simp only [bw] at hb ⊢
    constructor
    · intro _; simp
    · intro _; omega
set_option maxHeartbeats 800000 in
set_option maxRecDepth 100000 in
theorem plain_any (s : ByteArray) (hs : (s.size : Int) ≤ 140737488355328) (w : World) : Calls Tryz.prog 43 #[.string s] w (RetB (isPlainB s.data.toList) w) := by
  have HS := Lib.hid hs
  have HP : Hid (isPlainB s.data.toList = plainGo (((pos s (dec s.data.toList) : Nat) : Int) == 0) (dec s.data.toList)) := by
    show _ = _
    unfold isPlainB plainGo okDec
    rw [pos_all]; simp
  have HSA := Lib.hid (suf_all s)
  have hp0 := pos_all s
  generalize dec s.data.toList = ds at HP HSA hp0
  have HP0 := Lib.hid hp0
  clear hs hp0
  rename World => w0
  go_enter Tryz.func43, Tryz.ntmps43
  go_wp2_with fail
  go_loopg [3] ds.length (fun k p3 wr => ∃ D : List Int, p3 = .int .i64 (pos s D : Nat) ∧ D.length = k ∧ wr = w0 ∧ Hid (Suf s D) ∧ Hid (isPlainB s.data.toList = plainGo ((pos s D : Int) == 0) D))
  case atStart => exact ⟨ds, by rw [HP0.out]; rfl, rfl, rfl, HSA.out, HP.out⟩
  case round =>
    obtain ⟨D, rfl, hD, rfl, HSF, HB⟩ := hrel
    clear HP HSA HP0
    have hps : (pos s D : Int) ≤ 140737488355328 := by have := @pos_le s D; have := HS.out; omega
    by_cases hD0 : D = []
    · have hle : (s.size : Int) ≤ (pos s D : Int) := Int.not_lt.1 (fun h => (pos_pos HSF.out).1 h hD0)
      have HF : Hid (isPlainB s.data.toList = true) := by show _ = _; rw [HB.out, hD0]; simp [plainGo]
      clear hD0
      go_wp2_with fail
      go_ret
      exact RetB.mk' (by rw [HF.out])
    · have hlt := (pos_pos HSF.out).2 hD0
      obtain ⟨n, hn⟩ : ∃ n : Nat, n = (runeQ s (pos s D)).2 := ⟨_, rfl⟩
      have HN := Lib.hid hn
      have HPT : Hid ((pos s D.tail : Nat) = pos s D + n) := by show _ = _; rw [hn]; exact (rune_suf HSF.out).2.symm
      have hnb : (n : Int) ≤ 140737488355328 := by have := HPT.out; have := @pos_le s D.tail; have := HS.out; omega
      have HCT : Hid (∃ t, D = pk D 0 :: t ∧ D.tail = t) := by
        cases D with
        | nil => exact absurd rfl hD0
        | cons c t => exact ⟨t, by simp, rfl⟩
      have HLT : Hid (D.tail.length < D.length) := by
        obtain ⟨t, h1, h2⟩ := HCT.out
        show _ < _
        rw [h2]; rw [h1]; simp
      have HPN : Hid (¬ (pos s D.tail : Int) = 0) := by
        have h1 := HPT.out
        have h2 := HSF.out.bw_le
        obtain ⟨t, h3, h4⟩ := HCT.out
        have h5 := (wd_pos (pk D 0)).1
        have h6 : bw D = wd (pk D 0) + bw t := by rw [h3]; simp [bw]
        show ¬ _
        unfold pos at *
        rw [h4] at h1 ⊢
        omega
      clear hn hD0
      have hway : ((pk D 0 == -2) = true ∧ Hid (isPlainB s.data.toList = false)) ∨ ((pk D 0 == -2) = false ∧ (pk D 0 == 0) = true ∧ Hid (isPlainB s.data.toList = false)) ∨ ((pk D 0 == -2) = false ∧ (pk D 0 == 0) = false ∧ ((pos s D : Int) == 0) = true ∧ (pk D 0 == 65279) = true ∧ Hid (isPlainB s.data.toList = false)) ∨
          ((pk D 0 == -2) = false ∧ (pk D 0 == 0) = false ∧ ((pos s D : Int) == 0) = true ∧ (pk D 0 == 65279) = false ∧ Hid (isPlainB s.data.toList = plainGo ((pos s D.tail : Int) == 0) D.tail)) ∨ ((pk D 0 == -2) = false ∧ (pk D 0 == 0) = false ∧ ((pos s D : Int) == 0) = false ∧ Hid (isPlainB s.data.toList = plainGo ((pos s D.tail : Int) == 0) D.tail)) := by
        have hid : ∀ p : Prop, Hid p = p := fun _ => rfl
        simp only [hid]
        rw [HB.out]
        obtain ⟨t, h1, h2⟩ := HCT.out
        have h3 : ((pos s D.tail : Int) == 0) = false := by simpa using HPN.out
        rw [h3, h2]
        have e : ∀ f, plainGo f D = ((okC (pk D 0) && t.all okC) && !(f && pk D 0 == 65279)) := by
          intro f
          unfold plainGo
          conv => lhs; rw [h1]
          simp
        have e2 : plainGo false t = t.all okC := by simp [plainGo]
        rw [e, e2]
        generalize t.all okC = X
        unfold okC
        generalize (pk D 0) = c
        cases (c == -2) <;> cases (c == 0) <;> cases ((pos s D : Int) == 0) <;> cases (c == 65279) <;> cases X <;> simp
      rcases hway with ⟨q1, HF⟩ | ⟨q1, q2, HF⟩ | ⟨q1, q2, q3, q4, HF⟩ | ⟨q1, q2, q3, q4, HF⟩ | ⟨q1, q2, q3, HF⟩
      iterate 3
        · go_wp2_with (go_at_call 52; go_must (refine (runeS HSF.out HS.out _ n HN.out).mono ?_; rintro e w' ⟨rfl, rfl⟩))
          go_ret
          exact RetB.mk' (by rw [HF.out])
      all_goals
        go_wp2_with (go_at_call 52; go_must (refine (runeS HSF.out HS.out _ n HN.out).mono ?_; rintro e w' ⟨rfl, rfl⟩))
        go_roundg D.tail.length
        case measure => have := HLT.out; omega
        case rel => exact ⟨D.tail, by rw [HPT.out]; go_num, rfl, rfl, HSF.out.tail, HF.out⟩
def lowQ (l : List UInt8) : Bool := l.all fun b => decide (b.toNat < 244)
set_option maxHeartbeats 800000 in
set_option maxRecDepth 100000 in
theorem low_any (s : ByteArray) (hs : (s.size : Int) ≤ 140737488355328) (w : World) : Calls Tryz.prog 38 #[.string s] w (RetB (lowQ s.data.toList) w) := by
  have HS := Lib.hid hs
  rename World => w0
  go_enter Tryz.func38, Tryz.ntmps38
  go_wp2_with fail
  go_loopg [6] s.size (fun k p6 wr => ∃ i : Nat, p6 = .int .i64 i ∧ i + k = s.size ∧ wr = w0 ∧ Hid (lowQ s.data.toList = lowQ (s.data.toList.drop i)))
  case atStart => exact ⟨0, rfl, by omega, rfl, rfl⟩
  case round =>
    obtain ⟨i, rfl, hik, rfl, HB⟩ := hrel
    have hi0 : (0 : Int) ≤ (i : Int) := by omega
    have hi1 : (i : Int) ≤ 140737488355328 := by omega
    by_cases hlt : i < s.size
    · have hlti : (i : Int) < (s.size : Int) := by omega
      have hx := bt_get s i
      have hr := bt_range s i
      obtain ⟨x, hx1, hx2⟩ := drop_bt s i hlt
      have HX : Hid (lowQ s.data.toList = (decide (bt s i < 244) && lowQ (s.data.toList.drop (i + 1)))) := by
        show _ = _
        rw [HB.out, hx2]
        unfold lowQ
        rw [List.all_cons]
        congr 1
        rw [Bool.eq_iff_iff]; simp; omega
      clear hx1 hx2 HB
      generalize bt s i = xi at hx hr HX
      by_cases hq : xi < 244
      · have HF : Hid (lowQ s.data.toList = lowQ (s.data.toList.drop (i + 1))) := by
          show _ = _; rw [HX.out]; simp [hq]
        go_wp2_with fail
        go_roundg (s.size - (i + 1))
        case measure => omega
        case rel => exact ⟨i + 1, by go_num, by omega, rfl, HF.out⟩
      · have HF : Hid (lowQ s.data.toList = false) := by
          show _ = _; rw [HX.out]; simp [hq]
        go_wp2_with fail
        go_ret
        exact RetB.mk' (by rw [HF.out])
    · have hle : (s.size : Int) ≤ (i : Int) := by omega
      have HF : Hid (lowQ s.data.toList = true) := by
        show _ = _; rw [HB.out, List.drop_eq_nil_of_le (show s.size ≤ i by omega)]; rfl
      go_wp2_with fail
      go_ret
      exact RetB.mk' (by rw [HF.out])
end Go.Proofs.YtkfdcbdlcipmfaaGreatFmt
namespace Go.Proofs.YtkfdcbdlcipmfaaGreatFmt
open Go.RowKit Css
def RetK (c : Int) (b : Bool) (w : World) (e : Ending) (w' : World) : Prop := e = .returned (.tuple #[.int .i64 c, .bool b]) ∧ w = w'
def openQ (k : Int) : Bool := decide (opens k)
def closeQ (k : Int) : Int := if opens k then closeKind k else 0
set_option maxHeartbeats 800000 in
set_option maxRecDepth 100000 in
theorem opens_any (k : Int) (w : World) : Calls Tryz.prog 30 #[.int .i64 k] w (RetK (closeQ k) (openQ k) w) := by
  have hq : ((k == 27) = true ∧ Hid (closeQ k = 8 ∧ openQ k = true)) ∨ ((k == 27) = false ∧ (k == 33) = true ∧ Hid (closeQ k = 8 ∧ openQ k = true)) ∨ ((k == 27) = false ∧ (k == 33) = false ∧ (k == 32) = true ∧ Hid (closeQ k = 7 ∧ openQ k = true)) ∨ ((k == 27) = false ∧ (k == 33) = false ∧ (k == 32) = false ∧ (k == 31) = true ∧ Hid (closeQ k = 6 ∧ openQ k = true)) ∨ ((k == 27) = false ∧ (k == 33) = false ∧ (k == 32) = false ∧ (k == 31) = false ∧ Hid (closeQ k = 0 ∧ openQ k = false)) := by
    have hid : ∀ p : Prop, Hid p = p := fun _ => rfl
    simp only [beq_iff_eq, beq_eq_false_iff_ne, hid]
    by_cases c1 : k = 27
    · left; subst c1; exact ⟨rfl, by decide, by decide⟩
    by_cases c2 : k = 33
    · right; left; subst c2; exact ⟨by decide, rfl, by decide, by decide⟩
    by_cases c3 : k = 32
    · right; right; left; subst c3; exact ⟨by decide, by decide, rfl, by decide, by decide⟩
    by_cases c4 : k = 31
    · right; right; right; left; subst c4; exact ⟨by decide, by decide, by decide, rfl, by decide, by decide⟩
    · right; right; right; right
      have : ¬ opens k := by unfold opens; omega
      exact ⟨c1, c2, c3, c4, by unfold closeQ; rw [if_neg this], by unfold openQ; simp [this]⟩
  rcases hq with ⟨q1, HF⟩ | ⟨q1, q2, HF⟩ | ⟨q1, q2, q3, HF⟩ | ⟨q1, q2, q3, q4, HF⟩ | ⟨q1, q2, q3, q4, HF⟩
  all_goals
    go_enter Tryz.func30, Tryz.ntmps30
    go_wp2
    go_ret2
    exact ⟨by rw [HF.out.1, HF.out.2]; rfl, rfl⟩
end Go.Proofs.YtkfdcbdlcipmfaaGreatFmt
namespace Go.Proofs.YtkfdcbdlcipmfaaGreatFmt
open Go.RowKit Css
theorem dec_x (l : List UInt8) : dec (120 :: l) = 120 :: dec l := by
  rw [dec]
  have h : runeL (120 :: l) = (120, 1) := by rw [runeL_cons]; rfl
  rw [h]; rfl
theorem plain_x (s : ByteArray) : isPlainB ((⟨#[120]⟩ : ByteArray) ++ s).data.toList = okDec s.data.toList := by
  have e : ((⟨#[120]⟩ : ByteArray) ++ s).data.toList = 120 :: s.data.toList := by simp
  rw [e]
  unfold isPlainB okDec
  rw [dec_x]
  simp [okC]
theorem empty_of {s : ByteArray} (h : s.size = 0) : s = ⟨#[]⟩ := by
  obtain ⟨a⟩ := s
  have : a.size = 0 := h
  rw [Array.size_eq_zero_iff] at this
  rw [this]
set_option maxHeartbeats 800000 in
set_option maxRecDepth 100000 in
theorem isName_any (s : ByteArray) (hs : (s.size : Int) ≤ 2147483647) (w : World) : Calls Tryz.prog 42 #[.string s] w (RetB (isNameB s.data.toList) w) := by
  by_cases h0 : s.size = 0
  · have := empty_of h0
    subst this
    clear h0
    go_enter Tryz.func42, Tryz.ntmps42
    go_wp2
    go_ret
    exact RetB.mk' rfl
  · have HF : Hid (isNameB s.data.toList = okDec s.data.toList) := by
      show _ = _; unfold isNameB
      have : s.data.toList.isEmpty = false := by
        cases hl : s.data.toList with
        | nil => have : s.data.toList.length = s.size := rfl; rw [hl] at this; simp at this; omega
        | cons a t => rfl
      rw [this]; rfl
    have HX := Lib.hid (plain_x s)
    have hse : s.toList.isEmpty = false ∧ (!s.toList.isEmpty) = true := by
      have := toList_ne s (by omega)
      simp [this]
    obtain ⟨hse1, hse2⟩ := hse
    have hsz : (((⟨#[120]⟩ : ByteArray) ++ s).size : Int) ≤ 140737488355328 := by
      rw [ByteArray.size_append]; show ((1 + s.size : Nat) : Int) ≤ _; omega
    have HSZ := Lib.hid hsz
    have hsum : 1 + s.size ≤ 2147483648 := by omega
    clear h0 hsz
    go_enter Tryz.func42, Tryz.ntmps42
    go_wp2_with fail
    refine (plain_any _ HSZ.out _).mono ?_
    rintro e w' ⟨rfl, rfl⟩
    rw [HX.out]
    cases h : okDec s.data.toList
    all_goals
      have H := Lib.hid h
      clear h
      go_wp2_with fail
      go_ret
      exact RetB.mk' (by rw [HF.out, H.out])
set_option maxHeartbeats 800000 in
set_option maxRecDepth 100000 in
theorem decoded_any (s : ByteArray) (hs : (s.size : Int) ≤ 140737488355328) (w : World) : Calls Tryz.prog 35 #[.string s] w (RetS (enc (name (dec s.data.toList)).1) w) := by
  have HX0 : Hid (LX w.heap.size s (dec s.data.toList) (.slice none 0 0) false (w.alloc (.cells #[.string s, .int .i64 0, .slice none 0 0, .bool false] 146))) := by
    refine ⟨⟨146, ?_⟩, suf_all s, hs⟩
    rw [pos_all]
    exact heap_alloc_new w _
  go_enter Tryz.func35, Tryz.ntmps35
  go_wp2_with fail
  refine (name_any HX0.out).mono ?_
  rintro e w1 ⟨rfl, hto⟩
  have HT := Lib.hid hto
  clear hto
  go_wp2_with fail
  go_ret
  exact ⟨rfl, HT.out.lk.below (Nat.le_refl _) ((Below.refl _ _).alloc (Nat.le_refl _) _) (by simp)⟩
end Go.Proofs.YtkfdcbdlcipmfaaGreatFmt
namespace Go.Proofs.YtkfdcbdlcipmfaaGreatFmt
open Go.RowKit Css
def lowB0 (s : List UInt8) (ascii : Bool) : Bool := !ascii || lowQ s
theorem lowB0_eq (s : List UInt8) (ascii : Bool) : lowB0 s ascii = lowB s ascii := by
  unfold lowB0 lowB lowQ
  rfl
set_option maxRecDepth 100000 in
theorem low2_any (s : ByteArray) (hs : (s.size : Int) ≤ 140737488355328) (ascii : Bool) (w : World) : Calls Tryz.prog 26 #[.string s, .bool ascii] w (RetB (lowB s.data.toList ascii) w) := by
  have HS := Lib.hid hs
  have HF := Lib.hid (lowB0_eq s.data.toList ascii)
  clear hs
  cases ascii
  · go_enter Tryz.func26, Tryz.ntmps26
    go_wp2_with fail
    go_ret
    exact RetB.mk' (by rw [← HF.out]; rfl)
  · go_enter Tryz.func26, Tryz.ntmps26
    go_wp2_with (go_at_call 38; go_must (refine (low_any _ HS.out _).mono ?_; rintro e w' ⟨rfl, rfl⟩))
    go_ret
    exact RetB.mk' (by rw [← HF.out]; rfl)
end Go.Proofs.YtkfdcbdlcipmfaaGreatFmt
namespace Go.Proofs.YtkfdcbdlcipmfaaGreatFmt
open Go.RowKit Css
def setPre (all : Bool) (l : List RN) (i : Nat) : List RN := (setR all l).take i ++ l.drop i
theorem setPre_len (all : Bool) (l : List RN) (i : Nat) : (setPre all l i).length = l.length := by
  unfold setPre; rw [List.length_append, List.length_take, List.length_drop, setR_len]; omega
theorem setPre_all (all : Bool) (l : List RN) : setPre all l l.length = setR all l := by
  unfold setPre; rw [List.drop_length, List.append_nil, ← setR_len all l, List.take_length]
theorem setPre_at (all : Bool) (l : List RN) (i j : Nat) (h : i ≤ j) (hl : i ≤ l.length) : (setPre all l i)[j]? = l[j]? := by
  unfold setPre
  have : ((setR all l).take i).length = i := by rw [List.length_take, setR_len]; omega
  rw [List.getElem?_append_right (by omega), this, List.getElem?_drop]
  congr 1; omega
theorem setR_get (all : Bool) : ∀ (l : List RN) (i : Nat) (n : RN), l[i]? = some n → (setR all l)[i]? = some { n with after := n.after || all || needs n.cp ((l.drop (i + 1)).map RN.cp) }
  | [], i, n, h => by simp at h
  | a :: r, 0, n, h => by simp at h; subst h; rfl
  | a :: r, i + 1, n, h => by simpa [setR] using setR_get all r i n (by simpa using h)
theorem setPre_succ (all : Bool) (l : List RN) (i : Nat) (n : RN) (h : l[i]? = some n) : setPre all l (i + 1) = (setPre all l i).set i { n with after := n.after || all || needs n.cp ((l.drop (i + 1)).map RN.cp) } := by
  unfold setPre
  have hlt : i < l.length := (List.getElem?_eq_some_iff.1 h).1
  have hl : ((setR all l).take i).length = i := by rw [List.length_take, setR_len]; omega
  rw [List.set_append_right _ _ (by omega), hl, Nat.sub_self, drop_cons2 h, List.set_cons_zero, List.take_add_one, setR_get all l i n h]
  simp
 where
  drop_cons2 {l : List RN} {i : Nat} {n : RN} (h : l[i]? = some n) : l.drop i = n :: l.drop (i + 1) := by
    obtain ⟨hlt, e⟩ := List.getElem?_eq_some_iff.1 h
    rw [← e]; exact List.drop_eq_getElem_cons hlt
theorem row_store {w : World} {B : Nat} {A : Option Addr} {c : Nat} {l : List RN} {i : Nat} {n : RN} {x : Bool} {q : Nat} (h : w.ownsRow B 50 6 (.slice A l.length c) l.length (nRow l)) (hA : A = some ⟨q, 0, none⟩) (hn : l[i]? = some n) :
    (w.setCell ⟨q, i * 6 + 5, none⟩ (.bool x)).ownsRow B 50 6 (.slice A l.length c) l.length (nRow (l.set i { n with after := x })) ∧ Below B w (w.setCell ⟨q, i * 6 + 5, none⟩ (.bool x)) := by
  subst hA
  have h1 := h.stored (i * 6 + 5) (.bool x)
  rw [nRow_set l i n x hn] at h1
  exact ⟨h1.1, (Below.refl _ _).grown h1.2 (Nat.le_of_lt (Nat.lt_of_le_of_lt (own_lt h rfl).2.1 (own_lt h rfl).1)) fun k hk => by injection hk with hk; subst hk; exact (own_lt h rfl).2.1⟩
end Go.Proofs.YtkfdcbdlcipmfaaGreatFmt
namespace Go.Proofs.YtkfdcbdlcipmfaaGreatFmt
open Go.RowKit Css
def clsI (k : Int) : Int := (cls k : Nat)
set_option maxHeartbeats 1600000 in
set_option maxRecDepth 100000 in
theorem class_any (k : Int) (w : World) : Calls Tryz.prog 50 #[.int .i64 k] w (RetI (clsI k) w) := by
  have hid : ∀ p : Prop, Hid p = p := fun _ => rfl
  by_cases c1 : k = 29
  · subst c1
    go_enter Tryz.func50, Tryz.ntmps50
    go_wp2
    go_ret
    exact RetI.mk' (by decide)
  by_cases c2 : k = 1
  · subst c2
    go_enter Tryz.func50, Tryz.ntmps50
    go_wp2
    go_ret
    exact RetI.mk' (by decide)
  by_cases c3 : k = 28
  · subst c3
    go_enter Tryz.func50, Tryz.ntmps50
    go_wp2
    go_ret
    exact RetI.mk' (by decide)
  by_cases c4 : k = 26
  · subst c4
    go_enter Tryz.func50, Tryz.ntmps50
    go_wp2
    go_ret
    exact RetI.mk' (by decide)
  by_cases c5 : k = 27
  · subst c5
    go_enter Tryz.func50, Tryz.ntmps50
    go_wp2
    go_ret
    exact RetI.mk' (by decide)
  by_cases c6 : k = 30
  · subst c6
    go_enter Tryz.func50, Tryz.ntmps50
    go_wp2
    go_ret
    exact RetI.mk' (by decide)
  by_cases c7 : k = 34
  · subst c7
    go_enter Tryz.func50, Tryz.ntmps50
    go_wp2
    go_ret
    exact RetI.mk' (by decide)
  have HF : Hid (clsI k = 0) := by
    show _ = _
    unfold clsI cls
    rw [if_neg (by omega), if_neg (by omega)]; rfl
  have k1 : (k == 29) = false := by simpa using c1
  have k2 : (k == 1) = false := by simpa using c2
  have k3 : (k == 28) = false := by simpa using c3
  have k4 : (k == 26) = false := by simpa using c4
  have k5 : (k == 27) = false := by simpa using c5
  have k6 : (k == 30) = false := by simpa using c6
  have k7 : (k == 34) = false := by simpa using c7
  clear c1 c2 c3 c4 c5 c6 c7 hid
  go_enter Tryz.func50, Tryz.ntmps50
  go_wp2
  go_ret
  exact RetI.mk' HF.out.symm
def sgI (k : Int) (s : ByteArray) : Int := if clsI k = 0 ∧ k ≠ 36 ∧ s.size = 1 then bt s 0 else 0
def itV (k u : Int) (s : ByteArray) (sp : Int) : Value := .agg #[.int .i64 k, .int .i64 u, .string s, .int .i64 sp]
def RetU (i : Int) (w : World) (e : Ending) (w' : World) : Prop := e = .returned (.int .u8 i) ∧ Below w.heap.size w w'
theorem ret_u8 {a b : Int} (h : a = b) : Ending.returned (.int .u8 a) = .returned (.int .u8 b) := by rw [h]
set_option maxHeartbeats 1600000 in
set_option maxRecDepth 100000 in
theorem signs_any (k u : Int) (s : ByteArray) (sp : Int) (w : World) : Calls Tryz.prog 51 #[.agg #[.int .i64 k, .int .i64 u, .string s, .int .i64 sp]] w (RetU (sgI k s) w) := by
  have HBW : Hid (Below w.heap.size w (w.alloc (.cells #[.int .i64 k, .int .i64 u, .string s, .int .i64 sp] 34))) := (Below.refl _ _).alloc (Nat.le_refl _) _
  by_cases c1 : clsI k = 0
  · have HC := Lib.hid c1
    by_cases c2 : k = 36
    · have HF : Hid (sgI k s = 0) := by show _ = _; unfold sgI; rw [if_neg (fun h => h.2.1 c2)]
      have k2 : (k == 36) = true ∧ (k != 36) = false := by subst c2; exact ⟨rfl, rfl⟩
      obtain ⟨k2, k3⟩ := k2
      clear c1 c2
      go_enter Tryz.func51, Tryz.ntmps51
      go_wp2_with (go_at_call 50; go_must (refine (class_any _ _).mono ?_; rintro e w' ⟨rfl, rfl⟩; rw [HC.out]))
      go_ret
      exact ⟨ret_u8 HF.out.symm, HBW.out⟩
    · have k2 : (k == 36) = false ∧ (k != 36) = true := by simp [c2]
      obtain ⟨k2, k3⟩ := k2
      by_cases c3 : s.size = 1
      · have HF : Hid (sgI k s = bt s 0) := by show _ = _; unfold sgI; rw [if_pos ⟨c1, c2, c3⟩]
        have hs : ((s.size : Int) == 1) = true := by simp; omega
        have hs0 : (0 : Int) < (s.size : Int) := by omega
        have hx := bt_get s 0
        have hr := bt_range s 0
        generalize bt s 0 = x at hx hr HF
        clear c1 c2 c3
        go_enter Tryz.func51, Tryz.ntmps51
        go_wp2_with (go_at_call 50; go_must (refine (class_any _ _).mono ?_; rintro e w' ⟨rfl, rfl⟩; rw [HC.out]))
        go_ret
        exact ⟨ret_u8 HF.out.symm, HBW.out⟩
      · have HF : Hid (sgI k s = 0) := by show _ = _; unfold sgI; rw [if_neg (fun h => c3 h.2.2)]
        have hs : ((s.size : Int) == 1) = false := by simp; omega
        clear c1 c2 c3
        go_enter Tryz.func51, Tryz.ntmps51
        go_wp2_with (go_at_call 50; go_must (refine (class_any _ _).mono ?_; rintro e w' ⟨rfl, rfl⟩; rw [HC.out]))
        go_ret
        exact ⟨ret_u8 HF.out.symm, HBW.out⟩
  · have HF : Hid (sgI k s = 0) := by show _ = _; unfold sgI; rw [if_neg (fun h => c1 h.1)]
    have k1 : (clsI k == 0) = false := by simpa using c1
    clear c1
    go_enter Tryz.func51, Tryz.ntmps51
    go_wp2_with (go_at_call 50; go_must (refine (class_any _ _).mono ?_; rintro e w' ⟨rfl, rfl⟩))
    go_ret
    exact ⟨ret_u8 HF.out.symm, HBW.out⟩
end Go.Proofs.YtkfdcbdlcipmfaaGreatFmt
