/- PLAIN: the guards of the statements' trees, as they are reckoned. No program in sight. -/
import Derived.Test.YtkfdcbdlcipmfaaGreatFmtH06
import Derived.Test.YtkfdcbdlcipmfaaGreatFmtH00
import Derived.Deep.Light
import Derived.Maps.OwnSet
set_option linter.unusedVariables false
set_option linter.unusedSimpArgs false
namespace Go.Proofs.YtkfdcbdlcipmfaaGreatFmt
namespace Css
def treeGo : Int → List RN → Bool
  | _, [] => true
  | most, n :: l => !decide (n.depth < 0) && !decide (most < n.depth) && isNodeB n && treeGo (if opens n.kind then n.depth + 1 else n.depth) l
theorem treeGo_iff (l : List RN) : ∀ most, treeGo most l = true ↔ Tree most (l.map RN.cp) ∧ ∀ n ∈ l, isNodeB n = true := by
  induction l with
  | nil => intro most; simp [treeGo, Tree]
  | cons n l ih =>
    intro most
    simp only [treeGo, Bool.and_eq_true, Bool.not_eq_true', decide_eq_false_iff_not, ih, List.map_cons, Tree, List.mem_cons, forall_eq_or_imp]
    show _ ↔ (0 ≤ n.depth ∧ n.depth ≤ most ∧ Tree (if opens n.kind then n.depth + 1 else n.depth) (List.map RN.cp l)) ∧ _
    constructor
    · rintro ⟨⟨⟨h1, h2⟩, h3⟩, h4, h5⟩
      exact ⟨⟨by omega, by omega, h4⟩, h3, h5⟩
    · rintro ⟨⟨h1, h2, h3⟩, h4, h5⟩
      exact ⟨⟨⟨by omega, by omega⟩, h4⟩, h3, h5⟩
def sizeGo (ascii : Bool) : Nat → List RN → Bool
  | _, [] => true
  | s, n :: l => !decide (64 < n.depth) && !decide (1048576 < s + n.text.length) && lowB n.text ascii && sizeGo ascii (s + n.text.length) l
def texts (l : List RN) : Nat := (l.map fun n => n.text.length).sum
theorem sizeGo_iff (ascii : Bool) (l : List RN) : ∀ s, sizeGo ascii s l = true → (∀ n ∈ l, n.depth ≤ 64 ∧ lowB n.text ascii = true) ∧ (l ≠ [] → s + texts l ≤ 1048576) := by
  induction l with
  | nil => intro s _; exact ⟨fun n hn => by simp at hn, fun h => absurd rfl h⟩
  | cons n l ih =>
    intro s h
    simp only [sizeGo, Bool.and_eq_true, Bool.not_eq_true', decide_eq_false_iff_not] at h
    obtain ⟨⟨⟨h1, h2⟩, h3⟩, h4⟩ := h
    obtain ⟨i1, i2⟩ := ih _ h4
    refine ⟨fun m hm => ?_, fun _ => ?_⟩
    · rw [List.mem_cons] at hm
      rcases hm with rfl | hm
      · exact ⟨by omega, h3⟩
      · exact i1 m hm
    · cases l with
      | nil => simp [texts]; omega
      | cons m r => have := i2 (by simp); simp only [texts, List.map_cons, List.sum_cons] at this ⊢; omega
def treeOk (ascii : Bool) (l : List RN) : Bool := decide (l.length ≤ 1000) && (treeGo 0 l && sizeGo ascii 0 l)
structure InTree (ascii : Bool) (l : List RN) : Prop where
  good : GoodTree ascii l
  many : l.length ≤ 1000
  size : texts l ≤ 1048576
  deep : ∀ n ∈ l, n.depth ≤ 64
theorem treeOk_in {ascii : Bool} {l : List RN} (h : treeOk ascii l = true) : InTree ascii l := by
  simp only [treeOk, Bool.and_eq_true, decide_eq_true_eq] at h
  obtain ⟨h1, h2, h3⟩ := h
  obtain ⟨t1, t2⟩ := (treeGo_iff l 0).1 h2
  obtain ⟨s1, s2⟩ := sizeGo_iff ascii l 0 h3
  refine ⟨⟨t1, t2, fun n hn => (s1 n hn).2⟩, h1, ?_, fun n hn => (s1 n hn).1⟩
  cases l with
  | nil => decide
  | cons m r => have := s2 (by simp); omega
theorem texts_setR (all : Bool) (l : List RN) : texts (setR all l) = texts l := by
  induction l with
  | nil => rfl
  | cons n r ih => simp only [setR, texts, List.map_cons, List.sum_cons] at ih ⊢; rw [ih]
theorem InTree.set {ascii : Bool} {l : List RN} (h : InTree ascii l) (all : Bool) : InTree ascii (setR all l) := by
  refine ⟨h.good.set all, by rw [setR_len]; exact h.many, by rw [texts_setR]; exact h.size, fun x hx => ?_⟩
  obtain ⟨n, hn, a, rfl⟩ := setR_mem hx
  exact h.deep n hn
theorem dec_len_le (l : List UInt8) (h : okDec l = true) : (dec l).length ≤ l.length := by
  have := len_le_enc (dec l)
  rw [(okDec_val h).1] at this
  exact this
theorem in_cost {ascii : Bool} {l : List RN} (h : InTree ascii l) {d : Int} {ts : List T} {rest : List N} (hp : Parse d (l.map RN.cp) ts rest) : cost ts ≤ 134217728 := by
  have h1 := parse_cost hp
  have h2 : costN (l.map RN.cp) ≤ 16 * texts l + 8192 * l.length := by
    have hg := h.good.node
    clear h hp h1
    induction l with
    | nil => simp [costN, texts]
    | cons n r ih =>
      have := ih (fun m hm => hg m (by simp [hm]))
      have ho := (isNode_ok (ascii := false) (hg n (by simp)) rfl).2
      have hl := dec_len_le _ ho
      simp only [costN, texts, List.map_cons, List.sum_cons, List.length_cons] at this ⊢
      have e : n.cp.text.length = (dec n.text).length := rfl
      omega
  have := h.many
  have := h.size
  omega
end Css
end Go.Proofs.YtkfdcbdlcipmfaaGreatFmt
namespace Go.Proofs.YtkfdcbdlcipmfaaGreatFmt
namespace Css
def Sx (a b : List Int) : Prop := ∃ X, b = X ++ a
theorem Sx.refl (a : List Int) : Sx a a := ⟨[], rfl⟩
theorem Sx.trans {a b c : List Int} (h : Sx a b) (k : Sx b c) : Sx a c := by
  obtain ⟨X, rfl⟩ := h; obtain ⟨Y, rfl⟩ := k; exact ⟨Y ++ X, by simp⟩
theorem sx_tail (a : List Int) : Sx a.tail a := by cases a with | nil => exact .refl _ | cons x t => exact ⟨[x], rfl⟩
theorem Sx.t {a b : List Int} (h : Sx a b.tail) : Sx a b := h.trans (sx_tail b)
theorem Sx.len {a b : List Int} (h : Sx a b) : a.length ≤ b.length := by obtain ⟨X, rfl⟩ := h; simp
theorem hexRun_sx (n : Nat) : ∀ (v : Int) (ds : List Int), Sx (hexRun n v ds).2 ds := by
  induction n with
  | zero => intro v ds; exact .refl _
  | succ n ih =>
    intro v ds
    unfold hexRun
    split
    · exact (ih _ _).t
    · exact .refl _
theorem newline_sx (ds : List Int) : Sx (newline ds) ds := by
  unfold newline; split
  · exact (sx_tail _).t
  · exact sx_tail _
theorem escape_sx (ds : List Int) : Sx (escape ds).2.2 ds := by
  unfold escape
  repeat' split
  · exact sx_tail _
  · exact sx_tail _
  · exact (newline_sx _).trans (hexRun_sx _ _ _)
  · exact (sx_tail _).trans (hexRun_sx _ _ _)
  · exact hexRun_sx _ _ _
theorem name_sx (ds : List Int) : Sx (name ds).2.2 ds := by
  fun_induction name ds with
  | case1 ds h ih => exact ih.t
  | case2 ds h h2 ih => exact (ih.trans (escape_sx _)).t
  | case3 => exact .refl _
theorem spaces_sx (ds : List Int) : Sx (spaces ds) ds := by
  induction ds with
  | nil => exact .refl _
  | cons d t ih =>
    unfold spaces; split
    · exact Sx.t (b := d :: t) ih
    · exact .refl _
theorem badURL_sx (ds : List Int) : Sx (badURL ds).2 ds := by
  fun_induction badURL ds with
  | case1 ds h => exact sx_tail _
  | case2 ds h h2 => exact sx_tail _
  | case3 ds h h2 h3 ih => exact (ih.trans (escape_sx _)).t
  | case4 ds h h2 h3 ih => exact ih.t
theorem url_sx (ds : List Int) : Sx (url ds).2.2.2 ds := by
  fun_induction url ds with
  | case1 ds h => exact sx_tail _
  | case2 ds h h2 => exact .refl _
  | case3 ds h h2 h3 h4 => exact (badURL_sx _).trans (spaces_sx _)
  | case4 ds h h2 h3 h4 ih => exact ih.trans (spaces_sx _)
  | case5 ds h h2 h3 h4 => exact badURL_sx _
  | case6 ds h h2 h3 h4 h5 r ih => exact (ih.trans (escape_sx _)).t
  | case7 ds h h2 h3 h4 h5 r ih => exact ih.t
theorem quotedRun_sx (q : Int) (ds : List Int) : Sx (quotedRun q ds).2.2.2 ds := by
  fun_induction quotedRun q ds with
  | case1 ds h => exact sx_tail _
  | case2 ds h h2 => exact .refl _
  | case3 ds h h2 h3 => exact .refl _
  | case4 ds h h2 h3 h4 ih => exact ih.t
  | case5 ds h h2 h3 h4 h5 ih => exact (ih.trans (newline_sx _)).t
  | case6 ds h h2 h3 h4 h5 h6 r ih => exact (ih.trans (escape_sx _)).t
  | case7 ds h h2 h3 h4 h5 h6 r ih => exact ih.t
theorem digits_sx (ds : List Int) : Sx (digits ds) ds := by
  induction ds with
  | nil => exact .refl _
  | cons d t ih =>
    unfold digits; split
    · exact Sx.t (b := d :: t) ih
    · exact .refl _
theorem numEnd_sx (ds : List Int) : Sx (numEnd ds).2 ds := by
  unfold numEnd
  simp only []
  have hS : Sx (numSign ds) ds := by unfold numSign; split; exact sx_tail _; exact .refl _
  have hD : Sx (digits (numSign ds)) ds := (digits_sx _).trans hS
  have hP : Sx (numDot (digits (numSign ds))) ds := by
    unfold numDot; split
    · exact ((digits_sx _).t).trans hD
    · exact hD
  unfold numExp; split
  · exact ((digits_sx _).t.t).trans hP
  · exact hP
theorem numeric_sx (ds : List Int) : Sx (numeric ds).2.2 ds := by
  unfold numeric
  simp only []
  repeat' split
  · exact (name_sx _).trans (numEnd_sx ds)
  · exact (sx_tail _).trans (numEnd_sx ds)
  · exact numEnd_sx ds
theorem named_sx (ds : List Int) : Sx (named ds).2.2 ds := by
  unfold named
  simp only []
  repeat' split
  · exact name_sx ds
  · exact (((url_sx _).trans (spaces_sx _)).t).trans (name_sx ds)
  · exact (sx_tail _).trans (name_sx ds)
theorem next_sx (ds : List Int) : Sx (next ds).2.2 ds := by
  unfold next
  split
  · exact .refl _
  split
  · exact spaces_sx ds
  split
  · exact (quotedRun_sx _ _).t
  split
  · exact (name_sx _).t
  split
  · exact numeric_sx ds
  split
  · exact (sx_tail _).t.t
  split
  · exact named_sx ds
  split
  · exact (sx_tail _).t.t.t
  split
  · exact (name_sx _).t
  · exact sx_tail _
theorem comEnd_sx (ds : List Int) : Sx (comEnd ds).2 ds := by
  induction ds with
  | nil => unfold comEnd; split; exact (sx_tail _).t; exact .refl _
  | cons d t ih =>
    unfold comEnd; split
    · exact (sx_tail _).t
    · exact Sx.t (b := d :: t) ih
theorem comments_sx (ds : List Int) : Sx (comments ds).2.2 ds := by
  fun_induction comments ds with
  | case1 ds h h2 => exact (comEnd_sx _).t.t
  | case2 ds h h2 ih => exact (ih.trans (comEnd_sx _)).t.t
  | case3 => exact .refl _
theorem tokens_sx (ds : List Int) : ∀ x ∈ (tokens ds).1, Sx x.2.1 ds ∧ Sx x.2.2 x.2.1 := by
  fun_induction tokens ds with
  | case1 => intro x hx; simp at hx
  | case2 ds h D ih =>
    intro x hx
    have hD : Sx D ds := comments_sx ds
    rw [List.mem_cons] at hx
    rcases hx with rfl | hx
    · exact ⟨hD, next_sx _⟩
    · obtain ⟨h1, h2⟩ := ih x hx
      exact ⟨(h1.trans (next_sx _)).trans hD, h2⟩
end Css
end Go.Proofs.YtkfdcbdlcipmfaaGreatFmt
namespace Go.Proofs.YtkfdcbdlcipmfaaGreatFmt
namespace Css
theorem part_sx {a b : List Int} (h : Sx b a) : a = part a b ++ b := by
  obtain ⟨X, rfl⟩ := h
  rw [part_append]
theorem raw_bytes {s : ByteArray} {ds a b : List Int} (hs : s.data.toList = enc ds) (ha : Sx a ds) (hb : Sx b a) :
    (s.extract (s.size - bw a) (s.size - bw b)).data.toList = enc (part a b) ∧ s.size - bw a ≤ s.size - bw b := by
  obtain ⟨X, rfl⟩ := ha
  have e := part_sx hb
  generalize part a b = p at e ⊢
  subst e
  have hsz : s.size = (enc X).length + ((enc p).length + (enc b).length) := by
    have e : s.data.toList.length = s.size := rfl
    rw [← e, hs, enc_append, enc_append, List.length_append, List.length_append]
  have hb1 : bw (p ++ b) = (enc p).length + (enc b).length := by rw [bw_enc, enc_append, List.length_append]
  have hb2 : bw b = (enc b).length := bw_enc b
  rw [hb1, hb2, hsz]
  refine ⟨?_, by omega⟩
  have h1 : (enc X).length + ((enc p).length + (enc b).length) - ((enc p).length + (enc b).length) = (enc X).length := by omega
  have h2 : (enc X).length + ((enc p).length + (enc b).length) - (enc b).length = (enc X).length + (enc p).length := by omega
  rw [h1, h2]
  have h3 : (s.extract (enc X).length ((enc X).length + (enc p).length)).data.toList = (s.data.toList.take ((enc X).length + (enc p).length)).drop (enc X).length := by
    rw [ByteArray.data_extract, Array.toList_extract]
    simp only [List.extract_eq_take_drop]
    rw [List.drop_take]
  rw [h3, hs, enc_append, enc_append, ← List.append_assoc, List.take_append_of_le_length (by simp), ← List.length_append, List.take_length, List.drop_left]
def rdP : List (Tk × List Int × List Int) → Bool → List ((Tk × List Int × List Int) × Bool)
  | [], _ => []
  | x :: l, sp => if x.1.kind = 38 then rdP l true else (x, sp) :: rdP l false
theorem rdP_map (l : List (Tk × List Int × List Int)) : ∀ sp, (rdP l sp).map (fun y => (y.1.1, part y.1.2.1 y.1.2.2, y.2)) = rd l sp := by
  induction l with
  | nil => intro sp; rfl
  | cons x l ih =>
    intro sp
    simp only [rdP, rd]
    split
    · exact ih true
    · rw [List.map_cons, ih]
theorem rdP_mem (l : List (Tk × List Int × List Int)) : ∀ sp, ∀ y ∈ rdP l sp, y.1 ∈ l := by
  induction l with
  | nil => intro sp y hy; cases hy
  | cons x l ih =>
    intro sp y hy
    simp only [rdP] at hy
    split at hy
    · exact List.mem_cons_of_mem _ (ih true y hy)
    · rw [List.mem_cons] at hy
      rcases hy with rfl | hy
      · exact List.mem_cons_self
      · exact List.mem_cons_of_mem _ (ih false y hy)
theorem rdP_len (l : List (Tk × List Int × List Int)) : ∀ sp, (rdP l sp).length ≤ l.length := by
  induction l with
  | nil => intro sp; simp [rdP]
  | cons x l ih =>
    intro sp
    simp only [rdP]
    split
    · have := ih true; simp; omega
    · have := ih false; simp; omega
structure IsB (k : Int) (u : Nat) (tx raw : List UInt8) (x : RIt) : Prop where
  kind : k = x.kind
  name : nameLikeK x.kind → tx = x.text
  dim : x.kind = 26 → (u : Int) = x.unit ∧ u ≤ raw.length ∧ u ≤ x.text.length ∧ raw.take u = x.text.take u ∧ enc (Css.name (dec (raw.drop u))).1 = x.text.drop u
  rest : ¬ nameLikeK x.kind → x.kind ≠ 26 → ¬ isClose x.kind → raw = x.text
theorem enc_take {cs : List Int} {u : Nat} (hu : u ≤ cs.length) (h : ∀ c ∈ cs.take u, c < 128) : (enc cs).take u = enc (cs.take u) ∧ (enc cs).drop u = enc (cs.drop u) ∧ u ≤ (enc cs).length := by
  have e : enc cs = enc (cs.take u) ++ enc (cs.drop u) := by rw [← enc_append, List.take_append_drop]
  have hl : (enc (cs.take u)).length = u := by rw [enc_ascii_len h, List.length_take]; omega
  rw [e]
  refine ⟨?_, ?_, ?_⟩
  · rw [List.take_append_of_le_length (by omega), List.take_of_length_le (by omega)]
  · rw [List.drop_append_of_le_length (by omega), List.drop_of_length_le (by omega), List.nil_append]
  · rw [List.length_append]; omega
theorem isIt_bytes {tk : Tk} {raw : List Int} {sp : Bool} {x : RIt} (h : IsIt (tk, raw, sp) x.cp) (hx : ItOk x) (hr : ∀ c ∈ raw, Valid c) : IsB tk.kind tk.unit (enc tk.text) (enc raw) x := by
  obtain ⟨h1, h2, h3, h4⟩ := h
  have hex : enc (dec x.text) = x.text := (okDec_val hx.ok).1
  refine ⟨h1, fun hn => ?_, fun h26 => ?_, fun n1 n2 n3 => ?_⟩
  · have := h2 hn
    rw [show tk.text = dec x.text from this]; exact hex
  · obtain ⟨a1, a2, a3, a4, a5⟩ := h3 h26
    have hu : x.cp.unit = x.unit := by show (if x.kind = 26 then x.unit else 0) = x.unit; rw [if_pos h26]
    rw [hu] at a1
    simp only [] at a1 a2 a3 a4 a5
    have a5' : tk.unit ≤ (dec x.text).length := a5
    have hut : x.unit.toNat = tk.unit := by omega
    have hlow := hx.low h26
    rw [hut] at hlow
    have e2 : raw.take tk.unit = (dec x.text).take tk.unit := a2
    obtain ⟨b1, b2, b3⟩ := enc_take a5' hlow
    obtain ⟨c1, c2, c3⟩ := enc_take a4 (by rw [e2]; exact hlow)
    rw [hex] at b1 b2 b3
    refine ⟨a1, c3, b3, ?_, ?_⟩
    · rw [c1, b1, e2]
    · rw [c2, dec_enc_v (fun c hc => hr c (List.mem_of_mem_drop hc)), a3, b2]; rfl
  · have := h4 (by
      show ¬ (x.kind = 29 ∨ x.kind = 27 ∨ x.kind = 1 ∨ x.kind = 28 ∨ x.kind = 36 ∨ x.kind = 26 ∨ x.kind = 8 ∨ x.kind = 7 ∨ x.kind = 6)
      unfold nameLikeK at n1; unfold isClose at n3; omega)
    rw [show raw = dec x.text from this]; exact hex
end Css
end Go.Proofs.YtkfdcbdlcipmfaaGreatFmt
namespace Go.Proofs.YtkfdcbdlcipmfaaGreatFmt
open Go.RowKit Css
def RetBW (b : Bool) (w : World) (e : Ending) (w' : World) : Prop := e = .returned (.bool b) ∧ Below w.heap.size w w'
theorem RetBW.mk' {a b : Bool} {w w' : World} (h : a = b) (hb : Below w.heap.size w w') : RetBW b w (.returned (.bool a)) w' := ⟨retB_eq h, hb⟩
def RetVW (v : Value) (w : World) (e : Ending) (w' : World) : Prop := e = .returned v ∧ Below w.heap.size w w'
theorem RetVW.mk' {a b : Value} {w w' : World} (h : a = b) (hb : Below w.heap.size w w') : RetVW b w (.returned a) w' := ⟨by rw [h], hb⟩
theorem below_drewN {B : Nat} (w : World) (n : Nat) : Below B w (w.drewN n) := by
  cases n with
  | zero => exact ⟨rfl, rfl, rfl, Nat.le_refl _, fun _ _ => rfl⟩
  | succ n => exact ⟨rfl, rfl, rfl, Nat.le_refl _, fun _ _ => rfl⟩
def RetIW (i : Int) (w : World) (e : Ending) (w' : World) : Prop := e = .returned (.int .i64 i) ∧ Below w.heap.size w w'
theorem RetIW.mk' {a b : Int} {w w' : World} (h : a = b) (hb : Below w.heap.size w w') : RetIW b w (.returned (.int .i64 a)) w' := ⟨by rw [h], hb⟩
def nCells (n : RN) : List Value := [.int .i64 n.kind, .int .i64 n.unit, .int .i64 n.depth, .string ⟨⟨n.text⟩⟩, .bool n.before, .bool n.after]
def nRow (l : List RN) : List Value := l.flatMap nCells
theorem nRow_get {l : List RN} {i : Nat} {n : RN} (h : l[i]? = some n) (j : Nat) (hj : j < 6) : (nRow l)[i * 6 + j]? = (nCells n)[j]? := by
  induction l generalizing i with
  | nil => simp at h
  | cons a t ih =>
    have hl : (nCells a).length = 6 := rfl
    show (nCells a ++ nRow t)[i * 6 + j]? = _
    cases i with
    | zero =>
      simp at h
      subst h
      rw [List.getElem?_append_left (by omega)]; simp
    | succ i =>
      rw [List.getElem?_append_right (by omega), hl]
      have : (i + 1) * 6 + j - 6 = i * 6 + j := by omega
      rw [this]
      exact ih (by simpa using h)
structure NodesAt (v : Value) (l : List RN) (w : World) : Prop where
  form : l ≠ [] → ∃ q c, v = .slice (some ⟨q, 0, none⟩) l.length c ∧ q < w.heap.size ∧ ∀ i x, (nRow l)[i]? = some x → w.cell? ⟨q, i, none⟩ = some x
  empty : l = [] → v = .slice none 0 0 ∨ ∃ a c, v = .slice (some a) 0 c
theorem NodesAt.below {v : Value} {l : List RN} {w w' : World} (h : NodesAt v l w) (hb : Below w.heap.size w w') : NodesAt v l w' := by
  refine ⟨fun hl => ?_, h.empty⟩
  obtain ⟨q, c, e, hq, hc⟩ := h.form hl
  refine ⟨q, c, e, Nat.lt_of_lt_of_le hq hb.size, fun i x hx => ?_⟩
  rw [← hc i x hx]
  unfold World.cell?
  rw [hb.block q hq]
structure NodeC (w : World) (q o : Nat) (n : RN) : Prop where
  c0 : w.cell? ⟨q, o, none⟩ = some (.int .i64 n.kind)
  c1 : w.cell? ⟨q, o + 1, none⟩ = some (.int .i64 n.unit)
  c2 : w.cell? ⟨q, o + 2, none⟩ = some (.int .i64 n.depth)
  c3 : w.cell? ⟨q, o + 3, none⟩ = some (.string ⟨⟨n.text⟩⟩)
  c4 : w.cell? ⟨q, o + 4, none⟩ = some (.bool n.before)
  c5 : w.cell? ⟨q, o + 5, none⟩ = some (.bool n.after)
theorem NodesAt.slice {v : Value} {l : List RN} {w : World} (h : NodesAt v l w) : ∃ A c, v = .slice A l.length c := by
  cases l with
  | nil =>
    rcases h.empty rfl with e | ⟨a, c, e⟩
    · exact ⟨_, _, e⟩
    · exact ⟨_, _, e⟩
  | cons n r => obtain ⟨q, c, e, _⟩ := h.form (by simp); exact ⟨_, c, e⟩
theorem NodesAt.node {A : Option Addr} {k c : Nat} {l : List RN} {w : World} (h : NodesAt (.slice A k c) l w) {i : Nat} {n : RN} (hn : l[i]? = some n) : ∃ q, A = some ⟨q, 0, none⟩ ∧ q < w.heap.size ∧ NodeC w q (i * 6) n := by
  obtain ⟨q, c', e, hq, hc⟩ := h.form (by intro e; subst e; simp at hn)
  injection e with e _ _
  refine ⟨q, e, hq, ?_, ?_, ?_, ?_, ?_, ?_⟩
  · exact hc _ _ (by have := nRow_get hn 0 (by decide); simpa [nCells] using this)
  · exact hc _ _ (by have := nRow_get hn 1 (by decide); simpa [nCells] using this)
  · exact hc _ _ (by have := nRow_get hn 2 (by decide); simpa [nCells] using this)
  · exact hc _ _ (by have := nRow_get hn 3 (by decide); simpa [nCells] using this)
  · exact hc _ _ (by have := nRow_get hn 4 (by decide); simpa [nCells] using this)
  · exact hc _ _ (by have := nRow_get hn 5 (by decide); simpa [nCells] using this)
theorem NodesAt.none_len {A : Option Addr} {k c : Nat} {l : List RN} {w : World} (h : NodesAt (.slice A k c) l w) (hA : A = Option.none) : k = 0 ∧ c = 0 := by
  subst hA
  cases l with
  | nil =>
    rcases h.empty rfl with e | ⟨a, c', e⟩
    · injection e with _ e1 e2; exact ⟨e1, e2⟩
    · injection e with e _ _; cases e
  | cons n r =>
    obtain ⟨q, c', e, _⟩ := h.form (by simp)
    injection e with e _ _; cases e
theorem NodesAt.cellsOf {a : Addr} {k c : Nat} {l : List RN} {w : World} (h : NodesAt (.slice (some a) k c) l w) : ∀ j u, (nRow l)[j]? = some u → w.cell? (a.add j) = some u := by
  intro j u hj
  cases l with
  | nil => simp [nRow] at hj
  | cons n r =>
    obtain ⟨q, c', e, _, hc⟩ := h.form (by simp)
    injection e with e _ _
    injection e with e
    subst e
    have : (⟨q, 0, none⟩ : Addr).add j = ⟨q, j, none⟩ := by
      unfold Addr.add; split
      · rename_i h; subst h; rfl
      · simp
    rw [this]; exact hc j u hj
theorem nRow_len (l : List RN) : (nRow l).length = l.length * 6 := by
  induction l with
  | nil => rfl
  | cons n r ih => show (nCells n ++ nRow r).length = _; rw [List.length_append, ih]; simp [nCells]; omega
theorem nRow_set : ∀ (l : List RN) (i : Nat) (n : RN) (x : Bool), l[i]? = some n → (nRow l).set (i * 6 + 5) (.bool x) = nRow (l.set i { n with after := x })
  | [], i, n, x, h => by simp at h
  | a :: r, 0, n, x, h => by
    simp only [List.getElem?_cons_zero, Option.some.injEq] at h
    subst h
    rfl
  | a :: r, i + 1, n, x, h => by
    have ih := nRow_set r i n x (by simpa using h)
    show (nCells a ++ nRow r).set ((i + 1) * 6 + 5) (.bool x) = nCells a ++ nRow (r.set i { n with after := x })
    have hl : (nCells a).length = 6 := rfl
    rw [List.set_append_right _ _ (by omega), hl, ← ih]
    congr 2
    omega
theorem nRow_one (l : List RN) : ∀ u ∈ nRow l, u.oneCell' = true := by
  intro u hu
  obtain ⟨n, _, hn⟩ := List.mem_flatMap.1 hu
  simp only [nCells, List.mem_cons, List.not_mem_nil, or_false] at hn
  rcases hn with rfl | rfl | rfl | rfl | rfl | rfl <;> rfl
theorem NodeC.below {w w' : World} {q o : Nat} {n : RN} (h : NodeC w q o n) (hb : w'.heap[q]? = w.heap[q]?) : NodeC w' q o n := by
  have hc : ∀ o, w'.cell? ⟨q, o, none⟩ = w.cell? ⟨q, o, none⟩ := fun o => World.cell?_of_block (w := w) (a := ⟨q, o, none⟩) hb
  exact ⟨(hc _).trans h.c0, (hc _).trans h.c1, (hc _).trans h.c2, (hc _).trans h.c3, (hc _).trans h.c4, (hc _).trans h.c5⟩
abbrev rV (n : RN) : Value := .agg #[.int .i64 n.kind, .int .i64 n.unit, .int .i64 n.depth, .string ⟨⟨n.text⟩⟩, .bool n.before, .bool n.after]
theorem ba_size (l : List UInt8) : (⟨⟨l⟩⟩ : ByteArray).size = l.length := rfl
theorem box_below (o : Obj) (w : World) : Below w.heap.size w (w.alloc o) := (Below.refl _ _).alloc (Nat.le_refl _) _
theorem below_box {w0 wr w1 : World} {o : Obj} (h : Below w0.heap.size w0 wr) (h1 : Below (wr.alloc o).heap.size (wr.alloc o) w1) : Below w0.heap.size w0 w1 :=
  (h.alloc h.size o).trans (h1.mono (by have := h.size; show _ ≤ (wr.heap.push o).size; rw [Array.size_push]; omega))
end Go.Proofs.YtkfdcbdlcipmfaaGreatFmt
namespace Go.Proofs.YtkfdcbdlcipmfaaGreatFmt
open Go.RowKit
theorem parts_of {i0 : Option TypeInfo} {z : Option Value} {a b : Nat} (h : i0.map (fun i => (i.zero, i.size, i.bytes)) = some (z, a, b)) : ∃ i, i0 = some i ∧ i.zero = z ∧ i.size = a ∧ i.bytes = b := by
  obtain ⟨i, hi, hz⟩ := Option.map_eq_some_iff.1 h
  simp only [Prod.mk.injEq] at hz
  exact ⟨i, hi, hz.1, hz.2.1, hz.2.2⟩
def IsTy (T : TypeId) (o : Option Obj) : Prop := ∃ cs fr, o = some (.cells cs T fr)
section
variable {w w' : World}
theorem own_keep {base n : Nat} {e : TypeId} {size : Nat} {x : Value} {xs : List Value} (h : w.ownsRow base e size x n xs) (hk : ∀ q, x.ownBlock = some q → w'.heap[q]? = w.heap[q]?) : w'.ownsRow base e size x n xs := by
  obtain ⟨h1, h2⟩ := h
  refine ⟨h1, ?_⟩
  rcases h2 with h2 | ⟨q, cap, cur, hv, hq, hh, r⟩
  · exact Or.inl h2
  · exact Or.inr ⟨q, cap, cur, hv, hq, (hk q (by rw [hv]; rfl)).trans hh, r⟩
theorem own_lt {base n : Nat} {e : TypeId} {size : Nat} {x : Value} {xs : List Value} (h : w.ownsRow base e size x n xs) {q : Nat} (hq : x.ownBlock = some q) : q < w.heap.size ∧ base ≤ q ∧ IsTy e w.heap[q]? := by
  rcases h.2 with ⟨rfl, _⟩ | ⟨q', cap, cur, rfl, hb, hh, _⟩
  · simp [Value.ownBlock] at hq
  · have : q' = q := by simpa [Value.ownBlock] using hq
    subst this
    exact ⟨(Array.getElem?_eq_some_iff.1 hh).1, hb, cur, (0, 0), hh⟩
end
theorem addr_add0 (q j : Nat) : (⟨q, 0, none⟩ : Addr).add j = ⟨q, j, none⟩ := by
  unfold Addr.add; split
  · rename_i h; subst h; rfl
  · simp
section
variable {ops : Array Oper} {rest : List Oper} {o : Oper} {a : Act} {Q : Exit → Act → World → Prop}
theorem wpList_app1 (hgd : o.guard = none) (s x : Operand) (ST ET : TypeId) (ho : o.op = .call { callee := .builtin .append, args := #[s, x], argTypes := #[ST, ST] }) (hST : Tryz.prog.underlying ST = some (.slice ET))
    {z : Value} {size bytes : Nat} (info : (Tryz.prog.info? ET).map (fun i => (i.zero, i.size, i.bytes)) = some (some z, size, bytes)) (hzs : z.cells.size = size) (hsz : 0 < size)
    {B n : Nat} {v : Value} {xs : List Value} {w : World} (H : w.ownsRow B ET size v n xs) (hB : B ≤ w.heap.size) (cs : Array Value) (hcs : cs.size = size) (h1 : ∀ u ∈ cs.toList, u.oneCell' = true)
    (hn : (n + 1) * bytes ≤ 140737488355328) (hn2 : n + 1 ≤ maxLen) (hs : a.eval s = v) (bk : Nat) (hbk : bk = w.heap.size) (hx : a.eval x = .slice (some ⟨bk, 0, none⟩) 1 1)
    (h : ∀ v' w', w'.ownsRow B ET size v' (n + 1) (xs ++ cs.toList) → (w.alloc (.cells cs ET)).grownBy w' v.ownBlock → Below B w w' → (v'.ownBlock = v.ownBlock ∨ v'.ownBlock = some (w.heap.size + 1)) → wpList Tryz.prog ops Q rest (a.put o.dst v') w') :
    wpList Tryz.prog ops Q (o :: rest) a (w.alloc (.cells cs ET)) := by
  subst hbk
  obtain ⟨i, hi, hz0, hz1, hz2⟩ := parts_of info
  have H1 : (w.alloc (.cells cs ET)).ownsRow B ET size v n xs := H.alloc _
  have hsize : (w.alloc (.cells cs ET)).heap.size = w.heap.size + 1 := by simp
  obtain ⟨v', w', hr, h2, h3, _, h5⟩ := run_append_own_at (P := Tryz.prog) (w.alloc (.cells cs ET)) B ST o.type ET i z size bytes hST hi hz0 hz1 hz2 hzs hsz v n xs H1 ⟨w.heap.size, 0, none⟩ 1 1 cs.toList (by simp [hcs]) (by
    intro j u hj
    rw [addr_add0, World.cell?_alloc_mark w _ _ _ j]
    simpa using hj) h1 hn2 hn (by omega)
  have hla : Below B w (w.alloc (.cells cs ET)) := (Below.refl _ _).alloc hB _
  refine wpList_plain hgd fun K hK => ?_
  unfold Oper.wp execOp
  simp only [ho, resolve, invoke, builtin, Sem.run_bind, Sem.run_pure, Result.andThen_ok, List.map_toArray, List.map_cons, List.map_nil, hs, hx, hr]
  refine hK _ _ (h v' w' h2 h3 (hla.grown h3 (by omega) fun k hk => (own_lt H hk).2.1) (by rw [hsize] at h5; exact h5))
theorem wpList_appN (hgd : o.guard = none) (s x : Operand) (ST ET : TypeId) (ho : o.op = .call { callee := .builtin .append, args := #[s, x], argTypes := #[ST, ST] }) (hST : Tryz.prog.underlying ST = some (.slice ET))
    {z : Value} {size bytes : Nat} (info : (Tryz.prog.info? ET).map (fun i => (i.zero, i.size, i.bytes)) = some (some z, size, bytes)) (hzs : z.cells.size = size) (hsz : 0 < size)
    {B n : Nat} {v : Value} {xs : List Value} {w : World} (H : w.ownsRow B ET size v n xs) (hB : B ≤ w.heap.size) (A : Option Addr) (m c : Nat) (news : List Value) (hl : news.length = m * size) (hA : A = Option.none → m = 0 ∧ c = 0)
    (hnews : ∀ ad, A = some ad → ∀ j u, news[j]? = some u → w.cell? (ad.add j) = some u) (h1 : ∀ u ∈ news, u.oneCell' = true)
    (hn : (n + m) * bytes ≤ 140737488355328) (hn2 : n + m ≤ maxLen) (hs : a.eval s = v) (hx : a.eval x = .slice A m c)
    (h : ∀ v' w', w'.ownsRow B ET size v' (n + m) (xs ++ news) → w.grownBy w' v.ownBlock → Below B w w' → wpList Tryz.prog ops Q rest (a.put o.dst v') w') :
    wpList Tryz.prog ops Q (o :: rest) a w := by
  obtain ⟨i, hi, hz0, hz1, hz2⟩ := parts_of info
  cases A with
  | none =>
    obtain ⟨rfl, rfl⟩ := hA rfl
    have hnil : news = [] := List.eq_nil_of_length_eq_zero (by omega)
    subst hnil
    have hr := run_append_owned_none (P := Tryz.prog) (w := w) B ST o.type ET i size hST hi v n xs H
    refine wpList_plain hgd fun K hK => ?_
    unfold Oper.wp execOp
    simp only [ho, resolve, invoke, builtin, Sem.run_bind, Sem.run_pure, Result.andThen_ok, List.map_toArray, List.map_cons, List.map_nil, hs, hx, hr]
    exact hK _ _ (h v w (by simpa using H) (World.grownBy.refl _ _) (Below.refl _ _))
  | some ad =>
    obtain ⟨v', w', hr, h2, h3, _, h5⟩ := run_append_own_at (P := Tryz.prog) w B ST o.type ET i z size bytes hST hi hz0 hz1 hz2 hzs hsz v n xs H ad m c news hl (hnews ad rfl) h1 hn2 hn hB
    refine wpList_plain hgd fun K hK => ?_
    unfold Oper.wp execOp
    simp only [ho, resolve, invoke, builtin, Sem.run_bind, Sem.run_pure, Result.andThen_ok, List.map_toArray, List.map_cons, List.map_nil, hs, hx, hr]
    exact hK _ _ (h v' w' h2 h3 ((Below.refl _ _).grown h3 hB fun k hk => (own_lt H hk).2.1))
end
end Go.Proofs.YtkfdcbdlcipmfaaGreatFmt
namespace Go.Proofs.YtkfdcbdlcipmfaaGreatFmt
open Go.RowKit Css
theorem info50 : (Tryz.prog.info? 50).map (fun i => (i.zero, i.size, i.bytes)) = some (some (.agg #[.int .i64 0, .int .i64 0, .int .i64 0, .string ⟨#[]⟩, .bool false, .bool false]), 6, 48) := by kernel_rfl
theorem info45 : (Tryz.prog.info? 45).map (fun i => (i.zero, i.size, i.bytes)) = some (some (.agg #[.int .i64 0, .int .i64 0, .int .i64 0, .string ⟨#[]⟩, .bool false, .bool false]), 6, 48) := by kernel_rfl
def RetN (T : TypeId) (l : List RN) (w : World) (e : Ending) (w' : World) : Prop := ∃ v, e = .returned v ∧ w'.ownsRow w.heap.size T 6 v l.length (nRow l) ∧ Below w.heap.size w w'
theorem nRow_snoc (l : List RN) (n : RN) : nRow (l ++ [n]) = nRow l ++ nCells n := by unfold nRow; simp
theorem node_one (n : RN) : ∀ u ∈ (#[Value.int .i64 n.kind, .int .i64 n.unit, .int .i64 n.depth, .string ⟨⟨n.text⟩⟩, .bool n.before, .bool n.after] : Array Value).toList, u.oneCell' = true := by simp [Value.oneCell']
theorem own_row_nil (w : World) (B : Nat) (T : TypeId) (size : Nat) : w.ownsRow B T size (.slice none 0 0) 0 [] := ⟨by simp, .inl ⟨rfl, rfl⟩⟩
theorem own_nodes {w : World} {B : Nat} {T : TypeId} {v : Value} {l : List RN} (h : w.ownsRow B T 6 v l.length (nRow l)) : NodesAt v l w := by
  refine ⟨fun hl => ?_, fun hl => ?_⟩
  · obtain ⟨q, cap, hv, hq, hlt⟩ := h.form (List.length_pos_iff.2 hl)
    refine ⟨q, cap, hv, ?_, fun i x hx => ?_⟩
    · exact (own_lt h (by rw [hv]; rfl)).1
    · have := h.cells (g := q) (by rw [hv]; rfl) i x hx
      rw [addr_add0] at this; exact this
  · subst hl
    rcases h.2 with ⟨rfl, _⟩ | ⟨q, cap, cur, rfl, _⟩
    · exact .inl rfl
    · exact .inr ⟨_, _, rfl⟩
set_option maxHeartbeats 1600000 in
set_option maxRecDepth 100000 in
theorem nodes_any (v : Value) (l : List RN) (hl : l.length ≤ 2147483647) (w : World) (h : NodesAt v l w) : Calls Tryz.prog 16 #[v] w (RetN 50 l w) := by
  obtain ⟨A, c, rfl⟩ := h.slice
  have HN := Lib.hid h
  rename World => w0
  clear h
  go_enter Tryz.func16, Tryz.ntmps16
  go_wp2_with fail
  go_loopg [3, 8] l.length (fun k p3 p8 wr => ∃ i : Nat, p8 = .int .i64 i ∧ i + k = l.length ∧ Hid (Below w0.heap.size w0 wr) ∧ Hid (wr.ownsRow w0.heap.size 50 6 p3 i (nRow (l.take i))))
  case atStart => exact ⟨0, rfl, by omega, Below.refl _ _, own_row_nil _ _ _ _⟩
  case round =>
    obtain ⟨i, rfl, hik, HB, HO⟩ := hrel
    have hi0 : (0 : Int) ≤ (i : Int) := by omega
    have hi1 : (i : Int) ≤ 2147483647 := by omega
    by_cases hlt : i < l.length
    · have hlti : (i : Int) < (l.length : Int) := by omega
      obtain ⟨n, hn⟩ : ∃ n, l[i]? = some n := ⟨l[i], List.getElem?_eq_getElem hlt⟩
      have HT : Hid (nRow (l.take (i + 1)) = nRow (l.take i) ++ nCells n) := by
        show _ = _; rw [← nRow_snoc, List.take_add_one, hn]; rfl
      obtain ⟨q, rfl, hq, hc⟩ := (HN.out.below HB.out).node hn
      have hc0 := hc.c0
      have hc1 := hc.c1
      have hc2 := hc.c2
      have hc3 := hc.c3
      have hc4 := hc.c4
      have hc5 := hc.c5
      have HB1 := Lib.hid (HB.out.alloc HB.out.size (.cells #[.int .i64 n.kind, .int .i64 n.unit, .int .i64 n.depth, .string ⟨⟨n.text⟩⟩, .bool n.before, .bool n.after] 45))
      have HO1 := Lib.hid (HO.out.alloc (.cells #[.int .i64 n.kind, .int .i64 n.unit, .int .i64 n.depth, .string ⟨⟨n.text⟩⟩, .bool n.before, .bool n.after] 45))
      clear hc hn HB HO
      go_wp2_with (at_builtin; go_must (refine wpList_app1 rfl _ _ 31 50 rfl Tryz.underlying31 info50 rfl (by decide) HO1.out HB1.out.size #[.int .i64 n.kind, .int .i64 n.unit, .int .i64 n.depth, .string ⟨⟨n.text⟩⟩, .bool n.before, .bool n.after] rfl (node_one n) (by omega) (by unfold maxLen; omega) rfl (wr.heap.size + 1) (by simp) rfl ?_; intro v' w9 hw9 hg9 hb9 _; have HW9 := Lib.hid hw9; have HB9 := Lib.hid hb9; clear hw9 hg9 hb9))
      go_roundg (l.length - (i + 1))
      case measure => omega
      case rel => exact ⟨i + 1, by go_num, by omega, HB1.out.trans HB9.out, by show World.ownsRow _ _ _ _ _ _ _; rw [HT.out]; exact HW9.out⟩
    · have hle : (l.length : Int) ≤ (i : Int) := by omega
      have hil : i = l.length := by omega
      go_wp2_with fail
      go_ret
      subst hil
      have := HO.out
      rw [List.take_length] at this
      exact ⟨_, rfl, this, HB.out⟩
set_option maxHeartbeats 1600000 in
set_option maxRecDepth 100000 in
theorem back_any (v : Value) (l : List RN) (hl : l.length ≤ 2147483647) (w : World) (h : NodesAt v l w) : Calls Tryz.prog 27 #[v] w (RetN 45 l w) := by
  obtain ⟨A, c, rfl⟩ := h.slice
  have HN := Lib.hid h
  rename World => w0
  clear h
  go_enter Tryz.func27, Tryz.ntmps27
  go_wp2_with fail
  go_loopg [3, 8] l.length (fun k p3 p8 wr => ∃ i : Nat, p8 = .int .i64 i ∧ i + k = l.length ∧ Hid (Below w0.heap.size w0 wr) ∧ Hid (wr.ownsRow w0.heap.size 45 6 p3 i (nRow (l.take i))))
  case atStart => exact ⟨0, rfl, by omega, Below.refl _ _, own_row_nil _ _ _ _⟩
  case round =>
    obtain ⟨i, rfl, hik, HB, HO⟩ := hrel
    have hi0 : (0 : Int) ≤ (i : Int) := by omega
    have hi1 : (i : Int) ≤ 2147483647 := by omega
    by_cases hlt : i < l.length
    · have hlti : (i : Int) < (l.length : Int) := by omega
      obtain ⟨n, hn⟩ : ∃ n, l[i]? = some n := ⟨l[i], List.getElem?_eq_getElem hlt⟩
      have HT : Hid (nRow (l.take (i + 1)) = nRow (l.take i) ++ nCells n) := by
        show _ = _; rw [← nRow_snoc, List.take_add_one, hn]; rfl
      obtain ⟨q, rfl, hq, hc⟩ := (HN.out.below HB.out).node hn
      have hc0 := hc.c0
      have hc1 := hc.c1
      have hc2 := hc.c2
      have hc3 := hc.c3
      have hc4 := hc.c4
      have hc5 := hc.c5
      have HB1 := Lib.hid (HB.out.alloc HB.out.size (.cells #[.int .i64 n.kind, .int .i64 n.unit, .int .i64 n.depth, .string ⟨⟨n.text⟩⟩, .bool n.before, .bool n.after] 50))
      have HO1 := Lib.hid (HO.out.alloc (.cells #[.int .i64 n.kind, .int .i64 n.unit, .int .i64 n.depth, .string ⟨⟨n.text⟩⟩, .bool n.before, .bool n.after] 50))
      clear hc hn HB HO
      go_wp2_with (at_builtin; go_must (refine wpList_app1 rfl _ _ 22 45 rfl Tryz.underlying22 info45 rfl (by decide) HO1.out HB1.out.size #[.int .i64 n.kind, .int .i64 n.unit, .int .i64 n.depth, .string ⟨⟨n.text⟩⟩, .bool n.before, .bool n.after] rfl (node_one n) (by omega) (by unfold maxLen; omega) rfl (wr.heap.size + 1) (by simp) rfl ?_; intro v' w9 hw9 hg9 hb9 _; have HW9 := Lib.hid hw9; have HB9 := Lib.hid hb9; clear hw9 hg9 hb9))
      go_roundg (l.length - (i + 1))
      case measure => omega
      case rel => exact ⟨i + 1, by go_num, by omega, HB1.out.trans HB9.out, by show World.ownsRow _ _ _ _ _ _ _; rw [HT.out]; exact HW9.out⟩
    · have hle : (l.length : Int) ≤ (i : Int) := by omega
      have hil : i = l.length := by omega
      go_wp2_with fail
      go_ret
      subst hil
      have := HO.out
      rw [List.take_length] at this
      exact ⟨_, rfl, this, HB.out⟩
end Go.Proofs.YtkfdcbdlcipmfaaGreatFmt
namespace Go.Proofs.YtkfdcbdlcipmfaaGreatFmt
open Go.Maps Css
structure BM (P : Program) (K E : TypeId) (b n : Nat) (f : Int → Bool) (w : World) : Prop where
  own : ∃ D : DataW Unit, w.ownsMap P K (plainElem P E) b n D ∧ IsMap D ∧ ∀ i, D.atKey (.int .i64 i) (.lit (.bool false)) = .lit (.bool (f i))
theorem plainElem_bool_inv {H : Type} {P : Program} {e : TypeId} (he : P.underlying e = some .bool) {v : Value} {z : DataW H × List MemPlace} (h : plainElem P e v = some z) : ∃ a, v = .bool a ∧ z = (.lit (.bool a), []) := by
  unfold plainElem at h
  rw [he] at h
  cases v <;> simp_all
theorem BM.made (P : Program) (K E : TypeId) (w : World) : BM P K E w.heap.size 0 (fun _ => false) (w.alloc (.map #[] 0)) :=
  ⟨.map [], World.ownsMap_made _ _ _ _, isMap_empty, fun i => rfl⟩
theorem BM.kept {P : Program} {K E : TypeId} {b n : Nat} {f : Int → Bool} {w w' : World} {row : Option Nat} (h : BM P K E b n f w) (hg : w.grownBy w' row) (hne : some b ≠ row) : BM P K E b n f w' := by
  obtain ⟨D, h1, h2, h3⟩ := h.own
  exact ⟨D, h1.kept hg hne, h2, h3⟩
theorem BM.same {P : Program} {K E : TypeId} {b n : Nat} {f : Int → Bool} {w w' : World} (h : BM P K E b n f w) (hg : w'.heap[b]? = w.heap[b]?) : BM P K E b n f w' := by
  obtain ⟨D, ⟨es, clock, hb, F, hs, hD⟩, h2, h3⟩ := h.own
  exact ⟨D, ⟨es, clock, hg.trans hb, F, hs, hD⟩, h2, h3⟩
theorem BM.lt {P : Program} {K E : TypeId} {b n : Nat} {f : Int → Bool} {w : World} (h : BM P K E b n f w) : b < w.heap.size := by
  obtain ⟨D, h1, _, _⟩ := h.own
  exact h1.lt
theorem BM.ne_own {P : Program} {K E : TypeId} {b n : Nat} {f : Int → Bool} {w : World} (h : BM P K E b n f w) {B k : Nat} {e : TypeId} {size : Nat} {v : Value} {xs : List Value} (ho : w.ownsRow B e size v k xs) : some b ≠ v.ownBlock := by
  obtain ⟨D, ⟨es, clock, hb, _⟩, _, _⟩ := h.own
  intro e'
  rcases ho.2 with ⟨rfl, _⟩ | ⟨q, cap, cur, rfl, _, hh, _⟩
  · simp [Value.ownBlock] at e'
  · simp only [Value.ownBlock, Option.some.injEq] at e'
    subst e'
    rw [hh] at hb
    injection hb with hb
    cases hb
theorem BM.ext {P : Program} {K E : TypeId} {b n n' : Nat} {f g : Int → Bool} {w : World} (h : BM P K E b n f w) (e : f = g) (hn : n ≤ n') : BM P K E b n' g w := by
  obtain ⟨D, h1, h2, h3⟩ := h.own
  exact ⟨D, h1.mono hn, h2, by rw [← e]; exact h3⟩
theorem BM.put_run {P : Program} {k e t : TypeId} {b n : Nat} {f : Int → Bool} {w : World} (hown : BM P k e b n f w) (hk : P.underlying k = some (.int .i64)) (ht : P.underlying t = some (.map k e)) (he : P.underlying e = some .bool) (hn : n < maxLen) (i : Int) (hw : (Lit.int .i64 i).wf = true) (c : Bool) :
    ∃ w', (Instr.mapUpdate t (.map (some b)) (.int .i64 i) (.bool c)).run P w = .ok () w' ∧ BM P k e b (n + 1) (upd f i c) w' ∧ w.grownBy w' (some b) := by
  obtain ⟨D, h1, h2, h3⟩ := hown.own
  obtain ⟨w', hrun, a1, a2⟩ := h1.update (int_keyed hk) ht hn (keyOf_int_mk hk hw) (plainElem_bool he c)
  refine ⟨w', hrun, ⟨_, a1, h2.put _ _, fun j => ?_⟩, a2⟩
  unfold upd
  by_cases hj : j = i
  · subst hj
    rw [if_pos rfl]
    exact atKey_put_same h2 (by simp [WideAt.IsKeyLit]) _ _
  · rw [if_neg hj, atKey_put_other (by intro e; injection e with _ e; exact hj e)]
    exact h3 j
section
variable {P : Program} (w : World) {ops : Array Oper} {rest : List Oper} {o : Oper} {a : Act} {Q : Exit → Act → World → Prop}
theorem wpList_bm_put (hg : o.guard = none) (m x v : Operand) (t : TypeId) (hop : o.op = Op.mapUpdate t m x v)
    (k e : TypeId) (hk : P.underlying k = some (.int .i64)) (ht : P.underlying t = some (.map k e)) (he : P.underlying e = some .bool) (b n : Nat) (f : Int → Bool)
    (hm : a.eval m = .map (some b)) (hown : BM P k e b n f w) (hn : n < maxLen) (i : Int) (hw : (Lit.int .i64 i).wf = true) (hx : a.eval x = .int .i64 i) (c : Bool) (hv : a.eval v = .bool c)
    (hK : ∀ w', BM P k e b (n + 1) (upd f i c) w' → w.grownBy w' (some b) → wpList P ops Q rest (a.put o.dst undef) w') : wpList P ops Q (o :: rest) a w := by
  obtain ⟨D, h1, h2, h3⟩ := hown.own
  refine wpList_mapUpdate_own w hg m x v t hop k e (int_keyed hk) ht _ b n D hm h1 hn _ _ _ hx hv (keyOf_int_mk hk hw) _ [] (plainElem_bool he c) fun w' a1 a2 => hK w' ⟨_, a1, h2.put _ _, fun j => ?_⟩ a2
  unfold upd
  by_cases hj : j = i
  · subst hj
    rw [if_pos rfl]
    exact atKey_put_same h2 (by first | trivial | decide | exact Or.inl ⟨_, _, rfl⟩ | simp [WideAt.IsKeyLit]) _ _
  · rw [if_neg hj, atKey_put_other (by intro e; injection e with _ e; exact hj e)]
    exact h3 j
end
end Go.Proofs.YtkfdcbdlcipmfaaGreatFmt
