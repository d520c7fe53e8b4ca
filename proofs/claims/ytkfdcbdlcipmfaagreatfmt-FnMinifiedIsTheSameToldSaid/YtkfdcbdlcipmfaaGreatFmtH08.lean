/- Words for the walks: the printer's tokens in memory. -/
import Derived.Maps.OwnSet
import Derived.Test.YtkfdcbdlcipmfaaGreatFmtH06
import Derived.Test.YtkfdcbdlcipmfaaGreatFmtH07
import Derived.Deep.RegionHeld3
import Derived.BigQuiet
import Derived.Test.YtkfdcbdlcipmfaaGreatFmtH03
set_option linter.unusedVariables false
set_option linter.unusedSimpArgs false
namespace Go.Proofs.YtkfdcbdlcipmfaaGreatFmt
open Css
def wsV (b a : Bool) : Int := (if b then 1 else 0) + (if a then 2 else 0)
def ctCells (ptr : Value) (x : List Int) (u' k : Int) (b a : Bool) : List Value := [ptr, .string ⟨⟨enc x⟩⟩, .int .i32 0, .int .u32 0, .int .u16 u', .int .u8 k, .int .u8 (wsV b a)]
def CellsAt (w : World) (q o : Nat) (l : List Value) : Prop := ∀ j x, l[j]? = some x → w.cell? ⟨q, o + j, none⟩ = some x
def TksIn (w : World) (S : Nat → Prop) : Nat → Nat → List T → Prop
  | _, _, [] => True
  | q, i, .mk k u x b a kids :: ts =>
    (∃ (ptr : Value) (u' : Int), (k = 26 → u' = (u : Int)) ∧ CellsAt w q (i * 7) (ctCells ptr x u' k b a) ∧
      (opens k → ∃ (p : Nat) (A : Option Addr) (c : Nat), ptr = .pointer (some ⟨p, 0, none⟩) ∧ S p ∧ w.cell? ⟨p, 0, none⟩ = some (.slice A kids.length c) ∧ (kids ≠ [] → ∃ q' : Nat, A = some ⟨q', 0, none⟩ ∧ S q' ∧ TksIn w S q' 0 kids)) ∧ (¬ opens k → ptr = .pointer none)) ∧ TksIn w S q (i + 1) ts
def TksAt (w : World) (S : Nat → Prop) (v : Value) (ts : List T) : Prop := ∃ (A : Option Addr) (c : Nat), v = .slice A ts.length c ∧ (ts ≠ [] → ∃ q : Nat, A = some ⟨q, 0, none⟩ ∧ S q ∧ TksIn w S q 0 ts)
structure TkAt (w : World) (S : Nat → Prop) (q i : Nat) (t : T) (ptr : Value) (u' : Int) : Prop where
  unit : t.kind = 26 → u' = (t.unit : Int)
  cells : CellsAt w q (i * 7) (ctCells ptr t.text u' t.kind t.before t.after)
  kids : opens t.kind → ∃ (p : Nat) (v : Value), ptr = .pointer (some ⟨p, 0, none⟩) ∧ S p ∧ w.cell? ⟨p, 0, none⟩ = some v ∧ TksAt w S v t.kids
  leaf : ¬ opens t.kind → ptr = .pointer none
theorem tksIn_nil {w : World} {S : Nat → Prop} {q i : Nat} : TksIn w S q i [] := by rw [TksIn]; trivial
theorem tksIn_cons {w : World} {S : Nat → Prop} {q i : Nat} {t : T} {ts : List T} : TksIn w S q i (t :: ts) ↔ (∃ ptr u', TkAt w S q i t ptr u') ∧ TksIn w S q (i + 1) ts := by
  obtain ⟨k, u, x, b, a, kids⟩ := t
  rw [TksIn]
  refine and_congr_left fun _ => ?_
  constructor
  · rintro ⟨ptr, u', a1, a2, a3, a4⟩
    refine ⟨ptr, u', a1, a2, fun ho => ?_, a4⟩
    obtain ⟨p, A, c, e1, e2, e3, e4⟩ := a3 ho
    exact ⟨p, _, e1, e2, e3, A, c, rfl, e4⟩
  · rintro ⟨ptr, u', h⟩
    refine ⟨ptr, u', h.unit, h.cells, fun ho => ?_, h.leaf⟩
    obtain ⟨p, v, e1, e2, e3, A, c, rfl, e4⟩ := h.kids ho
    exact ⟨p, A, c, e1, e2, e3, e4⟩
theorem CellsAt.same {w w' : World} {q o : Nat} {l : List Value} (h : CellsAt w q o l) (hq : w'.heap[q]? = w.heap[q]?) : CellsAt w' q o l := fun j x hx => by
  rw [World.cell?_of_block (w := w) (a := ⟨q, o + j, none⟩) hq]; exact h j x hx
theorem TksIn.keep {w w' : World} {S S' : Nat → Prop} (hS : ∀ b, S b → S' b ∧ w'.heap[b]? = w.heap[b]?) : ∀ (q i : Nat) (ts : List T), w'.heap[q]? = w.heap[q]? → TksIn w S q i ts → TksIn w' S' q i ts
  | _, _, [], _, _ => tksIn_nil
  | q, i, .mk k u x b a kids :: ts, hq, h => by
    rw [TksIn] at h ⊢
    obtain ⟨⟨ptr, u', h1, h2, h3, h4⟩, h5⟩ := h
    refine ⟨⟨ptr, u', h1, h2.same hq, fun ho => ?_, h4⟩, TksIn.keep hS q (i + 1) ts hq h5⟩
    obtain ⟨p, A, c, e1, e2, e3, e4⟩ := h3 ho
    refine ⟨p, A, c, e1, (hS p e2).1, ?_, fun hk => ?_⟩
    · rw [World.cell?_of_block (w := w) (a := ⟨p, 0, none⟩) (hS p e2).2]; exact e3
    · obtain ⟨q', f1, f2, f3⟩ := e4 hk
      exact ⟨q', f1, (hS q' f2).1, TksIn.keep hS q' 0 kids (hS q' f2).2 f3⟩
theorem TksAt.keep {w w' : World} {S S' : Nat → Prop} (hS : ∀ b, S b → S' b ∧ w'.heap[b]? = w.heap[b]?) {v : Value} {ts : List T} (h : TksAt w S v ts) : TksAt w' S' v ts := by
  obtain ⟨A, c, e, h⟩ := h
  refine ⟨A, c, e, fun hk => ?_⟩
  obtain ⟨q, f1, f2, f3⟩ := h hk
  exact ⟨q, f1, (hS q f2).1, TksIn.keep hS q 0 ts (hS q f2).2 f3⟩
theorem TksIn.drop {w : World} {S : Nat → Prop} {q : Nat} : ∀ (n i : Nat) (ts : List T), TksIn w S q i ts → TksIn w S q (i + n) (ts.drop n) := by
  intro n
  induction n with
  | zero => intro i ts h; exact h
  | succ n ih =>
    intro i ts h
    cases ts with
    | nil => exact tksIn_nil
    | cons t ts =>
      have := ih (i + 1) ts (tksIn_cons.1 h).2
      rw [List.drop_succ_cons]
      have e : i + (n + 1) = i + 1 + n := by omega
      rw [e]; exact this
theorem TksIn.get {w : World} {S : Nat → Prop} {q : Nat} {ts : List T} (h : TksIn w S q 0 ts) {i : Nat} {t : T} (hi : ts[i]? = some t) : ∃ ptr u', TkAt w S q i t ptr u' := by
  have h1 := TksIn.drop i 0 ts h
  have h2 : ts.drop i = t :: ts.drop (i + 1) := by
    obtain ⟨hlt, e⟩ := List.getElem?_eq_some_iff.1 hi
    rw [← e]; exact List.drop_eq_getElem_cons hlt
  rw [h2, Nat.zero_add] at h1
  exact (tksIn_cons.1 h1).1
inductive CtRow (w : World) (S : Nat → Prop) : List T → List Value → Prop
  | nil : CtRow w S [] []
  | snoc (ts : List T) (xs : List Value) (t : T) (ptr : Value) (u' : Int) : CtRow w S ts xs → (t.kind = 26 → u' = (t.unit : Int)) →
      (opens t.kind → ∃ (p : Nat) (v : Value), ptr = .pointer (some ⟨p, 0, none⟩) ∧ S p ∧ w.cell? ⟨p, 0, none⟩ = some v ∧ TksAt w S v t.kids) → (¬ opens t.kind → ptr = .pointer none) →
      CtRow w S (ts ++ [t]) (xs ++ ctCells ptr t.text u' t.kind t.before t.after)
theorem CtRow.keep {w w' : World} {S S' : Nat → Prop} (hS : ∀ b, S b → S' b ∧ w'.heap[b]? = w.heap[b]?) {ts : List T} {xs : List Value} (h : CtRow w S ts xs) : CtRow w' S' ts xs := by
  induction h with
  | nil => exact .nil
  | snoc ts xs t ptr u' _ h1 h2 h3 ih =>
    refine .snoc ts xs t ptr u' ih h1 (fun ho => ?_) h3
    obtain ⟨p, v, e1, e2, e3, e4⟩ := h2 ho
    exact ⟨p, v, e1, (hS p e2).1, by rw [World.cell?_of_block (w := w) (a := ⟨p, 0, none⟩) (hS p e2).2]; exact e3, e4.keep hS⟩
theorem CtRow.len {w : World} {S : Nat → Prop} {ts : List T} {xs : List Value} (h : CtRow w S ts xs) : xs.length = ts.length * 7 := by
  induction h with
  | nil => rfl
  | snoc ts xs t ptr u' _ _ _ _ ih => rw [List.length_append, List.length_append, ih]; simp [ctCells]; omega
theorem TksIn.snoc {w : World} {S : Nat → Prop} {q : Nat} {t : T} {ptr : Value} {u' : Int} : ∀ (ts : List T) (i : Nat), TksIn w S q i ts → TkAt w S q (i + ts.length) t ptr u' → TksIn w S q i (ts ++ [t]) := by
  intro ts
  induction ts with
  | nil => intro i _ h; exact tksIn_cons.2 ⟨⟨ptr, u', h⟩, tksIn_nil⟩
  | cons v ts ih =>
    intro i h0 h
    have h1 := tksIn_cons.1 h0
    refine tksIn_cons.2 ⟨h1.1, ih (i + 1) h1.2 ?_⟩
    rw [List.length_cons] at h
    have e : i + 1 + ts.length = i + (ts.length + 1) := by omega
    rw [e]; exact h
theorem CtRow.tksIn {w : World} {S : Nat → Prop} {ts : List T} {xs : List Value} (h : CtRow w S ts xs) {q : Nat} (hc : ∀ i x, xs[i]? = some x → w.cell? ⟨q, i, none⟩ = some x) : TksIn w S q 0 ts := by
  induction h with
  | nil => exact tksIn_nil
  | snoc ts xs t ptr u' hr h1 h2 h3 ih =>
    have hl := hr.len
    refine TksIn.snoc ts 0 (ih fun i x hx => hc i x ?_) ⟨h1, fun j x hx => ?_, h2, h3⟩
    · rw [List.getElem?_append_left (List.getElem?_eq_some_iff.1 hx).1]; exact hx
    · refine hc _ x ?_
      rw [List.getElem?_append_right (by omega)]
      have e : (0 + ts.length) * 7 + j - xs.length = j := by omega
      rw [e]; exact hx
end Go.Proofs.YtkfdcbdlcipmfaaGreatFmt
namespace Go.Proofs.YtkfdcbdlcipmfaaGreatFmt
open Go.RowKit Css
theorem info105 : (Tryz.prog.info? 105).map (fun i => (i.zero, i.size, i.bytes)) = some (some (.agg #[.pointer none, .string ⟨#[]⟩, .int .i32 0, .int .u32 0, .int .u16 0, .int .u8 0, .int .u8 0]), 7, 40) := by kernel_rfl
structure NodesO (v : Value) (l : List RN) (w : World) : Prop where
  form : ∃ q off c, v = .slice (some ⟨q, off, none⟩) l.length c ∧ l.length ≤ c ∧ q < w.heap.size ∧ ∀ i x, (nRow l)[i]? = some x → w.cell? ⟨q, off + i, none⟩ = some x
theorem NodesO.node {q off : Nat} {l : List RN} {w : World} (h : ∀ i x, (nRow l)[i]? = some x → w.cell? ⟨q, off + i, none⟩ = some x) {i : Nat} {n : RN} (hn : l[i]? = some n) : NodeC w q (off + i * 6) n := by
  have g : ∀ j x, j < 6 → (nCells n)[j]? = some x → w.cell? ⟨q, off + i * 6 + j, none⟩ = some x := fun j x hj hx => by
    have := h (i * 6 + j) x (by rw [nRow_get hn j hj]; exact hx)
    rw [← Nat.add_assoc] at this; exact this
  exact ⟨g 0 _ (by decide) rfl, g 1 _ (by decide) rfl, g 2 _ (by decide) rfl, g 3 _ (by decide) rfl, g 4 _ (by decide) rfl, g 5 _ (by decide) rfl⟩
structure NodeK (n : RN) : Prop where
  kind : 0 ≤ n.kind ∧ n.kind ≤ 255
  unit : n.kind = 26 → 0 ≤ n.unit ∧ n.unit < 65536
  text : enc (dec n.text) = n.text
  depth : 0 ≤ n.depth ∧ n.depth ≤ 1000000
def SB (B : Nat) (v : Value) (w : World) : Nat → Prop := fun b => B ≤ b ∧ b < w.heap.size ∧ some b ≠ v.ownBlock
def RetT (d : Int) (l : List RN) (w : World) (e : Ending) (w' : World) : Prop :=
  ∃ (ts : List T) (k : Nat) (v : Value), k ≤ l.length ∧ e = .returned (.tuple #[v, .int .i64 k]) ∧ Parse d (l.map RN.cp) ts ((l.drop k).map RN.cp) ∧ TksAt w' (fun b => w.heap.size ≤ b ∧ b < w'.heap.size) v ts ∧ Below w.heap.size w w'
structure Ts (B : Nat) (acc : List T) (v : Value) (w : World) : Prop where
  row : ∃ xs, w.ownsRow B 105 7 v acc.length xs ∧ CtRow w (SB B v w) acc xs
theorem sb_ty {B : Nat} {v : Value} {w w' : World} (hs : w.heap.size ≤ w'.heap.size) (hb : ∀ b, B ≤ b → b < w.heap.size → some b ≠ v.ownBlock → w'.heap[b]? = w.heap[b]?) : ∀ b, SB B v w b → SB B v w' b ∧ w'.heap[b]? = w.heap[b]? :=
  fun b h => ⟨⟨h.1, Nat.lt_of_lt_of_le h.2.1 hs, h.2.2⟩, hb b h.1 h.2.1 h.2.2⟩
theorem Ts.keep {B : Nat} {acc : List T} {v : Value} {w w' : World} (h : Ts B acc v w) (hs : w.heap.size ≤ w'.heap.size) (hb : ∀ b, b < w.heap.size → w'.heap[b]? = w.heap[b]?) : Ts B acc v w' := by
  obtain ⟨xs, h1, h2⟩ := h.row
  exact ⟨xs, own_keep h1 (fun q hq => hb q (own_lt h1 hq).1), h2.keep (sb_ty hs fun b _ h3 _ => hb b h3)⟩
theorem Ts.below {B : Nat} {acc : List T} {v : Value} {w w' : World} (h : Ts B acc v w) (hb : Below w.heap.size w w') : Ts B acc v w' := h.keep hb.size hb.block
theorem Ts.at {B : Nat} {acc : List T} {v : Value} {w : World} (h : Ts B acc v w) : TksAt w (fun b => B ≤ b ∧ b < w.heap.size) v acc := by
  obtain ⟨xs, h1, h2⟩ := h.row
  obtain ⟨A, c, e⟩ := own_slice h1
  refine ⟨A, c, e, fun hne => ?_⟩
  obtain ⟨q, cap, hv, hq, hlt⟩ := h1.form (List.length_pos_iff.2 hne)
  have hA : A = some ⟨q, 0, none⟩ := by rw [e] at hv; injection hv
  have ho := own_lt h1 (q := q) (by rw [hv]; rfl)
  refine ⟨q, hA, ⟨ho.2.1, ho.1⟩, ?_⟩
  refine TksIn.keep (S := SB B v w) (fun b hb => ⟨⟨hb.1, hb.2.1⟩, rfl⟩) q 0 acc rfl (h2.tksIn fun i x hx => ?_)
  have := h1.cells (g := q) (by rw [hv]; rfl) i x hx
  rw [addr_add0] at this; exact this
theorem Ts.more {B : Nat} {acc : List T} {v v' : Value} {w w' : World} {O : Obj} {t : T} {ptr : Value} {u' : Int} {xs : List Value} (h1 : w.ownsRow B 105 7 v acc.length xs) (h2 : CtRow w (SB B v w) acc xs)
    (hu : t.kind = 26 → u' = (t.unit : Int)) (hk : opens t.kind → ∃ (p : Nat) (z : Value), ptr = .pointer (some ⟨p, 0, none⟩) ∧ SB B v w p ∧ w.cell? ⟨p, 0, none⟩ = some z ∧ TksAt w (SB B v w) z t.kids) (hl : ¬ opens t.kind → ptr = .pointer none)
    (hown : w'.ownsRow B 105 7 v' (acc.length + 1) (xs ++ ctCells ptr t.text u' t.kind t.before t.after)) (hg : (w.alloc O).grownBy w' v.ownBlock) (hv : v'.ownBlock = v.ownBlock ∨ v'.ownBlock = some (w.heap.size + 1)) : Ts B (acc ++ [t]) v' w' := by
  have hsz : (w.alloc O).heap.size = w.heap.size + 1 := by simp
  have hs : w.heap.size ≤ w'.heap.size := by have := hg.size; omega
  have hS : ∀ b, SB B v w b → SB B v' w' b ∧ w'.heap[b]? = w.heap[b]? := fun b hb => by
    refine ⟨⟨hb.1, Nat.lt_of_lt_of_le hb.2.1 hs, ?_⟩, ?_⟩
    · rcases hv with e | e
      · rw [e]; exact hb.2.2
      · rw [e]; intro hx; injection hx with hx; have := hb.2.1; omega
    · rw [hg.block b (by have := hb.2.1; omega) hb.2.2]; exact Below.heap_alloc w _ b hb.2.1
  refine ⟨_, by rw [List.length_append]; exact hown, .snoc acc xs t ptr u' (h2.keep hS) hu (fun ho => ?_) hl⟩
  obtain ⟨p, z, e1, e2, e3, e4⟩ := hk ho
  exact ⟨p, z, e1, (hS p e2).1, by rw [World.cell?_of_block (w := w) (a := ⟨p, 0, none⟩) (hS p e2).2]; exact e3, e4.keep hS⟩
end Go.Proofs.YtkfdcbdlcipmfaaGreatFmt
namespace Go.Proofs.YtkfdcbdlcipmfaaGreatFmt
open Go.RowKit
theorem below_class (W : World) : ∃ (Ix : Type) (_ : Nonempty Ix) (f : Ix → World), (∀ n, Below W.heap.size W (f n)) ∧ (∀ w', Below W.heap.size W w' → ∃ n, w' = f n) :=
  ⟨{ w' : World // Below W.heap.size W w' }, ⟨⟨W, Below.refl _ _⟩⟩, fun x => x.1, fun x => x.2, fun w' h => ⟨⟨w', h⟩, rfl⟩⟩
theorem wp_region_class {P : Program} {Ix : Type} {f : Ix → World} {id : Nat} {Q : Exit → Act → World → Prop} {a : Act} {w : World} {l : List Oper} (hm : P.follows .mixedOrders = true) (hB : Region.lexB .any l.toArray = true)
    (hf2 : ∀ w', Below w.heap.size w w' → ∃ n, w' = f n)
    (h : wpQuiet P l.toArray (fun w' => ∃ n, w' = f n) (fun a' => ∀ w', (∃ n, w' = f n) → Q .normal a' w') l a) : (Code.region id l.toArray true).wp P Q a w :=
  wp_region_quiet (C := fun w' => ∃ n, w' = f n) hm hB (hf2 _ (Below.refl _ _).drew) (by simpa using h)
theorem class_cell {W : World} {Ix : Type} {f : Ix → World} (hf1 : ∀ n, Below W.heap.size W (f n)) {b o : Nat} {x : Value} (h : W.cell? ⟨b, o, none⟩ = some x) (n : Ix) : (f n).cell? ⟨b, o, none⟩ = some x := by
  have hb : b < W.heap.size := World.block_lt_of_cell? W _ h
  rw [World.cell?_of_block (w := W) (a := ⟨b, o, none⟩) ((hf1 n).block b hb)]; exact h
theorem class_next {W : World} {Ix : Type} {f : Ix → World} (hf1 : ∀ n, Below W.heap.size W (f n)) (hf2 : ∀ w', Below W.heap.size W w' → ∃ n, w' = f n) {n : Ix} {w' : World} (h : Below (f n).heap.size (f n) w') : ∃ m, w' = f m :=
  hf2 _ ((hf1 n).trans (h.mono (hf1 n).size))
end Go.Proofs.YtkfdcbdlcipmfaaGreatFmt
namespace Go.Proofs.YtkfdcbdlcipmfaaGreatFmt
open Go.RowKit
theorem below_cell {w w' : World} (h : Below w.heap.size w w') {b o : Nat} {x : Value} (hx : w.cell? ⟨b, o, none⟩ = some x) : w'.cell? ⟨b, o, none⟩ = some x := by
  have hb : b < w.heap.size := World.block_lt_of_cell? w _ hx
  rw [World.cell?_of_block (w := w) (a := ⟨b, o, none⟩) (h.block b hb)]; exact hx
theorem below_then {w W w1 : World} (h : Below w.heap.size w W) (h1 : Below W.heap.size W w1) : Below w.heap.size w w1 := h.trans (h1.mono h.size)
theorem own_base {w : World} {B B' n : Nat} {e : TypeId} {size : Nat} {v : Value} {xs : List Value} (hB : B' ≤ B) (h : w.ownsRow B e size v n xs) : w.ownsRow B' e size v n xs := by
  refine ⟨h.1, ?_⟩
  rcases h.2 with h2 | ⟨q, cap, cur, hv, hb, r⟩
  · exact .inl h2
  · exact .inr ⟨q, cap, cur, hv, Nat.le_trans hB hb, r⟩
end Go.Proofs.YtkfdcbdlcipmfaaGreatFmt
namespace Go.Proofs.YtkfdcbdlcipmfaaGreatFmt
open Go.RowKit Css
theorem idQ_eq (a b c : Int) : idQ a b c = if a = 45 then (stQ b || b == 45 || esQ b c) else (stQ a || esQ a b) := by
  rw [Bool.eq_iff_iff, idQ_iff]; unfold ident3
  split <;> simp [*, stQ_iff, esQ_iff, or_assoc]
theorem n2Q_eq (a b : Int) : n2Q a b = (dgQ a || (a == 46 && dgQ b)) := by
  rw [Bool.eq_iff_iff, n2Q_iff]; unfold num2; simp [dgQ_iff]
theorem coQ_eq (a b c : Int) : coQ a b c = if a = 43 ∨ a = 45 then n2Q b c else n2Q a b := by
  rw [Bool.eq_iff_iff, coQ_iff]; unfold counts
  split <;> simp [*, n2Q_iff]
set_option maxHeartbeats 1600000 in
set_option maxRecDepth 100000 in
theorem id_any (a b c : Int) (w : World) : Calls Tryz.prog 67 #[.int .i64 a, .int .i64 b, .int .i64 c] w (RetB (idQ a b c) w) := by
  have hq := idQ_eq a b c
  by_cases ha : a = 45
  · rw [if_pos ha] at hq
    subst ha
    have HQ := Lib.hid hq
    clear hq
    cases h : stQ b
    · have H := Lib.hid h
      clear h
      cases hb : (b == 45)
      · cases h2 : esQ b c
        all_goals
          have H2 := Lib.hid h2
          clear h2
          go_enter Tryz.func67, Tryz.ntmps67
          go_wp2_with (first | (go_at_call 89; go_must (refine (st_any _ _).mono ?_; rintro e w' ⟨rfl, rfl⟩; rw [H.out])) | (go_at_call 62; go_must (refine (es_any _ _ _).mono ?_; rintro e w' ⟨rfl, rfl⟩; rw [H2.out])))
          all_goals
            go_ret
            exact RetB.mk' (by rw [HQ.out, H.out, H2.out, hb]; rfl)
      · have hb2 : b = 45 := by simpa using hb
        subst hb2
        go_enter Tryz.func67, Tryz.ntmps67
        go_wp2_with (go_at_call 89; go_must (refine (st_any _ _).mono ?_; rintro e w' ⟨rfl, rfl⟩; rw [H.out]))
        all_goals
          go_ret
          exact RetB.mk' (by rw [HQ.out, H.out]; rfl)
    · have H := Lib.hid h
      clear h
      go_enter Tryz.func67, Tryz.ntmps67
      go_wp2_with (go_at_call 89; go_must (refine (st_any _ _).mono ?_; rintro e w' ⟨rfl, rfl⟩; rw [H.out]))
      all_goals
        go_ret
        exact RetB.mk' (by rw [HQ.out, H.out]; rfl)
  · rw [if_neg ha] at hq
    have ha2 : (a == 45) = false := by simpa using ha
    have HQ := Lib.hid hq
    clear hq ha
    cases h : stQ a
    · have H := Lib.hid h
      clear h
      cases h2 : esQ a b
      all_goals
        have H2 := Lib.hid h2
        clear h2
        go_enter Tryz.func67, Tryz.ntmps67
        go_wp2_with (first | (go_at_call 89; go_must (refine (st_any _ _).mono ?_; rintro e w' ⟨rfl, rfl⟩; rw [H.out])) | (go_at_call 62; go_must (refine (es_any _ _ _).mono ?_; rintro e w' ⟨rfl, rfl⟩; rw [H2.out])))
        all_goals
          go_ret
          exact RetB.mk' (by rw [HQ.out, H.out, H2.out]; rfl)
    · have H := Lib.hid h
      clear h
      go_enter Tryz.func67, Tryz.ntmps67
      go_wp2_with (go_at_call 89; go_must (refine (st_any _ _).mono ?_; rintro e w' ⟨rfl, rfl⟩; rw [H.out]))
      all_goals
        go_ret
        exact RetB.mk' (by rw [HQ.out, H.out]; rfl)
set_option maxHeartbeats 1600000 in
set_option maxRecDepth 100000 in
theorem co_any (a b c : Int) (w : World) : Calls Tryz.prog 68 #[.int .i64 a, .int .i64 b, .int .i64 c] w (RetB (coQ a b c) w) := by
  have key : ∀ x y : Int, ((a = 43 ∨ a = 45) → x = b ∧ y = c) → (¬ (a = 43 ∨ a = 45) → x = a ∧ y = b) → coQ a b c = n2Q x y := by
    intro x y h1 h2
    rw [coQ_eq]
    split
    · rename_i h; rw [(h1 h).1, (h1 h).2]
    · rename_i h; rw [(h2 h).1, (h2 h).2]
  have main : ∀ x y : Int, ((a = 43 ∨ a = 45) → x = b ∧ y = c) → (¬ (a = 43 ∨ a = 45) → x = a ∧ y = b) → Calls Tryz.prog 68 #[.int .i64 a, .int .i64 b, .int .i64 c] w (RetB (n2Q x y) w) := by
    intro x y hx1 hx2
    by_cases ha : a = 43 ∨ a = 45
    · obtain ⟨rfl, rfl⟩ := hx1 ha
      clear hx1 hx2 key
      have HQ := Lib.hid (n2Q_eq x y)
      cases h : dgQ x
      · have H := Lib.hid h
        clear h
        cases hd : (x == 46)
        · rcases ha with rfl | rfl
          all_goals
            go_enter Tryz.func68, Tryz.ntmps68
            go_wp2_with (go_at_call 90; go_must (refine (dg_any _ _).mono ?_; rintro e w' ⟨rfl, rfl⟩; rw [H.out]))
            all_goals
              go_ret
              exact RetB.mk' (by rw [HQ.out, H.out, hd]; rfl)
        · have hd2 : x = 46 := by simpa using hd
          subst hd2
          cases h2 : dgQ y
          all_goals
            have H2 := Lib.hid h2
            clear h2
            rcases ha with rfl | rfl
            all_goals
              go_enter Tryz.func68, Tryz.ntmps68
              go_wp2_with fail
              refine (dg_any _ _).mono ?_
              rintro e w' ⟨rfl, rfl⟩
              rw [H.out]
              go_wp2_with fail
              refine (dg_any _ _).mono ?_
              rintro e w' ⟨rfl, rfl⟩
              rw [H2.out]
              go_wp2_with fail
              all_goals
                go_ret
                exact RetB.mk' (by rw [HQ.out, H.out, H2.out]; rfl)
      · have H := Lib.hid h
        clear h
        rcases ha with rfl | rfl
        all_goals
          go_enter Tryz.func68, Tryz.ntmps68
          go_wp2_with (go_at_call 90; go_must (refine (dg_any _ _).mono ?_; rintro e w' ⟨rfl, rfl⟩; rw [H.out]))
          all_goals
            go_ret
            exact RetB.mk' (by rw [HQ.out, H.out]; rfl)
    · obtain ⟨rfl, rfl⟩ := hx2 ha
      have ha1 : (x == 43) = false := by simp; omega
      have ha2 : (x == 45) = false := by simp; omega
      clear hx1 hx2 key ha
      have HQ := Lib.hid (n2Q_eq x y)
      cases h : dgQ x
      · have H := Lib.hid h
        clear h
        cases hd : (x == 46)
        · go_enter Tryz.func68, Tryz.ntmps68
          go_wp2_with (go_at_call 90; go_must (refine (dg_any _ _).mono ?_; rintro e w' ⟨rfl, rfl⟩; rw [H.out]))
          all_goals
            go_ret
            exact RetB.mk' (by rw [HQ.out, H.out, hd]; rfl)
        · have hd2 : x = 46 := by simpa using hd
          subst hd2
          cases h2 : dgQ y
          all_goals
            have H2 := Lib.hid h2
            clear h2
            go_enter Tryz.func68, Tryz.ntmps68
            go_wp2_with fail
            refine (dg_any _ _).mono ?_
            rintro e w' ⟨rfl, rfl⟩
            rw [H.out]
            go_wp2_with fail
            refine (dg_any _ _).mono ?_
            rintro e w' ⟨rfl, rfl⟩
            rw [H2.out]
            go_wp2_with fail
            all_goals
              go_ret
              exact RetB.mk' (by rw [HQ.out, H.out, H2.out]; rfl)
      · have H := Lib.hid h
        clear h
        go_enter Tryz.func68, Tryz.ntmps68
        go_wp2_with (go_at_call 90; go_must (refine (dg_any _ _).mono ?_; rintro e w' ⟨rfl, rfl⟩; rw [H.out]))
        all_goals
          go_ret
          exact RetB.mk' (by rw [HQ.out, H.out]; rfl)
  by_cases ha : a = 43 ∨ a = 45
  · rw [key b c (fun _ => ⟨rfl, rfl⟩) (fun h => absurd ha h)]
    exact main b c (fun _ => ⟨rfl, rfl⟩) (fun h => absurd ha h)
  · rw [key a b (fun h => absurd h ha) (fun _ => ⟨rfl, rfl⟩)]
    exact main a b (fun h => absurd h ha) (fun _ => ⟨rfl, rfl⟩)
def RetI (i : Int) (w : World) (e : Ending) (w' : World) : Prop := e = .returned (.int .i64 i) ∧ w = w'
theorem RetI.mk' {a b : Int} {w : World} (h : a = b) : RetI b w (.returned (.int .i64 a)) w := ⟨by rw [h], rfl⟩
set_option maxHeartbeats 1600000 in
set_option maxRecDepth 100000 in
theorem hex_any (c : Int) (w : World) : Calls Tryz.prog 92 #[.int .i64 c] w (RetI (hexv c) w) := by
  cases h : dgQ c
  · have hd : ¬ (48 ≤ c ∧ c ≤ 57) := by intro hx; rw [dgQ_iff.2 hx] at h; cases h
    have H := Lib.hid h
    have HD := Lib.hid hd
    clear h hd
    by_cases h1 : 97 ≤ c ∧ c ≤ 102
    · obtain ⟨h1, h2⟩ := h1
      go_enter Tryz.func92, Tryz.ntmps92
      go_wp2_with (go_at_call 90; go_must (refine (dg_any _ _).mono ?_; rintro e w' ⟨rfl, rfl⟩; rw [H.out]))
      go_ret
      exact RetI.mk' (by unfold hexv; rw [if_neg HD.out, if_pos ⟨h1, h2⟩])
    · by_cases h2 : 65 ≤ c ∧ c ≤ 70
      · obtain ⟨h2, h3⟩ := h2
        have h4 : c < 97 := by omega
        go_enter Tryz.func92, Tryz.ntmps92
        go_wp2_with (go_at_call 90; go_must (refine (dg_any _ _).mono ?_; rintro e w' ⟨rfl, rfl⟩; rw [H.out]))
        go_ret
        exact RetI.mk' (by unfold hexv; rw [if_neg HD.out, if_neg (by omega), if_pos ⟨h2, h3⟩])
      · have HX : Hid (hexv c = -1) := by show _ = _; unfold hexv; rw [if_neg HD.out, if_neg h1, if_neg h2]
        go_enter Tryz.func92, Tryz.ntmps92
        go_wp2_with (go_at_call 90; go_must (refine (dg_any _ _).mono ?_; rintro e w' ⟨rfl, rfl⟩; rw [H.out]))
        all_goals
          first
          | (exfalso; omega)
          | (go_ret
             exact RetI.mk' HX.out.symm)
  · have hd : 48 ≤ c ∧ c ≤ 57 := dgQ_iff.1 h
    have H := Lib.hid h
    clear h
    obtain ⟨h1, h2⟩ := hd
    go_enter Tryz.func92, Tryz.ntmps92
    go_wp2_with (go_at_call 90; go_must (refine (dg_any _ _).mono ?_; rintro e w' ⟨rfl, rfl⟩; rw [H.out]))
    go_ret
    exact RetI.mk' (by unfold hexv; rw [if_pos ⟨h1, h2⟩])
end Go.Proofs.YtkfdcbdlcipmfaaGreatFmt
namespace Go.Proofs.YtkfdcbdlcipmfaaGreatFmt
open Go.RowKit Css
open Go.Extern.Stop Go.Stop Go.Extern
set_option maxHeartbeats 1600000 in
set_option maxRecDepth 100000 in
theorem pwe_slash0 (B g : Nat) (mini asc : Bool) (c : Int) (hv : Valid c) (hr : c < 48 ∨ (58 ≤ c ∧ c < 65) ∨ (71 ≤ c ∧ c < 97) ∨ 103 ≤ c) (s : ByteArray) (may : Bool) (w : World) (bs : List UInt8) (v : Value) (H : At B g mini asc bs v w) (hl : bs.length + 16 ≤ 140737488355328) :
    Calls Tryz.prog 103 #[.pointer (some ⟨g, 0, none⟩), .int .i32 c, .int .u8 1, .string s, .bool may] w fun e w' => e = .returned (.tuple #[]) ∧ Put B g mini asc (bs ++ (92 :: enc1 c)) w w' := by
  have hgl := H.pr.lt
  have hB := H.base
  have HA0 := Lib.hid (H.alloc tmpO)
  have hc : (w.alloc tmpO).cell? ⟨g, 15, none⟩ = some v := HA0.out.pr.css
  have hf : (w.alloc tmpO).frozen? ⟨g, 15, none⟩ = false := HA0.out.pr.free
  have HV := Lib.hid hv
  clear hv H
  rcases hr with hr | hr | hr | hr
  all_goals
    go_enter Tryz.func103, Tryz.ntmps103
    go_wp2_with (first | (at_builtin; go_must (refine wpList_put1 rfl _ _ rfl HA0.out 92 rfl _ rfl ?hb (bs.length + 1) rfl (by omega) ?_; (case hb => simp); intro q cap w1 hp1 hat hke; have hc1 := hp1.css; have hf1 := hp1.free; clear hp1; have HAT := Lib.hid hat; clear hat; have HKE := Lib.hid hke; clear hke)) | (go_at_call 133; go_must (refine (encode_any _ _ HV.out _ (tmp_after HKE.out hgl).1 (tmp_after HKE.out hgl).2).mono ?_; rintro e w2 ⟨rfl, hw2⟩; have HW := Lib.hid hw2; clear hw2)))
    have HA := Lib.hid (after_encode c ⟨HAT.out.st, HKE.out⟩ hB hgl HW.out)
    clear HW HAT HKE hc1 hf1
    obtain ⟨v2, H2⟩ := HA.out.1.st.at_
    have hc2 := H2.pr.css
    have hf2 := H2.pr.free
    have HAT2 := Lib.hid H2
    clear H2
    have hwd := (wd_pos c).2
    have hwd0 := (wd_pos c).1
    have hwd2 : (wd c : Int) ≤ 4 := by omega
    have hwd3 : 0 ≤ (wd c : Int) := by omega
    go_region_law (refine step_put rfl _ _ rfl HAT2.out (enc1 c) (wd c) w.heap.size (enc1_length c) hwd0 HA.out.2 rfl 4 rfl (bs.length + 1 + wd c) (by rw [List.length_append]; rfl) (by rw [List.length_append]; show bs.length + 1 + _ ≤ _; omega) ?_; intro q2 cap2 w3 hp3 hat3 hke3; have hc3 := hp3.css; have hf3 := hp3.free; clear hp3; have HAT3 := Lib.hid hat3; clear hat3; have HKE3 := Lib.hid hke3; clear hke3)
    go_wp2
    go_end0
    refine ⟨rfl, ?_⟩
    have := HA.out.1.trans ⟨HAT3.out.st, HKE3.out⟩
    rw [List.append_assoc] at this
    exact this
end Go.Proofs.YtkfdcbdlcipmfaaGreatFmt
namespace Go.Proofs.YtkfdcbdlcipmfaaGreatFmt
open Go.RowKit Css
open Go.Extern.Stop Go.Stop Go.Extern
def spB8 (b : Bool) : List UInt8 := if b then [32] else []
theorem runeLen_wd (c : Int) (hv : Valid c) : Lib.runeLen c = (wd c : Nat) := by
  unfold Valid at hv; unfold Lib.runeLen wd
  repeat' split
  all_goals first | rfl | omega
theorem runeLen_any (c : Int) (hv : Valid c) (w : World) : Calls Tryz.prog 116 #[.int .i32 c] w fun e w' => e = .returned (.int .i64 (wd c : Nat)) ∧ w = w' := by
  refine (Tryz.utf8_RuneLen c w).mono ?_
  rintro e w' ⟨he, hw⟩
  exact ⟨by rw [he, runeLen_wd c hv], hw.symm⟩
set_option maxHeartbeats 1600000 in
set_option maxRecDepth 100000 in
theorem pwe_hexE (F : Interp) (B g : Nat) (mini asc : Bool) (c : Int) (hv : Valid c) (e : Int) (he : e = 2 ∨ (e = 1 ∧ 48 ≤ c ∧ c ≤ 57)) (hT : (hexT F c).size ≤ 6) (s : ByteArray) (hsz : s.size = wd c) (may : Bool) (w : World) (bs : List UInt8) (v : Value) (H : At B g mini asc bs v w) (hl : bs.length + 16 ≤ 140737488355328) (hF : F.told.answers w.tape) :
    Calls Tryz.prog 103 #[.pointer (some ⟨g, 0, none⟩), .int .i32 c, .int .u8 e, .string s, .bool may] w fun e w' => e = .returned (.tuple #[]) ∧ Put B g mini asc (bs ++ ((hexT F c).data.toList ++ spB8 may)) w w' := by
  have hB := H.base
  have HA0 := Lib.hid ((H.alloc tmpO).alloc (.cells #[.iface 21 (.int .i32 c)] 20))
  have hc : ((w.alloc tmpO).alloc (.cells #[.iface 21 (.int .i32 c)] 20)).cell? ⟨g, 15, none⟩ = some v := HA0.out.pr.css
  have hf : ((w.alloc tmpO).alloc (.cells #[.iface 21 (.int .i32 c)] 20)).frozen? ⟨g, 15, none⟩ = false := HA0.out.pr.free
  have HKE0 : Hid (Ke B g w ((w.alloc tmpO).alloc (.cells #[.iface 21 (.int .i32 c)] 20))) := ((Ke.refl B g w).alloc hB _).alloc (by simp; omega) _
  have HV := Lib.hid hv
  have hsp := sprintf_run F c (w.alloc tmpO) (w.heap.size + 1) (by simp) hF
  have hnlt : ¬ ((wd c : Int) < (s.size : Int)) := by omega
  have hnlt2 : ¬ (wd c < s.size) := by omega
  generalize hTe : hexT F c = T at hsp hT ⊢
  clear hv H hF hsz hTe
  have hT2 : (T.size : Int) < 7 := by omega
  rcases he with rfl | ⟨rfl, h1, h2⟩
  all_goals
    cases may
    all_goals
      go_enter Tryz.func103, Tryz.ntmps103
      go_wp2_with (first | (at_builtin; refine wpList_puts rfl _ _ rfl (HA0.out.drew) T rfl rfl (bs.length + T.size) rfl (by omega) ?_; intro A1 cap w1 hp1 hat hke; have hc1 := hp1.css; have hf1 := hp1.free; clear hp1; have HAT := Lib.hid hat; have hca := hat.pr.css; have hfa := hat.pr.free; clear hat; have HKE := Lib.hid hke; clear hke) | (at_builtin; go_must (refine wpList_put1 rfl _ _ rfl HAT.out 32 rfl _ rfl ?hb (bs.length + T.size + 1) ?hn ?hl ?_; (case hb => simp [World.setCell]); (case hn => rw [List.length_append]; rfl); (case hl => rw [List.length_append]; show bs.length + T.size + 1 ≤ _; omega); intro q2 cap2 w2 hp2 hat2 hke2; have hc2 := hp2.css; have hf2 := hp2.free; clear hp2; have HAT2 := Lib.hid hat2; clear hat2; have HKE2 := Lib.hid hke2; clear hke2)) | (go_at_call 116; go_must (refine (runeLen_any _ HV.out _).mono ?_; rintro e w' ⟨rfl, rfl⟩)))
      go_end0
      refine ⟨rfl, ?_⟩
      first
        | (refine ⟨?_, HKE0.out.trans ((Ke.of_drew HKE.out).trans HKE2.out)⟩; have := HAT2.out.st; rw [List.append_assoc] at this; exact this)
        | (refine ⟨?_, HKE0.out.trans (Ke.of_drew HKE.out)⟩; have := HAT.out.st; rw [show spB8 false = [] from rfl, List.append_nil]; exact this)
end Go.Proofs.YtkfdcbdlcipmfaaGreatFmt
