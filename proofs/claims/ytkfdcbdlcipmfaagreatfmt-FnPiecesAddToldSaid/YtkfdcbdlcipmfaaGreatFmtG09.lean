/- Words for the walks: what is returned; flat nodes in memory. -/
import Derived.Test.YtkfdcbdlcipmfaaGreatFmtG07
import Derived.Test.YtkfdcbdlcipmfaaGreatFmtG08
import Derived.Test.YtkfdcbdlcipmfaaGreatFmtG00
import Derived.Deep.Light
import Derived.Maps.OwnSet
set_option linter.unusedVariables false
set_option linter.unusedSimpArgs false
namespace Go.Proofs.YtkfdcbdlcipmfaaGreatFmt
open Go.RowKit Css
def RetBW (b : Bool) (w : World) (e : Ending) (w' : World) : Prop := e = .returned (.bool b) ∧ Below w.heap.size w w'
theorem RetBW.mk' {a b : Bool} {w w' : World} (h : a = b) (hb : Below w.heap.size w w') : RetBW b w (.returned (.bool a)) w' := ⟨retB_eq h, hb⟩
def RetVW (v : Value) (w : World) (e : Ending) (w' : World) : Prop := e = .returned v ∧ Below w.heap.size w w'
theorem RetVW.mk' {a b : Value} {w w' : World} (h : a = b) (hb : Below w.heap.size w w') : RetVW b w (.returned a) w' := ⟨by rw [h], hb⟩
theorem below_drewN {B : Nat} (w : World) (n : Nat) : Below B w (w.drewN n) := by
  cases n with
  | zero => exact ⟨rfl, rfl, rfl, Nat.le_refl _, fun _ _ => rfl⟩
  | succ n => exact ⟨rfl, rfl, rfl, Nat.le_refl _, fun _ _ => rfl⟩
def RetIW (i : Int) (w : World) (e : Ending) (w' : World) : Prop := e = .returned (.int .i64 i) ∧ Below w.heap.size w w'
theorem RetIW.mk' {a b : Int} {w w' : World} (h : a = b) (hb : Below w.heap.size w w') : RetIW b w (.returned (.int .i64 a)) w' := ⟨by rw [h], hb⟩
def nCells (n : RN) : List Value := [.int .i64 n.kind, .int .i64 n.unit, .int .i64 n.depth, .string ⟨⟨n.text⟩⟩, .bool n.before, .bool n.after]
def nRow (l : List RN) : List Value := l.flatMap nCells
theorem nRow_get {l : List RN} {i : Nat} {n : RN} (h : l[i]? = some n) (j : Nat) (hj : j < 6) : (nRow l)[i * 6 + j]? = (nCells n)[j]? := by
  induction l generalizing i with
  | nil => simp at h
  | cons a t ih =>
    have hl : (nCells a).length = 6 := rfl
    show (nCells a ++ nRow t)[i * 6 + j]? = _
    cases i with
    | zero =>
      simp at h
      subst h
      rw [List.getElem?_append_left (by omega)]; simp
    | succ i =>
      rw [List.getElem?_append_right (by omega), hl]
      have : (i + 1) * 6 + j - 6 = i * 6 + j := by omega
      rw [this]
      exact ih (by simpa using h)
structure NodesAt (v : Value) (l : List RN) (w : World) : Prop where
  form : l ≠ [] → ∃ q c, v = .slice (some ⟨q, 0, none⟩) l.length c ∧ q < w.heap.size ∧ ∀ i x, (nRow l)[i]? = some x → w.cell? ⟨q, i, none⟩ = some x
  empty : l = [] → v = .slice none 0 0 ∨ ∃ a c, v = .slice (some a) 0 c
theorem NodesAt.below {v : Value} {l : List RN} {w w' : World} (h : NodesAt v l w) (hb : Below w.heap.size w w') : NodesAt v l w' := by
  refine ⟨fun hl => ?_, h.empty⟩
  obtain ⟨q, c, e, hq, hc⟩ := h.form hl
  refine ⟨q, c, e, Nat.lt_of_lt_of_le hq hb.size, fun i x hx => ?_⟩
  rw [← hc i x hx]
  unfold World.cell?
  rw [hb.block q hq]
structure NodeC (w : World) (q o : Nat) (n : RN) : Prop where
  c0 : w.cell? ⟨q, o, none⟩ = some (.int .i64 n.kind)
  c1 : w.cell? ⟨q, o + 1, none⟩ = some (.int .i64 n.unit)
  c2 : w.cell? ⟨q, o + 2, none⟩ = some (.int .i64 n.depth)
  c3 : w.cell? ⟨q, o + 3, none⟩ = some (.string ⟨⟨n.text⟩⟩)
  c4 : w.cell? ⟨q, o + 4, none⟩ = some (.bool n.before)
  c5 : w.cell? ⟨q, o + 5, none⟩ = some (.bool n.after)
theorem NodesAt.slice {v : Value} {l : List RN} {w : World} (h : NodesAt v l w) : ∃ A c, v = .slice A l.length c := by
  cases l with
  | nil =>
    rcases h.empty rfl with e | ⟨a, c, e⟩
    · exact ⟨_, _, e⟩
    · exact ⟨_, _, e⟩
  | cons n r => obtain ⟨q, c, e, _⟩ := h.form (by simp); exact ⟨_, c, e⟩
theorem NodesAt.node {A : Option Addr} {k c : Nat} {l : List RN} {w : World} (h : NodesAt (.slice A k c) l w) {i : Nat} {n : RN} (hn : l[i]? = some n) : ∃ q, A = some ⟨q, 0, none⟩ ∧ q < w.heap.size ∧ NodeC w q (i * 6) n := by
  obtain ⟨q, c', e, hq, hc⟩ := h.form (by intro e; subst e; simp at hn)
  injection e with e _ _
  refine ⟨q, e, hq, ?_, ?_, ?_, ?_, ?_, ?_⟩
  · exact hc _ _ (by have := nRow_get hn 0 (by decide); simpa [nCells] using this)
  · exact hc _ _ (by have := nRow_get hn 1 (by decide); simpa [nCells] using this)
  · exact hc _ _ (by have := nRow_get hn 2 (by decide); simpa [nCells] using this)
  · exact hc _ _ (by have := nRow_get hn 3 (by decide); simpa [nCells] using this)
  · exact hc _ _ (by have := nRow_get hn 4 (by decide); simpa [nCells] using this)
  · exact hc _ _ (by have := nRow_get hn 5 (by decide); simpa [nCells] using this)
theorem NodesAt.none_len {A : Option Addr} {k c : Nat} {l : List RN} {w : World} (h : NodesAt (.slice A k c) l w) (hA : A = Option.none) : k = 0 ∧ c = 0 := by
  subst hA
  cases l with
  | nil =>
    rcases h.empty rfl with e | ⟨a, c', e⟩
    · injection e with _ e1 e2; exact ⟨e1, e2⟩
    · injection e with e _ _; cases e
  | cons n r =>
    obtain ⟨q, c', e, _⟩ := h.form (by simp)
    injection e with e _ _; cases e
theorem NodesAt.cellsOf {a : Addr} {k c : Nat} {l : List RN} {w : World} (h : NodesAt (.slice (some a) k c) l w) : ∀ j u, (nRow l)[j]? = some u → w.cell? (a.add j) = some u := by
  intro j u hj
  cases l with
  | nil => simp [nRow] at hj
  | cons n r =>
    obtain ⟨q, c', e, _, hc⟩ := h.form (by simp)
    injection e with e _ _
    injection e with e
    subst e
    have : (⟨q, 0, none⟩ : Addr).add j = ⟨q, j, none⟩ := by
      unfold Addr.add; split
      · rename_i h; subst h; rfl
      · simp
    rw [this]; exact hc j u hj
theorem nRow_len (l : List RN) : (nRow l).length = l.length * 6 := by
  induction l with
  | nil => rfl
  | cons n r ih => show (nCells n ++ nRow r).length = _; rw [List.length_append, ih]; simp [nCells]; omega
theorem nRow_set : ∀ (l : List RN) (i : Nat) (n : RN) (x : Bool), l[i]? = some n → (nRow l).set (i * 6 + 5) (.bool x) = nRow (l.set i { n with after := x })
  | [], i, n, x, h => by simp at h
  | a :: r, 0, n, x, h => by
    simp only [List.getElem?_cons_zero, Option.some.injEq] at h
    subst h
    rfl
  | a :: r, i + 1, n, x, h => by
    have ih := nRow_set r i n x (by simpa using h)
    show (nCells a ++ nRow r).set ((i + 1) * 6 + 5) (.bool x) = nCells a ++ nRow (r.set i { n with after := x })
    have hl : (nCells a).length = 6 := rfl
    rw [List.set_append_right _ _ (by omega), hl, ← ih]
    congr 2
    omega
theorem nRow_one (l : List RN) : ∀ u ∈ nRow l, u.oneCell' = true := by
  intro u hu
  obtain ⟨n, _, hn⟩ := List.mem_flatMap.1 hu
  simp only [nCells, List.mem_cons, List.not_mem_nil, or_false] at hn
  rcases hn with rfl | rfl | rfl | rfl | rfl | rfl <;> rfl
theorem NodeC.below {w w' : World} {q o : Nat} {n : RN} (h : NodeC w q o n) (hb : w'.heap[q]? = w.heap[q]?) : NodeC w' q o n := by
  have hc : ∀ o, w'.cell? ⟨q, o, none⟩ = w.cell? ⟨q, o, none⟩ := fun o => World.cell?_of_block (w := w) (a := ⟨q, o, none⟩) hb
  exact ⟨(hc _).trans h.c0, (hc _).trans h.c1, (hc _).trans h.c2, (hc _).trans h.c3, (hc _).trans h.c4, (hc _).trans h.c5⟩
abbrev rV (n : RN) : Value := .agg #[.int .i64 n.kind, .int .i64 n.unit, .int .i64 n.depth, .string ⟨⟨n.text⟩⟩, .bool n.before, .bool n.after]
theorem ba_size (l : List UInt8) : (⟨⟨l⟩⟩ : ByteArray).size = l.length := rfl
theorem box_below (o : Obj) (w : World) : Below w.heap.size w (w.alloc o) := (Below.refl _ _).alloc (Nat.le_refl _) _
theorem below_box {w0 wr w1 : World} {o : Obj} (h : Below w0.heap.size w0 wr) (h1 : Below (wr.alloc o).heap.size (wr.alloc o) w1) : Below w0.heap.size w0 w1 :=
  (h.alloc h.size o).trans (h1.mono (by have := h.size; show _ ≤ (wr.heap.push o).size; rw [Array.size_push]; omega))
end Go.Proofs.YtkfdcbdlcipmfaaGreatFmt
namespace Go.Proofs.YtkfdcbdlcipmfaaGreatFmt
open Go.RowKit
theorem parts_of {i0 : Option TypeInfo} {z : Option Value} {a b : Nat} (h : i0.map (fun i => (i.zero, i.size, i.bytes)) = some (z, a, b)) : ∃ i, i0 = some i ∧ i.zero = z ∧ i.size = a ∧ i.bytes = b := by
  obtain ⟨i, hi, hz⟩ := Option.map_eq_some_iff.1 h
  simp only [Prod.mk.injEq] at hz
  exact ⟨i, hi, hz.1, hz.2.1, hz.2.2⟩
def IsTy (T : TypeId) (o : Option Obj) : Prop := ∃ cs fr, o = some (.cells cs T fr)
section
variable {w w' : World}
theorem own_keep {base n : Nat} {e : TypeId} {size : Nat} {x : Value} {xs : List Value} (h : w.ownsRow base e size x n xs) (hk : ∀ q, x.ownBlock = some q → w'.heap[q]? = w.heap[q]?) : w'.ownsRow base e size x n xs := by
  obtain ⟨h1, h2⟩ := h
  refine ⟨h1, ?_⟩
  rcases h2 with h2 | ⟨q, cap, cur, hv, hq, hh, r⟩
  · exact Or.inl h2
  · exact Or.inr ⟨q, cap, cur, hv, hq, (hk q (by rw [hv]; rfl)).trans hh, r⟩
theorem own_lt {base n : Nat} {e : TypeId} {size : Nat} {x : Value} {xs : List Value} (h : w.ownsRow base e size x n xs) {q : Nat} (hq : x.ownBlock = some q) : q < w.heap.size ∧ base ≤ q ∧ IsTy e w.heap[q]? := by
  rcases h.2 with ⟨rfl, _⟩ | ⟨q', cap, cur, rfl, hb, hh, _⟩
  · simp [Value.ownBlock] at hq
  · have : q' = q := by simpa [Value.ownBlock] using hq
    subst this
    exact ⟨(Array.getElem?_eq_some_iff.1 hh).1, hb, cur, (0, 0), hh⟩
end
theorem addr_add0 (q j : Nat) : (⟨q, 0, none⟩ : Addr).add j = ⟨q, j, none⟩ := by
  unfold Addr.add; split
  · rename_i h; subst h; rfl
  · simp
section
variable {ops : Array Oper} {rest : List Oper} {o : Oper} {a : Act} {Q : Exit → Act → World → Prop}
theorem wpList_app1 (hgd : o.guard = none) (s x : Operand) (ST ET : TypeId) (ho : o.op = .call { callee := .builtin .append, args := #[s, x], argTypes := #[ST, ST] }) (hST : Tryz.prog.underlying ST = some (.slice ET))
    {z : Value} {size bytes : Nat} (info : (Tryz.prog.info? ET).map (fun i => (i.zero, i.size, i.bytes)) = some (some z, size, bytes)) (hzs : z.cells.size = size) (hsz : 0 < size)
    {B n : Nat} {v : Value} {xs : List Value} {w : World} (H : w.ownsRow B ET size v n xs) (hB : B ≤ w.heap.size) (cs : Array Value) (hcs : cs.size = size) (h1 : ∀ u ∈ cs.toList, u.oneCell' = true)
    (hn : (n + 1) * bytes ≤ 140737488355328) (hn2 : n + 1 ≤ maxLen) (hs : a.eval s = v) (bk : Nat) (hbk : bk = w.heap.size) (hx : a.eval x = .slice (some ⟨bk, 0, none⟩) 1 1)
    (h : ∀ v' w', w'.ownsRow B ET size v' (n + 1) (xs ++ cs.toList) → (w.alloc (.cells cs ET)).grownBy w' v.ownBlock → Below B w w' → (v'.ownBlock = v.ownBlock ∨ v'.ownBlock = some (w.heap.size + 1)) → wpList Tryz.prog ops Q rest (a.put o.dst v') w') :
    wpList Tryz.prog ops Q (o :: rest) a (w.alloc (.cells cs ET)) := by
  subst hbk
  obtain ⟨i, hi, hz0, hz1, hz2⟩ := parts_of info
  have H1 : (w.alloc (.cells cs ET)).ownsRow B ET size v n xs := H.alloc _
  have hsize : (w.alloc (.cells cs ET)).heap.size = w.heap.size + 1 := by simp
  obtain ⟨v', w', hr, h2, h3, _, h5⟩ := run_append_own_at (P := Tryz.prog) (w.alloc (.cells cs ET)) B ST o.type ET i z size bytes hST hi hz0 hz1 hz2 hzs hsz v n xs H1 ⟨w.heap.size, 0, none⟩ 1 1 cs.toList (by simp [hcs]) (by
    intro j u hj
    rw [addr_add0, World.cell?_alloc_mark w _ _ _ j]
    simpa using hj) h1 hn2 hn (by omega)
  have hla : Below B w (w.alloc (.cells cs ET)) := (Below.refl _ _).alloc hB _
  refine wpList_plain hgd fun K hK => ?_
  unfold Oper.wp execOp
  simp only [ho, resolve, invoke, builtin, Sem.run_bind, Sem.run_pure, Result.andThen_ok, List.map_toArray, List.map_cons, List.map_nil, hs, hx, hr]
  refine hK _ _ (h v' w' h2 h3 (hla.grown h3 (by omega) fun k hk => (own_lt H hk).2.1) (by rw [hsize] at h5; exact h5))
theorem wpList_appN (hgd : o.guard = none) (s x : Operand) (ST ET : TypeId) (ho : o.op = .call { callee := .builtin .append, args := #[s, x], argTypes := #[ST, ST] }) (hST : Tryz.prog.underlying ST = some (.slice ET))
    {z : Value} {size bytes : Nat} (info : (Tryz.prog.info? ET).map (fun i => (i.zero, i.size, i.bytes)) = some (some z, size, bytes)) (hzs : z.cells.size = size) (hsz : 0 < size)
    {B n : Nat} {v : Value} {xs : List Value} {w : World} (H : w.ownsRow B ET size v n xs) (hB : B ≤ w.heap.size) (A : Option Addr) (m c : Nat) (news : List Value) (hl : news.length = m * size) (hA : A = Option.none → m = 0 ∧ c = 0)
    (hnews : ∀ ad, A = some ad → ∀ j u, news[j]? = some u → w.cell? (ad.add j) = some u) (h1 : ∀ u ∈ news, u.oneCell' = true)
    (hn : (n + m) * bytes ≤ 140737488355328) (hn2 : n + m ≤ maxLen) (hs : a.eval s = v) (hx : a.eval x = .slice A m c)
    (h : ∀ v' w', w'.ownsRow B ET size v' (n + m) (xs ++ news) → w.grownBy w' v.ownBlock → Below B w w' → wpList Tryz.prog ops Q rest (a.put o.dst v') w') :
    wpList Tryz.prog ops Q (o :: rest) a w := by
  obtain ⟨i, hi, hz0, hz1, hz2⟩ := parts_of info
  cases A with
  | none =>
    obtain ⟨rfl, rfl⟩ := hA rfl
    have hnil : news = [] := List.eq_nil_of_length_eq_zero (by omega)
    subst hnil
    have hr := run_append_owned_none (P := Tryz.prog) (w := w) B ST o.type ET i size hST hi v n xs H
    refine wpList_plain hgd fun K hK => ?_
    unfold Oper.wp execOp
    simp only [ho, resolve, invoke, builtin, Sem.run_bind, Sem.run_pure, Result.andThen_ok, List.map_toArray, List.map_cons, List.map_nil, hs, hx, hr]
    exact hK _ _ (h v w (by simpa using H) (World.grownBy.refl _ _) (Below.refl _ _))
  | some ad =>
    obtain ⟨v', w', hr, h2, h3, _, h5⟩ := run_append_own_at (P := Tryz.prog) w B ST o.type ET i z size bytes hST hi hz0 hz1 hz2 hzs hsz v n xs H ad m c news hl (hnews ad rfl) h1 hn2 hn hB
    refine wpList_plain hgd fun K hK => ?_
    unfold Oper.wp execOp
    simp only [ho, resolve, invoke, builtin, Sem.run_bind, Sem.run_pure, Result.andThen_ok, List.map_toArray, List.map_cons, List.map_nil, hs, hx, hr]
    exact hK _ _ (h v' w' h2 h3 ((Below.refl _ _).grown h3 hB fun k hk => (own_lt H hk).2.1))
end
end Go.Proofs.YtkfdcbdlcipmfaaGreatFmt
namespace Go.Proofs.YtkfdcbdlcipmfaaGreatFmt
open Go.RowKit Css
theorem info50 : (Tryz.prog.info? 50).map (fun i => (i.zero, i.size, i.bytes)) = some (some (.agg #[.int .i64 0, .int .i64 0, .int .i64 0, .string ⟨#[]⟩, .bool false, .bool false]), 6, 48) := by kernel_rfl
theorem info45 : (Tryz.prog.info? 45).map (fun i => (i.zero, i.size, i.bytes)) = some (some (.agg #[.int .i64 0, .int .i64 0, .int .i64 0, .string ⟨#[]⟩, .bool false, .bool false]), 6, 48) := by kernel_rfl
def RetN (T : TypeId) (l : List RN) (w : World) (e : Ending) (w' : World) : Prop := ∃ v, e = .returned v ∧ w'.ownsRow w.heap.size T 6 v l.length (nRow l) ∧ Below w.heap.size w w'
theorem nRow_snoc (l : List RN) (n : RN) : nRow (l ++ [n]) = nRow l ++ nCells n := by unfold nRow; simp
theorem node_one (n : RN) : ∀ u ∈ (#[Value.int .i64 n.kind, .int .i64 n.unit, .int .i64 n.depth, .string ⟨⟨n.text⟩⟩, .bool n.before, .bool n.after] : Array Value).toList, u.oneCell' = true := by simp [Value.oneCell']
theorem own_row_nil (w : World) (B : Nat) (T : TypeId) (size : Nat) : w.ownsRow B T size (.slice none 0 0) 0 [] := ⟨by simp, .inl ⟨rfl, rfl⟩⟩
theorem own_nodes {w : World} {B : Nat} {T : TypeId} {v : Value} {l : List RN} (h : w.ownsRow B T 6 v l.length (nRow l)) : NodesAt v l w := by
  refine ⟨fun hl => ?_, fun hl => ?_⟩
  · obtain ⟨q, cap, hv, hq, hlt⟩ := h.form (List.length_pos_iff.2 hl)
    refine ⟨q, cap, hv, ?_, fun i x hx => ?_⟩
    · exact (own_lt h (by rw [hv]; rfl)).1
    · have := h.cells (g := q) (by rw [hv]; rfl) i x hx
      rw [addr_add0] at this; exact this
  · subst hl
    rcases h.2 with ⟨rfl, _⟩ | ⟨q, cap, cur, rfl, _⟩
    · exact .inl rfl
    · exact .inr ⟨_, _, rfl⟩
set_option maxHeartbeats 1600000 in
set_option maxRecDepth 100000 in
theorem back_any (v : Value) (l : List RN) (hl : l.length ≤ 2147483647) (w : World) (h : NodesAt v l w) : Calls Tryz.prog 27 #[v] w (RetN 45 l w) := by
  obtain ⟨A, c, rfl⟩ := h.slice
  have HN := Lib.hid h
  rename World => w0
  clear h
  go_enter Tryz.func27, Tryz.ntmps27
  go_wp2_with fail
  go_loopg [3, 8] l.length (fun k p3 p8 wr => ∃ i : Nat, p8 = .int .i64 i ∧ i + k = l.length ∧ Hid (Below w0.heap.size w0 wr) ∧ Hid (wr.ownsRow w0.heap.size 45 6 p3 i (nRow (l.take i))))
  case atStart => exact ⟨0, rfl, by omega, Below.refl _ _, own_row_nil _ _ _ _⟩
  case round =>
    obtain ⟨i, rfl, hik, HB, HO⟩ := hrel
    have hi0 : (0 : Int) ≤ (i : Int) := by omega
    have hi1 : (i : Int) ≤ 2147483647 := by omega
    by_cases hlt : i < l.length
    · have hlti : (i : Int) < (l.length : Int) := by omega
      obtain ⟨n, hn⟩ : ∃ n, l[i]? = some n := ⟨l[i], List.getElem?_eq_getElem hlt⟩
      have HT : Hid (nRow (l.take (i + 1)) = nRow (l.take i) ++ nCells n) := by
        show _ = _; rw [← nRow_snoc, List.take_add_one, hn]; rfl
      obtain ⟨q, rfl, hq, hc⟩ := (HN.out.below HB.out).node hn
      have hc0 := hc.c0
      have hc1 := hc.c1
      have hc2 := hc.c2
      have hc3 := hc.c3
      have hc4 := hc.c4
      have hc5 := hc.c5
      have HB1 := Lib.hid (HB.out.alloc HB.out.size (.cells #[.int .i64 n.kind, .int .i64 n.unit, .int .i64 n.depth, .string ⟨⟨n.text⟩⟩, .bool n.before, .bool n.after] 50))
      have HO1 := Lib.hid (HO.out.alloc (.cells #[.int .i64 n.kind, .int .i64 n.unit, .int .i64 n.depth, .string ⟨⟨n.text⟩⟩, .bool n.before, .bool n.after] 50))
      clear hc hn HB HO
      go_wp2_with (at_builtin; go_must (refine wpList_app1 rfl _ _ 22 45 rfl Tryz.underlying22 info45 rfl (by decide) HO1.out HB1.out.size #[.int .i64 n.kind, .int .i64 n.unit, .int .i64 n.depth, .string ⟨⟨n.text⟩⟩, .bool n.before, .bool n.after] rfl (node_one n) (by omega) (by unfold maxLen; omega) rfl (wr.heap.size + 1) (by simp) rfl ?_; intro v' w9 hw9 hg9 hb9 _; have HW9 := Lib.hid hw9; have HB9 := Lib.hid hb9; clear hw9 hg9 hb9))
      go_roundg (l.length - (i + 1))
      case measure => omega
      case rel => exact ⟨i + 1, by go_num, by omega, HB1.out.trans HB9.out, by show World.ownsRow _ _ _ _ _ _ _; rw [HT.out]; exact HW9.out⟩
    · have hle : (l.length : Int) ≤ (i : Int) := by omega
      have hil : i = l.length := by omega
      go_wp2_with fail
      go_ret
      subst hil
      have := HO.out
      rw [List.take_length] at this
      exact ⟨_, rfl, this, HB.out⟩
end Go.Proofs.YtkfdcbdlcipmfaaGreatFmt
namespace Go.Proofs.YtkfdcbdlcipmfaaGreatFmt
open Go.Maps Css
structure BM (P : Program) (K E : TypeId) (b n : Nat) (f : Int → Bool) (w : World) : Prop where
  own : ∃ D : DataW Unit, w.ownsMap P K (plainElem P E) b n D ∧ IsMap D ∧ ∀ i, D.atKey (.int .i64 i) (.lit (.bool false)) = .lit (.bool (f i))
theorem BM.same {P : Program} {K E : TypeId} {b n : Nat} {f : Int → Bool} {w w' : World} (h : BM P K E b n f w) (hg : w'.heap[b]? = w.heap[b]?) : BM P K E b n f w' := by
  obtain ⟨D, ⟨es, clock, hb, F, hs, hD⟩, h2, h3⟩ := h.own
  exact ⟨D, ⟨es, clock, hg.trans hb, F, hs, hD⟩, h2, h3⟩
theorem BM.lt {P : Program} {K E : TypeId} {b n : Nat} {f : Int → Bool} {w : World} (h : BM P K E b n f w) : b < w.heap.size := by
  obtain ⟨D, h1, _, _⟩ := h.own
  exact h1.lt
theorem BM.ext {P : Program} {K E : TypeId} {b n n' : Nat} {f g : Int → Bool} {w : World} (h : BM P K E b n f w) (e : f = g) (hn : n ≤ n') : BM P K E b n' g w := by
  obtain ⟨D, h1, h2, h3⟩ := h.own
  exact ⟨D, h1.mono hn, h2, by rw [← e]; exact h3⟩
section
variable {P : Program} (w : World) {ops : Array Oper} {rest : List Oper} {o : Oper} {a : Act} {Q : Exit → Act → World → Prop}
end
end Go.Proofs.YtkfdcbdlcipmfaaGreatFmt
namespace Go.Proofs.YtkfdcbdlcipmfaaGreatFmt
open Css
def wsV (b a : Bool) : Int := (if b then 1 else 0) + (if a then 2 else 0)
def ctCells (ptr : Value) (x : List Int) (u' k : Int) (b a : Bool) : List Value := [ptr, .string ⟨⟨enc x⟩⟩, .int .i32 0, .int .u32 0, .int .u16 u', .int .u8 k, .int .u8 (wsV b a)]
def CellsAt (w : World) (q o : Nat) (l : List Value) : Prop := ∀ j x, l[j]? = some x → w.cell? ⟨q, o + j, none⟩ = some x
def TksIn (w : World) (S : Nat → Prop) : Nat → Nat → List T → Prop
  | _, _, [] => True
  | q, i, .mk k u x b a kids :: ts =>
    (∃ (ptr : Value) (u' : Int), (k = 26 → u' = (u : Int)) ∧ CellsAt w q (i * 7) (ctCells ptr x u' k b a) ∧
      (opens k → ∃ (p : Nat) (A : Option Addr) (c : Nat), ptr = .pointer (some ⟨p, 0, none⟩) ∧ S p ∧ w.cell? ⟨p, 0, none⟩ = some (.slice A kids.length c) ∧ (kids ≠ [] → ∃ q' : Nat, A = some ⟨q', 0, none⟩ ∧ S q' ∧ TksIn w S q' 0 kids)) ∧ (¬ opens k → ptr = .pointer none)) ∧ TksIn w S q (i + 1) ts
def TksAt (w : World) (S : Nat → Prop) (v : Value) (ts : List T) : Prop := ∃ (A : Option Addr) (c : Nat), v = .slice A ts.length c ∧ (ts ≠ [] → ∃ q : Nat, A = some ⟨q, 0, none⟩ ∧ S q ∧ TksIn w S q 0 ts)
structure TkAt (w : World) (S : Nat → Prop) (q i : Nat) (t : T) (ptr : Value) (u' : Int) : Prop where
  unit : t.kind = 26 → u' = (t.unit : Int)
  cells : CellsAt w q (i * 7) (ctCells ptr t.text u' t.kind t.before t.after)
  kids : opens t.kind → ∃ (p : Nat) (v : Value), ptr = .pointer (some ⟨p, 0, none⟩) ∧ S p ∧ w.cell? ⟨p, 0, none⟩ = some v ∧ TksAt w S v t.kids
  leaf : ¬ opens t.kind → ptr = .pointer none
theorem tksIn_nil {w : World} {S : Nat → Prop} {q i : Nat} : TksIn w S q i [] := by rw [TksIn]; trivial
theorem tksIn_cons {w : World} {S : Nat → Prop} {q i : Nat} {t : T} {ts : List T} : TksIn w S q i (t :: ts) ↔ (∃ ptr u', TkAt w S q i t ptr u') ∧ TksIn w S q (i + 1) ts := by
  obtain ⟨k, u, x, b, a, kids⟩ := t
  rw [TksIn]
  refine and_congr_left fun _ => ?_
  constructor
  · rintro ⟨ptr, u', a1, a2, a3, a4⟩
    refine ⟨ptr, u', a1, a2, fun ho => ?_, a4⟩
    obtain ⟨p, A, c, e1, e2, e3, e4⟩ := a3 ho
    exact ⟨p, _, e1, e2, e3, A, c, rfl, e4⟩
  · rintro ⟨ptr, u', h⟩
    refine ⟨ptr, u', h.unit, h.cells, fun ho => ?_, h.leaf⟩
    obtain ⟨p, v, e1, e2, e3, A, c, rfl, e4⟩ := h.kids ho
    exact ⟨p, A, c, e1, e2, e3, e4⟩
theorem CellsAt.same {w w' : World} {q o : Nat} {l : List Value} (h : CellsAt w q o l) (hq : w'.heap[q]? = w.heap[q]?) : CellsAt w' q o l := fun j x hx => by
  rw [World.cell?_of_block (w := w) (a := ⟨q, o + j, none⟩) hq]; exact h j x hx
theorem TksIn.keep {w w' : World} {S S' : Nat → Prop} (hS : ∀ b, S b → S' b ∧ w'.heap[b]? = w.heap[b]?) : ∀ (q i : Nat) (ts : List T), w'.heap[q]? = w.heap[q]? → TksIn w S q i ts → TksIn w' S' q i ts
  | _, _, [], _, _ => tksIn_nil
  | q, i, .mk k u x b a kids :: ts, hq, h => by
    rw [TksIn] at h ⊢
    obtain ⟨⟨ptr, u', h1, h2, h3, h4⟩, h5⟩ := h
    refine ⟨⟨ptr, u', h1, h2.same hq, fun ho => ?_, h4⟩, TksIn.keep hS q (i + 1) ts hq h5⟩
    obtain ⟨p, A, c, e1, e2, e3, e4⟩ := h3 ho
    refine ⟨p, A, c, e1, (hS p e2).1, ?_, fun hk => ?_⟩
    · rw [World.cell?_of_block (w := w) (a := ⟨p, 0, none⟩) (hS p e2).2]; exact e3
    · obtain ⟨q', f1, f2, f3⟩ := e4 hk
      exact ⟨q', f1, (hS q' f2).1, TksIn.keep hS q' 0 kids (hS q' f2).2 f3⟩
theorem TksAt.keep {w w' : World} {S S' : Nat → Prop} (hS : ∀ b, S b → S' b ∧ w'.heap[b]? = w.heap[b]?) {v : Value} {ts : List T} (h : TksAt w S v ts) : TksAt w' S' v ts := by
  obtain ⟨A, c, e, h⟩ := h
  refine ⟨A, c, e, fun hk => ?_⟩
  obtain ⟨q, f1, f2, f3⟩ := h hk
  exact ⟨q, f1, (hS q f2).1, TksIn.keep hS q 0 ts (hS q f2).2 f3⟩
theorem TksIn.drop {w : World} {S : Nat → Prop} {q : Nat} : ∀ (n i : Nat) (ts : List T), TksIn w S q i ts → TksIn w S q (i + n) (ts.drop n) := by
  intro n
  induction n with
  | zero => intro i ts h; exact h
  | succ n ih =>
    intro i ts h
    cases ts with
    | nil => exact tksIn_nil
    | cons t ts =>
      have := ih (i + 1) ts (tksIn_cons.1 h).2
      rw [List.drop_succ_cons]
      have e : i + (n + 1) = i + 1 + n := by omega
      rw [e]; exact this
theorem TksIn.get {w : World} {S : Nat → Prop} {q : Nat} {ts : List T} (h : TksIn w S q 0 ts) {i : Nat} {t : T} (hi : ts[i]? = some t) : ∃ ptr u', TkAt w S q i t ptr u' := by
  have h1 := TksIn.drop i 0 ts h
  have h2 : ts.drop i = t :: ts.drop (i + 1) := by
    obtain ⟨hlt, e⟩ := List.getElem?_eq_some_iff.1 hi
    rw [← e]; exact List.drop_eq_getElem_cons hlt
  rw [h2, Nat.zero_add] at h1
  exact (tksIn_cons.1 h1).1
inductive CtRow (w : World) (S : Nat → Prop) : List T → List Value → Prop
  | nil : CtRow w S [] []
  | snoc (ts : List T) (xs : List Value) (t : T) (ptr : Value) (u' : Int) : CtRow w S ts xs → (t.kind = 26 → u' = (t.unit : Int)) →
      (opens t.kind → ∃ (p : Nat) (v : Value), ptr = .pointer (some ⟨p, 0, none⟩) ∧ S p ∧ w.cell? ⟨p, 0, none⟩ = some v ∧ TksAt w S v t.kids) → (¬ opens t.kind → ptr = .pointer none) →
      CtRow w S (ts ++ [t]) (xs ++ ctCells ptr t.text u' t.kind t.before t.after)
theorem CtRow.keep {w w' : World} {S S' : Nat → Prop} (hS : ∀ b, S b → S' b ∧ w'.heap[b]? = w.heap[b]?) {ts : List T} {xs : List Value} (h : CtRow w S ts xs) : CtRow w' S' ts xs := by
  induction h with
  | nil => exact .nil
  | snoc ts xs t ptr u' _ h1 h2 h3 ih =>
    refine .snoc ts xs t ptr u' ih h1 (fun ho => ?_) h3
    obtain ⟨p, v, e1, e2, e3, e4⟩ := h2 ho
    exact ⟨p, v, e1, (hS p e2).1, by rw [World.cell?_of_block (w := w) (a := ⟨p, 0, none⟩) (hS p e2).2]; exact e3, e4.keep hS⟩
theorem CtRow.len {w : World} {S : Nat → Prop} {ts : List T} {xs : List Value} (h : CtRow w S ts xs) : xs.length = ts.length * 7 := by
  induction h with
  | nil => rfl
  | snoc ts xs t ptr u' _ _ _ _ ih => rw [List.length_append, List.length_append, ih]; simp [ctCells]; omega
theorem TksIn.snoc {w : World} {S : Nat → Prop} {q : Nat} {t : T} {ptr : Value} {u' : Int} : ∀ (ts : List T) (i : Nat), TksIn w S q i ts → TkAt w S q (i + ts.length) t ptr u' → TksIn w S q i (ts ++ [t]) := by
  intro ts
  induction ts with
  | nil => intro i _ h; exact tksIn_cons.2 ⟨⟨ptr, u', h⟩, tksIn_nil⟩
  | cons v ts ih =>
    intro i h0 h
    have h1 := tksIn_cons.1 h0
    refine tksIn_cons.2 ⟨h1.1, ih (i + 1) h1.2 ?_⟩
    rw [List.length_cons] at h
    have e : i + 1 + ts.length = i + (ts.length + 1) := by omega
    rw [e]; exact h
theorem CtRow.tksIn {w : World} {S : Nat → Prop} {ts : List T} {xs : List Value} (h : CtRow w S ts xs) {q : Nat} (hc : ∀ i x, xs[i]? = some x → w.cell? ⟨q, i, none⟩ = some x) : TksIn w S q 0 ts := by
  induction h with
  | nil => exact tksIn_nil
  | snoc ts xs t ptr u' hr h1 h2 h3 ih =>
    have hl := hr.len
    refine TksIn.snoc ts 0 (ih fun i x hx => hc i x ?_) ⟨h1, fun j x hx => ?_, h2, h3⟩
    · rw [List.getElem?_append_left (List.getElem?_eq_some_iff.1 hx).1]; exact hx
    · refine hc _ x ?_
      rw [List.getElem?_append_right (by omega)]
      have e : (0 + ts.length) * 7 + j - xs.length = j := by omega
      rw [e]; exact hx
end Go.Proofs.YtkfdcbdlcipmfaaGreatFmt
