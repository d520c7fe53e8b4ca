/- Walks: the law on an important declaration: where the mark is laid behind the items. Printed by genL16.py. -/
import Derived.Test.YtkfdcbdlcipmfaaGreatFmtG36
import Derived.Test.YtkfdcbdlcipmfaaGreatFmtG13
import Derived.Deep.RegionHeld3
import Derived.Laws.Tables
set_option linter.unusedVariables false
set_option linter.unusedSimpArgs false
namespace Go.Proofs.YtkfdcbdlcipmfaaGreatFmt
open Go.RowKit Css
def ops88 : Array Oper := #[{ dst := some 44, op := Op.move (Operand.tmp 10), type := 28, pos := "laws.go:192", after := #[], guard := none }, { dst := some 45, op := Op.move (Operand.tmp 10), type := 28, pos := "laws.go:192", after := #[], guard := none }, { dst := some 46, op := Op.call { callee := Callee.builtin Builtin.len, args := #[Operand.tmp 45], argTypes := #[28] }, type := 3, pos := "laws.go:192", after := #[{ on := 1, ground := Ground.data }], guard := none }, { dst := some 47, op := Op.binOp BinOp.sub 3 (Operand.tmp 46) (Operand.const (Value.int IntKind.i64 1)) 3, type := 3, pos := "laws.go:192", after := #[{ on := 2, ground := Ground.data }], guard := none }, { dst := some 48, op := Op.slice 28 (Operand.tmp 44) none (some (Operand.tmp 47)) none, type := 28, pos := "laws.go:192", after := #[{ on := 0, ground := Ground.data }, { on := 3, ground := Ground.data }], guard := none }, { dst := some 49, op := Op.build 34 #[(0, Operand.const (Value.int IntKind.i64 19)), (2, Operand.const (Value.string { data := #[33] })), (3, Operand.const (Value.int IntKind.i64 (-1)))], type := 34, pos := "laws.go:192", after := #[], guard := none }, { dst := some 50, op := Op.build 34 #[(0, Operand.const (Value.int IntKind.i64 29)), (2, Operand.const (Value.string { data := #[105, 109, 112, 111, 114, 116, 97, 110, 116] })), (3, Operand.const (Value.int IntKind.i64 (-1)))], type := 34, pos := "laws.go:192", after := #[], guard := none }, { dst := some 51, op := Op.load 34 (Operand.tmp 11), type := 34, pos := "laws.go:192", after := #[], guard := none }, { dst := some 52, op := Op.buildSlice 28 3 #[(0, Operand.tmp 49), (1, Operand.tmp 50), (2, Operand.tmp 51)], type := 28, pos := "laws.go:192", after := #[{ on := 5, ground := Ground.data }, { on := 6, ground := Ground.data }, { on := 7, ground := Ground.data }], guard := none }, { dst := some 53, op := Op.call { callee := Callee.builtin Builtin.append, args := #[Operand.tmp 48, Operand.tmp 52], argTypes := #[28, 28] }, type := 28, pos := "laws.go:192", after := #[{ on := 4, ground := Ground.data }, { on := 8, ground := Ground.data }], guard := none }, { dst := some 10, op := Op.assign (Operand.tmp 53), type := 28, pos := "laws.go:192", after := #[{ on := 9, ground := Ground.data }, { on := 9, ground := Ground.chain }, { on := 0, ground := Ground.phase }, { on := 1, ground := Ground.phase }, { on := 2, ground := Ground.phase }, { on := 3, ground := Ground.phase }, { on := 4, ground := Ground.phase }, { on := 5, ground := Ground.phase }, { on := 6, ground := Ground.phase }, { on := 7, ground := Ground.phase }, { on := 8, ground := Ground.phase }, { on := 9, ground := Ground.phase }], guard := none }]
theorem build34_5 : Tryz.prog.built 34 [(0, .int .i64 19), (2, .string ⟨#[33]⟩), (3, .int .i64 (-1))] = some #[.int .i64 19, .int .i64 0, .string ⟨#[33]⟩, .int .i64 (-1)] := by kernel_rfl
theorem build34_6 : Tryz.prog.built 34 [(0, .int .i64 29), (2, .string ⟨#[105, 109, 112, 111, 114, 116, 97, 110, 116]⟩), (3, .int .i64 (-1))] = some #[.int .i64 29, .int .i64 0, .string ⟨#[105, 109, 112, 111, 114, 116, 97, 110, 116]⟩, .int .i64 (-1)] := by kernel_rfl
/-- A part of a row of the call's own is such a row. -/
theorem own_prefix {w : World} {B n m c : Nat} {e : TypeId} {size : Nat} {q : Nat} {xs ys : List Value} (h : w.ownsRow B e size (.slice (some ⟨q, 0, none⟩) n c) n (xs ++ ys)) (hm : m ≤ n) (hx : xs.length = m * size) : w.ownsRow B e size (.slice (some ⟨q, 0, none⟩) m c) m xs := by
  refine ⟨hx, .inr ?_⟩
  rcases h.2 with ⟨h1, _⟩ | ⟨g, cap, cur, hv, hg, hh, h3, h4, h5, h6⟩
  · injection h1 with h1; cases h1
  · injection hv with e1 e2 e3
    injection e1 with e1
    injection e1 with e1
    subst e1
    subst e3
    refine ⟨q, c, cur, rfl, hg, hh, Nat.le_trans hm h3, h4, h5, ?_⟩
    have := congrArg (List.take (m * size)) h6
    rw [List.take_take, Nat.min_eq_left (Nat.mul_le_mul_right _ hm), ← hx, List.take_left] at this
    rw [← hx]; exact this
/-- Elements of another slice behind a row of the call's own: the operation itself. -/
theorem wp_appN {o : Oper} {a : Act} {K : Act → World → Prop} {Q : Exit → Act → World → Prop} (s x : Operand) (ST ET : TypeId) (ho : o.op = .call { callee := .builtin .append, args := #[s, x], argTypes := #[ST, ST] }) (hST : Tryz.prog.underlying ST = some (.slice ET))
    {z : Value} {size bytes : Nat} (info : (Tryz.prog.info? ET).map (fun i => (i.zero, i.size, i.bytes)) = some (some z, size, bytes)) (hzs : z.cells.size = size) (hsz : 0 < size)
    {B n : Nat} {v : Value} {xs : List Value} {w : World} (H : w.ownsRow B ET size v n xs) (hB : B ≤ w.heap.size) (ad : Addr) (m c : Nat) (news : List Value) (hl : news.length = m * size)
    (hnews : ∀ j u, news[j]? = some u → w.cell? (ad.add j) = some u) (h1 : ∀ u ∈ news, u.oneCell' = true)
    (hn : (n + m) * bytes ≤ 140737488355328) (hn2 : n + m ≤ maxLen) (hs : a.eval s = v) (hx : a.eval x = .slice (some ad) m c)
    (h : ∀ v' w', w'.ownsRow B ET size v' (n + m) (xs ++ news) → w.grownBy w' v.ownBlock → Below B w w' → K (a.put o.dst v') w') :
    o.wp Tryz.prog a w K Q := by
  obtain ⟨i, hi, hz0, hz1, hz2⟩ := parts_of info
  obtain ⟨v', w', hr, h2, h3, _, h5⟩ := run_append_own_at (P := Tryz.prog) w B ST o.type ET i z size bytes hST hi hz0 hz1 hz2 hzs hsz v n xs H ad m c news hl hnews h1 hn2 hn hB
  unfold Oper.wp execOp
  simp only [ho, resolve, invoke, builtin, Sem.run_bind, Sem.run_pure, Result.andThen_ok, List.map_toArray, List.map_cons, List.map_nil, hs, hx, hr]
  exact h v' w' h2 h3 ((Below.refl _ _).grown h3 hB fun k hk => (own_lt H hk).2.1)
set_option maxHeartbeats 1600000 in
set_option maxRecDepth 100000 in
theorem imp_region {w : World} (B q n1 nf c bx : Nat) (xs : List Value) (hn1 : (n1 : Int) - 1 = (nf : Int)) (hn2 : n1 ≤ 2003) (hc : n1 ≤ c) (H : w.ownsRow B 34 4 (.slice (some ⟨q, 0, none⟩) nf c) nf xs) (hB : B ≤ w.heap.size) (hqx : q ≠ bx) (hbx : w.heap[bx]? = some (.cells #[.int .i64 35, .int .i64 0, .string ⟨⟨[59]⟩⟩, .int .i64 (-1)] 34 (0, 0)))
    {Q : Exit → Act → World → Prop} {id : Nat} (T : Array Value) (ds : List Deferred) (hsz : T.size = 64) (s10 : Sl T 10 (.slice (some ⟨q, 0, none⟩) n1 c)) (s11 : Sl T 11 (.pointer (some ⟨bx, 0, none⟩)))
    (h : ∀ v' w', w'.ownsRow B 34 4 v' (nf + 3) (xs ++ (#[.int .i64 19, .int .i64 0, .string ⟨#[33]⟩, .int .i64 (-1), .int .i64 29, .int .i64 0, .string ⟨#[105, 109, 112, 111, 114, 116, 97, 110, 116]⟩, .int .i64 (-1), .int .i64 35, .int .i64 0, .string ⟨⟨[59]⟩⟩, .int .i64 (-1)] : Array Value).toList) → Below B w w' → Q .normal ⟨(((((((((((T.setIfInBounds 44 (.slice (some ⟨q, 0, none⟩) n1 c)).setIfInBounds 45 (.slice (some ⟨q, 0, none⟩) n1 c)).setIfInBounds 46 (.int .i64 (n1 : Int))).setIfInBounds 47 (.int .i64 (nf : Int))).setIfInBounds 48 (.slice (some ⟨q, 0, none⟩) nf c)).setIfInBounds 49 (.agg #[.int .i64 19, .int .i64 0, .string ⟨#[33]⟩, .int .i64 (-1)])).setIfInBounds 50 (.agg #[.int .i64 29, .int .i64 0, .string ⟨#[105, 109, 112, 111, 114, 116, 97, 110, 116]⟩, .int .i64 (-1)])).setIfInBounds 51 (.agg #[.int .i64 35, .int .i64 0, .string ⟨⟨[59]⟩⟩, .int .i64 (-1)])).setIfInBounds 52 (.slice (some ⟨w.heap.size, 0, none⟩) 3 3)).setIfInBounds 53 v').setIfInBounds 10 v'), ds⟩ w') : (Code.region id ops88 true).wp Tryz.prog Q ⟨T, ds⟩ w := by
  have t10 := s10.get
  have t11 := s11.get
  have HH := Lib.hid h
  clear h
  have i0 : (0 : Int) ≤ (nf : Int) := by omega
  have i1 : (nf : Int) ≤ (n1 : Int) := by omega
  have i2 : (n1 : Int) ≤ 2003 := by omega
  have i3 : (nf : Int) ≤ (c : Int) := by omega
  have hwr : IntKind.i64.wrap (nf : Int) = (nf : Int) := by
    simp [IntKind.wrap, IntKind.bits, IntKind.signed]; omega
  refine wp_region_noPanic ?_
  refine wp_region_held (S := fun w' => Below B w w' ∧ w'.heap[bx]? = some (.cells #[.int .i64 35, .int .i64 0, .string ⟨⟨[59]⟩⟩, .int .i64 (-1)] 34 (0, 0))) (by kernel_rfl) ?_
  change wpAnyH Tryz.prog .any _ _ _ 11 _ _ w.drew
  have hS0 : (fun w' : World => Below B w w' ∧ w'.heap[bx]? = some (.cells #[.int .i64 35, .int .i64 0, .string ⟨⟨[59]⟩⟩, .int .i64 (-1)] 34 (0, 0))) w.drew := ⟨(Below.refl _ _).drew, hbx⟩
  refine take_op 0 (Op.move (.tmp 10)) (some 44) (by kernel_rfl) (by kernel_rfl) (by kernel_rfl) (by kernel_rfl) (fun _ _ _ _ h => h) (.slice (some ⟨q, 0, none⟩) n1 c) (fun o ho w' hw' => by unfold execOp; rw [ho]; simp [go_sem, hsz, t10, hn1, hwr, i0, i1, i2, i3]) hS0 ?_
  refine take_op 1 (Op.move (.tmp 10)) (some 45) (by kernel_rfl) (by kernel_rfl) (by kernel_rfl) (by kernel_rfl) (fun _ _ _ _ h => h) (.slice (some ⟨q, 0, none⟩) n1 c) (fun o ho w' hw' => by unfold execOp; rw [ho]; simp [go_sem, hsz, t10, hn1, hwr, i0, i1, i2, i3]) hS0 ?_
  refine take_op 2 (Op.call { callee := .builtin .len, args := #[.tmp 45], argTypes := #[28] }) (some 46) (by kernel_rfl) (by kernel_rfl) (by kernel_rfl) (by kernel_rfl) (fun _ _ _ _ h => h) (.int .i64 (n1 : Int)) (fun o ho w' hw' => by unfold execOp; rw [ho]; simp [go_sem, hsz, t10, hn1, hwr, i0, i1, i2, i3]) hS0 ?_
  refine take_op 3 (Op.binOp .sub 3 (.tmp 46) (.const (.int .i64 1)) 3) (some 47) (by kernel_rfl) (by kernel_rfl) (by kernel_rfl) (by kernel_rfl) (fun _ _ _ _ h => h) (.int .i64 (nf : Int)) (fun o ho w' hw' => by unfold execOp; rw [ho]; simp [go_sem, hsz, t10, hn1, hwr, i0, i1, i2, i3]) hS0 ?_
  refine take_op 4 (Op.slice 28 (.tmp 44) none (some (.tmp 47)) none) (some 48) (by kernel_rfl) (by kernel_rfl) (by kernel_rfl) (by kernel_rfl) (fun _ _ _ _ h => h) (.slice (some ⟨q, 0, none⟩) nf c) (fun o ho w' hw' => by unfold execOp; rw [ho]; simp [go_sem, hsz, t10, hn1, hwr, i0, i1, i2, i3]) hS0 ?_
  refine take_op 5 (Op.build 34 #[(0, .const (.int .i64 19)), (2, .const (.string ⟨#[33]⟩)), (3, .const (.int .i64 (-1)))]) (some 49) (by kernel_rfl) (by kernel_rfl) (by kernel_rfl) (by kernel_rfl) (fun _ _ _ _ h => h) (.agg #[.int .i64 19, .int .i64 0, .string ⟨#[33]⟩, .int .i64 (-1)]) (fun o ho w' hw' => by unfold execOp; rw [ho]; simp [execOp, Act.eval, Act.put, hsz, run_build w' 34 _ _ build34_5]) hS0 ?_
  refine take_op 6 (Op.build 34 #[(0, .const (.int .i64 29)), (2, .const (.string ⟨#[105, 109, 112, 111, 114, 116, 97, 110, 116]⟩)), (3, .const (.int .i64 (-1)))]) (some 50) (by kernel_rfl) (by kernel_rfl) (by kernel_rfl) (by kernel_rfl) (fun _ _ _ _ h => h) (.agg #[.int .i64 29, .int .i64 0, .string ⟨#[105, 109, 112, 111, 114, 116, 97, 110, 116]⟩, .int .i64 (-1)]) (fun o ho w' hw' => by unfold execOp; rw [ho]; simp [execOp, Act.eval, Act.put, hsz, run_build w' 34 _ _ build34_6]) hS0 ?_
  refine take_op 7 (Op.load 34 (.tmp 11)) (some 51) (by kernel_rfl) (by kernel_rfl) (by kernel_rfl) (by kernel_rfl) (fun _ _ _ _ h => h) (.agg #[.int .i64 35, .int .i64 0, .string ⟨⟨[59]⟩⟩, .int .i64 (-1)]) (fun o ho w' hw' => by unfold execOp; rw [ho]; rcases hw' with ⟨_, hb⟩; have d0 := cell_blk hb 0; have d1 := cell_blk hb 1; have d2 := cell_blk hb 2; have d3 := cell_blk hb 3; simp [go_sem, hsz, t11, d0, d1, d2, d3]) hS0 ?_
  refine ready_op 8 (.buildSlice 28 3 #[(0, .tmp 49), (1, .tmp 50), (2, .tmp 51)]) (some 52) (by kernel_rfl) (by kernel_rfl) fun o ho hg hd => ?_
  have hbd : Below B w (w.drew.alloc (.cells #[.int .i64 19, .int .i64 0, .string ⟨#[33]⟩, .int .i64 (-1), .int .i64 29, .int .i64 0, .string ⟨#[105, 109, 112, 111, 114, 116, 97, 110, 116]⟩, .int .i64 (-1), .int .i64 35, .int .i64 0, .string ⟨⟨[59]⟩⟩, .int .i64 (-1)] 34)) := (Below.refl _ _).drew.alloc hB _
  have hbx2 : (w.drew.alloc (.cells #[.int .i64 19, .int .i64 0, .string ⟨#[33]⟩, .int .i64 (-1), .int .i64 29, .int .i64 0, .string ⟨#[105, 109, 112, 111, 114, 116, 97, 110, 116]⟩, .int .i64 (-1), .int .i64 35, .int .i64 0, .string ⟨⟨[59]⟩⟩, .int .i64 (-1)] 34)).heap[bx]? = some (.cells #[.int .i64 35, .int .i64 0, .string ⟨⟨[59]⟩⟩, .int .i64 (-1)] 34 (0, 0)) := by
    rw [(box_below (.cells #[.int .i64 19, .int .i64 0, .string ⟨#[33]⟩, .int .i64 (-1), .int .i64 29, .int .i64 0, .string ⟨#[105, 109, 112, 111, 114, 116, 97, 110, 116]⟩, .int .i64 (-1), .int .i64 35, .int .i64 0, .string ⟨⟨[59]⟩⟩, .int .i64 (-1)] 34) w.drew).block bx (Array.getElem?_eq_some_iff.1 hbx).1]; exact hbx
  have H2 : (w.drew.alloc (.cells #[.int .i64 19, .int .i64 0, .string ⟨#[33]⟩, .int .i64 (-1), .int .i64 29, .int .i64 0, .string ⟨#[105, 109, 112, 111, 114, 116, 97, 110, 116]⟩, .int .i64 (-1), .int .i64 35, .int .i64 0, .string ⟨⟨[59]⟩⟩, .int .i64 (-1)] 34)).ownsRow B 34 4 (.slice (some ⟨q, 0, none⟩) nf c) nf xs := by
    have h1 : w.drew.ownsRow B 34 4 (.slice (some ⟨q, 0, none⟩) nf c) nf xs := H
    exact h1.alloc _
  have hnw : ∀ j u, ((#[.int .i64 19, .int .i64 0, .string ⟨#[33]⟩, .int .i64 (-1), .int .i64 29, .int .i64 0, .string ⟨#[105, 109, 112, 111, 114, 116, 97, 110, 116]⟩, .int .i64 (-1), .int .i64 35, .int .i64 0, .string ⟨⟨[59]⟩⟩, .int .i64 (-1)] : Array Value).toList)[j]? = some u → (w.drew.alloc (.cells #[.int .i64 19, .int .i64 0, .string ⟨#[33]⟩, .int .i64 (-1), .int .i64 29, .int .i64 0, .string ⟨#[105, 109, 112, 111, 114, 116, 97, 110, 116]⟩, .int .i64 (-1), .int .i64 35, .int .i64 0, .string ⟨⟨[59]⟩⟩, .int .i64 (-1)] 34)).cell? ((⟨w.heap.size, 0, none⟩ : Addr).add j) = some u := by
    intro j u hj
    rw [addr_add0]
    have := World.cell?_alloc_mark w.drew #[.int .i64 19, .int .i64 0, .string ⟨#[33]⟩, .int .i64 (-1), .int .i64 29, .int .i64 0, .string ⟨#[105, 109, 112, 111, 114, 116, 97, 110, 116]⟩, .int .i64 (-1), .int .i64 35, .int .i64 0, .string ⟨⟨[59]⟩⟩, .int .i64 (-1)] 34 (0, 0) j
    refine Eq.trans this ?_
    simpa using hj
  unfold Oper.wp execOp
  rw [ho]
  simp [go_sem, hsz, hd]
  refine ⟨⟨hbd, hbx2⟩, ?_⟩
  change wpAnyH _ _ _ _ _ _ _ _ (w.drew.alloc (.cells #[.int .i64 19, .int .i64 0, .string ⟨#[33]⟩, .int .i64 (-1), .int .i64 29, .int .i64 0, .string ⟨#[105, 109, 112, 111, 114, 116, 97, 110, 116]⟩, .int .i64 (-1), .int .i64 35, .int .i64 0, .string ⟨⟨[59]⟩⟩, .int .i64 (-1)] 34))
  generalize w.drew.alloc (.cells #[.int .i64 19, .int .i64 0, .string ⟨#[33]⟩, .int .i64 (-1), .int .i64 29, .int .i64 0, .string ⟨#[105, 109, 112, 111, 114, 116, 97, 110, 116]⟩, .int .i64 (-1), .int .i64 35, .int .i64 0, .string ⟨⟨[59]⟩⟩, .int .i64 (-1)] 34) = w1 at hbd hbx2 H2 hnw ⊢
  refine ready_op 9 (.call { callee := .builtin .append, args := #[.tmp 48, .tmp 52], argTypes := #[28, 28] }) (some 53) (by kernel_rfl) (by kernel_rfl) fun o ho hg hd => ?_
  refine wp_appN (.tmp 48) (.tmp 52) 28 34 ho Tryz.underlying28 info34 rfl (by decide) H2 (Nat.le_trans hB hbd.size) ⟨w.heap.size, 0, none⟩ 3 3 (#[.int .i64 19, .int .i64 0, .string ⟨#[33]⟩, .int .i64 (-1), .int .i64 29, .int .i64 0, .string ⟨#[105, 109, 112, 111, 114, 116, 97, 110, 116]⟩, .int .i64 (-1), .int .i64 35, .int .i64 0, .string ⟨⟨[59]⟩⟩, .int .i64 (-1)] : Array Value).toList rfl hnw ?_ (by omega) (by unfold maxLen; omega) (by simp [Act.eval, hsz]) (by simp [Act.eval, hsz]) ?_
  · intro u hu
    simp only [List.mem_cons, List.not_mem_nil, or_false] at hu
    rcases hu with rfl | rfl | rfl | rfl | rfl | rfl | rfl | rfl | rfl | rfl | rfl | rfl <;> rfl
  intro v' w2 ho2 hg2 hb2
  have hbx3 : w2.heap[bx]? = some (.cells #[.int .i64 35, .int .i64 0, .string ⟨⟨[59]⟩⟩, .int .i64 (-1)] 34 (0, 0)) := by
    rw [hg2.block bx (Array.getElem?_eq_some_iff.1 hbx2).1 (fun e => hqx (by injection e with e; exact e.symm))]; exact hbx2
  refine ⟨⟨hbd.trans hb2, hbx3⟩, ?_⟩
  rw [hd]
  refine last_val 10 (.assign (.tmp 53)) (some 10) (by kernel_rfl) (by kernel_rfl) (by kernel_rfl) v' (fun o ho => by unfold execOp; rw [ho]; simp [go_sem, Act.put, hsz]) ⟨hbd.trans hb2, hbx3⟩ ?_
  have hfin := HH.out v' w2 ho2 (hbd.trans hb2)
  simp only [Act.put]
  exact NoPanic.normal hfin
end Go.Proofs.YtkfdcbdlcipmfaaGreatFmt
