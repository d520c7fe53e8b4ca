/- PLAIN: two prints of one tree have the same tokens. No program in sight. -/
import Derived.Test.YtkfdcbdlcipmfaaGreatFmtH06
import Derived.Test.YtkfdcbdlcipmfaaGreatFmtH35
import Derived.Test.YtkfdcbdlcipmfaaGreatFmtH08
import Derived.Test.YtkfdcbdlcipmfaaGreatFmtH36
import Derived.Test.YtkfdcbdlcipmfaaGreatFmtH14
import Derived.Test.YtkfdcbdlcipmfaaGreatFmtH41
import Derived.Deep.RegionHeld3
import Derived.Laws.CopyOwn
import Derived.Test.YtkfdcbdlcipmfaaGreatFmtH40
set_option linter.unusedVariables false
set_option linter.unusedSimpArgs false
namespace Go.Proofs.YtkfdcbdlcipmfaaGreatFmt
namespace Css
inductive Pc where
  | tok (t : T)
  | close (k : Int)
def pcs : List T → List Pc
  | [] => []
  | .mk k u x b a kids :: ts => .tok (.mk k u x b a kids) :: ((if opens k then pcs kids ++ [.close k] else []) ++ pcs ts)
def FitP (r : Tk × List Int × Bool) : Pc → Prop
  | .tok t => r.1 = tkOf t ∧ IsIt r ⟨t.kind, (t.unit : Int), t.text, -1⟩ ∧ (t.kind = 26 → ∀ c ∈ t.text.take t.unit, c < 128) ∧ ¬ isClose t.kind
  | .close k => r.1 = ⟨closeKind k, 0, []⟩ ∧ r.2.1 = [closer k]
theorem ok1_low {ascii : Bool} {t : T} (h : OK1 ascii t) (h26 : t.kind = 26) : ∀ c ∈ t.text.take t.unit, c < 128 := by
  cases h with
  | name h1 => omega
  | func h1 => omega
  | str h1 => omega
  | num h1 => omega
  | sign h1 => unfold signLike at h1; omega
  | dim h1 hg h2 h3 hl => exact lone_ascii (fun c hc => good_ne hg c (List.mem_of_mem_take hc)) hl (.inl rfl)
theorem ok1_not_close {ascii : Bool} {t : T} (h : OK1 ascii t) : ¬ isClose t.kind := by
  unfold isClose
  cases h with
  | name h1 => omega
  | func h1 => omega
  | str h1 => omega
  | num h1 => omega
  | sign h1 => unfold signLike at h1; omega
  | dim h1 => omega
theorem prints_pcs {ascii : Bool} {ts : List T} {has : Bool} {cl : List Ch} (h : Prints ascii ts has cl) : OKl ascii ts → ∀ sp, All2 FitP (exp cl sp) (pcs ts) := by
  induction h with
  | nil => intro _ sp; simp [exp, pcs]; exact .nil
  | last w hw => intro _ sp; simp [exp, pcs]; exact .nil
  | plain t ts has ws out rest h1 h2 h3 h4 h5 ih =>
    intro hok sp
    cases hok with
    | cons _ _ ht hk hts hadj =>
      obtain ⟨k, u, x, b, a, kids⟩ := t
      have hrest := ih hts false
      have e : exp (ws ++ ⟨some (tkOf (.mk k u x b a kids)), out⟩ :: rest) sp = (tkOf (.mk k u x b a kids), out, sp || has) :: exp rest false := by
        cases has with
        | true => obtain ⟨w, hw, rfl⟩ := h1 rfl; simp [exp]
        | false => rw [h2 rfl]; simp [exp]
      rw [e]
      simp only [pcs]
      rw [if_neg (by exact h3), List.nil_append]
      exact .cons ⟨rfl, isIt_own ht h4 _ _, ok1_low ht, ok1_not_close ht⟩ hrest
  | opened t ts has ws nl out kc rest h1 h2 h3 h4 h5 h6 h7 ih1 ih2 =>
    intro hok sp
    cases hok with
    | cons _ _ ht hk hts hadj =>
      obtain ⟨k, u, x, b, a, kids⟩ := t
      have hrest := ih2 hts false
      have hnl : ∃ sp2, exp (nl ++ (kc ++ ⟨some ⟨closeKind k, 0, []⟩, [closer k]⟩ :: rest)) false = exp kc sp2 ++ (⟨closeKind k, 0, []⟩, [closer k], expSp kc sp2) :: exp rest false := by
        rcases h5 with rfl | ⟨w, hw, rfl⟩
        · exact ⟨false, by rw [List.nil_append, exp_append]; simp [exp]⟩
        · exact ⟨true, by simp only [List.cons_append, List.nil_append, exp]; rw [exp_append]; simp [exp]⟩
      obtain ⟨sp2, hsp2⟩ := hnl
      have hkids := ih1 hk sp2
      have e : exp (ws ++ ⟨some (tkOf (.mk k u x b a kids)), out⟩ :: (nl ++ (kc ++ ⟨some ⟨closeKind k, 0, []⟩, [closer k]⟩ :: rest))) sp = (tkOf (.mk k u x b a kids), out, sp || has) :: (exp kc sp2 ++ (⟨closeKind k, 0, []⟩, [closer k], expSp kc sp2) :: exp rest false) := by
        cases has with
        | true => obtain ⟨w, hw, rfl⟩ := h1 rfl; simp [exp, hsp2]
        | false => rw [h2 rfl]; simp [exp, hsp2]
      show All2 FitP (exp (ws ++ ⟨some (tkOf (.mk k u x b a kids)), out⟩ :: (nl ++ (kc ++ ⟨some ⟨closeKind k, 0, []⟩, [closer k]⟩ :: rest))) sp) _
      rw [e]
      simp only [pcs]
      rw [if_pos (by exact h3)]
      refine .cons ⟨rfl, isIt_own ht h4 _ _, ok1_low ht, ok1_not_close ht⟩ ?_
      rw [List.append_assoc]
      exact hkids.append (.cons ⟨rfl, rfl⟩ hrest)
structure SameTk (r q : Tk × List Int × Bool) : Prop where
  tk : r.1 = q.1
  dim : r.1.kind = 26 → r.1.unit ≤ r.2.1.length ∧ r.1.unit ≤ q.2.1.length ∧ r.2.1.take r.1.unit = q.2.1.take r.1.unit ∧ (∀ c ∈ r.2.1.take r.1.unit, c < 128) ∧ name (r.2.1.drop r.1.unit) = name (q.2.1.drop r.1.unit) ∧ (name (r.2.1.drop r.1.unit)).2 = (false, [])
  rest : ¬ nameLikeK r.1.kind → r.1.kind ≠ 26 → r.2.1 = q.2.1
theorem fitP_same {r q : Tk × List Int × Bool} {p : Pc} (h1 : FitP r p) (h2 : FitP q p) : SameTk r q := by
  cases p with
  | close k =>
    refine ⟨h1.1.trans h2.1.symm, fun h => ?_, fun _ _ => h1.2.trans h2.2.symm⟩
    rw [h1.1] at h
    have := closeKind_close k
    unfold isClose at this
    simp only [] at h; omega
  | tok t =>
    obtain ⟨a1, ⟨b1, b2, b3, b4⟩, c1, n1⟩ := h1
    obtain ⟨a2, ⟨d1, d2, d3, d4⟩, _⟩ := h2
    have e := a1.trans a2.symm
    simp only [] at b1 b2 b3 b4 d1 d2 d3 d4
    refine ⟨e, fun h => ?_, fun h3 h26 => ?_⟩
    · have hk : t.kind = 26 := by rw [← b1]; exact h
      obtain ⟨u1, u2, u3, u4, u5⟩ := b3 hk
      obtain ⟨v1, v2, v3, v4, v5⟩ := d3 hk
      rw [← e] at v1 v2 v3 v4 v5
      have hu : r.1.unit = t.unit := by omega
      refine ⟨u4, v4, u2.trans v2.symm, ?_, u3.trans v3.symm, by rw [u3]⟩
      rw [u2, hu]; exact c1 hk
    · rw [b1] at h3 h26
      unfold nameLikeK at h3
      unfold isClose at n1
      rw [b4 (by omega), d4 (by omega)]
theorem All2.same {α β : Type} {R : α → β → Prop} {S : α → α → Prop} (hS : ∀ x y z, R x z → R y z → S x y) {a b : List α} {c : List β} (h1 : All2 R a c) (h2 : All2 R b c) : All2 S a b := by
  induction h1 generalizing b with
  | nil => cases h2; exact .nil
  | cons h _ ih => cases h2 with | cons h' h2' => exact .cons (hS _ _ _ h h') (ih h2')
theorem at_same {a1 a2 m1 m2 : Bool} {nm : List Int} {ts : List T} {cl1 cl2 : List Ch} (h1 : Prints a1 ts (headBefore ts) cl1) (h2 : Prints a2 ts (headBefore ts) cl2) (k1 : OKl a1 ts) (k2 : OKl a2 ts) (hne : nm ≠ []) (g1 : Good a1 nm) (g2 : Good a2 nm) :
    ∃ x y, reads (flat (atCh a1 m1 nm ts cl1)) false = (x, 0, false) ∧ reads (flat (atCh a2 m2 nm ts cl2)) false = (y, 0, false) ∧ All2 SameTk x y := by
  refine ⟨_, _, chain_read (at_chain hne g1 h1 k1), chain_read (at_chain hne g2 h2 k2), ?_⟩
  unfold atCh
  simp only [exp]
  refine .cons ⟨rfl, fun h => by simp at h, fun h => absurd (by simp [nameLikeK]) h⟩ ?_
  rw [exp_wsIf, exp_wsIf, exp_append, exp_append]
  refine (All2.same (R := FitP) (S := SameTk) (fun _ _ _ h h' => fitP_same h h') (prints_pcs h1 k1 _) (prints_pcs h2 k2 _)).append ?_
  simp only [exp]
  have e1 : exp (wsIf (!m1) [10]) false = [] := by unfold wsIf; cases m1 <;> simp [exp]
  have e2 : exp (wsIf (!m2) [10]) false = [] := by unfold wsIf; cases m2 <;> simp [exp]
  rw [e1, e2]
  exact .cons ⟨rfl, fun h => by simp at h, fun _ _ => rfl⟩ .nil
end Css
end Go.Proofs.YtkfdcbdlcipmfaaGreatFmt
namespace Go.Proofs.YtkfdcbdlcipmfaaGreatFmt
open Go.RowKit Css
abbrev RdT := (Tk × List Int × List Int) × Bool
def rawB (s : ByteArray) (y : RdT) : ByteArray := s.extract (pos s y.1.2.1) (pos s y.1.2.2)
structure SamB (s t : ByteArray) (y z : RdT) : Prop where
  tk : y.1.1 = z.1.1
  le1 : pos s y.1.2.1 ≤ pos s y.1.2.2
  le2 : pos t z.1.2.1 ≤ pos t z.1.2.2
  dim : y.1.1.kind = 26 → y.1.1.unit ≤ (rawB s y).size ∧ y.1.1.unit ≤ (rawB t z).size ∧ (rawB s y).extract 0 y.1.1.unit = (rawB t z).extract 0 y.1.1.unit ∧
    enc (name (dec ((rawB s y).extract y.1.1.unit (rawB s y).size).data.toList)).1 = enc (name (dec ((rawB t z).extract y.1.1.unit (rawB t z).size).data.toList)).1
  rest : ¬ nameLikeK y.1.1.kind → y.1.1.kind ≠ 26 → rawB s y = rawB t z
theorem rd_cells {s : ByteArray} {gl : List RdT} {ys : List Value} {A : Option Addr} {c B : Nat} {w1 wr : World} (hrow : RdRow s gl ys) (hown : w1.ownsRow B 64 7 (.slice A gl.length c) gl.length ys) (hb : Below w1.heap.size w1 wr) {i : Nat} {y : RdT} (hy : gl[i]? = some y) :
    ∃ (id : Bool) (q : Nat), A = some ⟨q, 0, none⟩ ∧ q < w1.heap.size ∧ ∀ j z, (rdCells s y id)[j]? = some z → wr.cell? ⟨q, i * 7 + j, none⟩ = some z := by
  obtain ⟨id, hcells⟩ := hrow.get hy
  have hlt := (List.getElem?_eq_some_iff.1 hy).1
  obtain ⟨q, cap, hv, _, _⟩ := hown.form (by omega)
  have hA : A = some ⟨q, 0, none⟩ := by injection hv
  subst hA
  have hq : q < w1.heap.size := (own_lt hown rfl).1
  refine ⟨id, q, rfl, hq, fun j z hz => ?_⟩
  have h1 := hown.cells (g := q) rfl _ z (hcells j z hz)
  rw [addr_add0] at h1
  rw [World.cell?_of_block (w := w1) (a := ⟨q, i * 7 + j, none⟩) (hb.block q hq)]; exact h1
def tok0 : Array Value := #[.int .i64 0, .int .i64 0, .int .i64 0, .int .i64 0, .bool false, .string ⟨#[]⟩]
theorem size62 : (Tryz.prog.info? 62).map (·.size) = some 6 := by kernel_rfl
def ops208 : Array Oper := #[{ dst := some 42, op := Op.move (Operand.tmp 5), type := 58, pos := "laws.go:126", after := #[], guard := none }, { dst := some 43, op := Op.move (Operand.tmp 9), type := 3, pos := "laws.go:126", after := #[], guard := none }, { dst := some 44, op := Op.indexAddr 58 (Operand.tmp 42) (Operand.tmp 43), type := 0, pos := "laws.go:126", after := #[{ on := 0, ground := Ground.data }, { on := 1, ground := Ground.data }], guard := none }, { dst := some 45, op := Op.fieldAddr 64 (Operand.tmp 44) 0, type := 0, pos := "laws.go:126", after := #[{ on := 2, ground := Ground.data }], guard := none }, { dst := some 46, op := Op.load 62 (Operand.tmp 45), type := 62, pos := "laws.go:126", after := #[{ on := 3, ground := Ground.data }], guard := none }, { dst := some 47, op := Op.move (Operand.tmp 7), type := 58, pos := "laws.go:126", after := #[{ on := 12, ground := Ground.gcOnly Departure.lateStores }], guard := none }, { dst := some 48, op := Op.move (Operand.tmp 9), type := 3, pos := "laws.go:126", after := #[{ on := 12, ground := Ground.gcOnly Departure.lateStores }], guard := none }, { dst := some 49, op := Op.indexAddr 58 (Operand.tmp 47) (Operand.tmp 48), type := 0, pos := "laws.go:126", after := #[{ on := 5, ground := Ground.data }, { on := 6, ground := Ground.data }, { on := 12, ground := Ground.gcOnly Departure.lateStores }], guard := none }, { dst := some 50, op := Op.fieldAddr 64 (Operand.tmp 49) 0, type := 0, pos := "laws.go:126", after := #[{ on := 7, ground := Ground.data }, { on := 12, ground := Ground.gcOnly Departure.lateStores }], guard := none }, { dst := some 51, op := Op.load 62 (Operand.tmp 50), type := 62, pos := "laws.go:126", after := #[{ on := 8, ground := Ground.data }, { on := 12, ground := Ground.gcOnly Departure.lateStores }], guard := none }, { dst := some 10, op := Op.alloc 62, type := 0, pos := "laws.go:126", after := #[], guard := none }, { dst := some 11, op := Op.alloc 62, type := 0, pos := "laws.go:126", after := #[], guard := none }, { dst := none, op := Op.store 62 (Operand.tmp 10) (Operand.tmp 46), type := 0, pos := "laws.go:126", after := #[{ on := 10, ground := Ground.data }, { on := 4, ground := Ground.data }, { on := 0, ground := Ground.phase }, { on := 1, ground := Ground.phase }, { on := 2, ground := Ground.phase }, { on := 3, ground := Ground.phase }, { on := 4, ground := Ground.phase }, { on := 5, ground := Ground.textOnly Departure.lateStores }, { on := 6, ground := Ground.textOnly Departure.lateStores }, { on := 7, ground := Ground.textOnly Departure.lateStores }, { on := 8, ground := Ground.textOnly Departure.lateStores }, { on := 9, ground := Ground.textOnly Departure.lateStores }, { on := 10, ground := Ground.phase }, { on := 11, ground := Ground.phase }], guard := none }, { dst := none, op := Op.store 62 (Operand.tmp 11) (Operand.tmp 51), type := 0, pos := "laws.go:126", after := #[{ on := 11, ground := Ground.data }, { on := 9, ground := Ground.data }, { on := 12, ground := Ground.chain }, { on := 0, ground := Ground.phase }, { on := 1, ground := Ground.phase }, { on := 2, ground := Ground.phase }, { on := 3, ground := Ground.phase }, { on := 4, ground := Ground.phase }, { on := 5, ground := Ground.phase }, { on := 6, ground := Ground.phase }, { on := 7, ground := Ground.phase }, { on := 8, ground := Ground.phase }, { on := 9, ground := Ground.phase }, { on := 10, ground := Ground.phase }, { on := 11, ground := Ground.phase }, { on := 12, ground := Ground.phase }], guard := none }]
theorem ready_two {P : Program} {md : Region.Mode} {ops : Array Oper} {Q : Exit → Act → World → Prop} {S : World → Prop} {listed : Array Bool} {a : Act} {w : World} {fuel : Nat} (i j : Nat) (opi opj : Op) (di dj : Option Tmp) (hr : Region.ready md ops listed = [i, j])
    (hi : (ops[i]?).map (fun o => (o.op, o.guard, o.dst)) = some (opi, none, di)) (hj : (ops[j]?).map (fun o => (o.op, o.guard, o.dst)) = some (opj, none, dj))
    (h1 : ∀ o : Oper, o.op = opi → o.dst = di → o.wp P a w (fun a' w' => S w' ∧ wpAnyH P md ops Q S fuel (listed.setIfInBounds i true) a' w') Q)
    (h2 : ∀ o : Oper, o.op = opj → o.dst = dj → o.wp P a w (fun a' w' => S w' ∧ wpAnyH P md ops Q S fuel (listed.setIfInBounds j true) a' w') Q) : wpAnyH P md ops Q S (fuel + 1) listed a w := by
  have step : ∀ (k : Nat) (op0 : Op) (d0 : Option Tmp), (ops[k]?).map (fun o => (o.op, o.guard, o.dst)) = some (op0, none, d0) → (∀ o : Oper, o.op = op0 → o.dst = d0 → o.wp P a w (fun a' w' => S w' ∧ wpAnyH P md ops Q S fuel (listed.setIfInBounds k true) a' w') Q) →
      wpOp P ops Q k (fun a' w' => S w' ∧ wpAnyH P md ops Q S fuel (listed.setIfInBounds k true) a' w') a w := by
    intro k op0 d0 hk h
    obtain ⟨o, ho, he⟩ := Option.map_eq_some_iff.1 hk
    simp only [Prod.mk.injEq] at he
    obtain ⟨e1, e2, e3⟩ := he
    unfold wpOp
    simp only [ho]
    rw [if_pos (by simp [Region.wanted, e2])]
    exact .inl (h o e1 e3)
  refine wpAnyH_all hr (by simp) fun k hk => ?_
  rcases List.mem_cons.1 hk with rfl | hk
  · exact step _ _ _ hi h1
  · have : k = j := by simpa using hk
    subst this
    exact step _ _ _ hj h2
theorem wp_alloc62 {o : Oper} (ho : o.op = .alloc 62) {a : Act} {w : World} {K : Act → World → Prop} {Q : Exit → Act → World → Prop} (h : K (a.put o.dst (.pointer (some ⟨w.heap.size, 0, none⟩))) (w.alloc (.cells tok0 62))) : o.wp Tryz.prog a w K Q := by
  have hZ := Tryz.zeroValue62
  unfold Oper.wp execOp
  rw [ho]
  simp [go_sem, hZ]
  exact h
def Pair (W : World) (v1 v2 : Array Value) (b1 b2 : Nat) (w' : World) : Prop := w'.heap[b1]? = some (.cells v1 62 (0, 0)) ∧ w'.heap[b2]? = some (.cells v2 62 (0, 0)) ∧ Below W.heap.size W w'
theorem pair_end {w wx : World} {v1 v2 : Array Value} {b1 b2 : Nat} (hB : Below w.heap.size w wx) (g1 : w.heap.size ≤ b1) (g2 : w.heap.size ≤ b2) (hne : b1 ≠ b2) (hh1 : wx.heap[b1]? = some (.cells tok0 62 (0, 0))) (hh2 : wx.heap[b2]? = some (.cells tok0 62 (0, 0)))
    (ho1 : v1.all (·.oneCell') = true) (ho2 : v2.all (·.oneCell') = true) {Q : Exit → Act → World → Prop} {listed : Array Bool} (T : Array Value) (ds : List Deferred)
    (e1 : T[10]? = some (.pointer (some ⟨b1, 0, none⟩))) (e2 : T[11]? = some (.pointer (some ⟨b2, 0, none⟩))) (e3 : T[46]? = some (.agg v1)) (e4 : T[51]? = some (.agg v2))
    (hr1 : Region.ready .any ops208 listed = [12]) (hr2 : Region.ready .any ops208 (listed.setIfInBounds 12 true) = [13]) (hr3 : Region.ready .any ops208 ((listed.setIfInBounds 12 true).setIfInBounds 13 true) = []) (z1 : v1.size = 6) (z2 : v2.size = 6)
    (h : ∀ w', Pair w v1 v2 b1 b2 w' → Q .normal ⟨T, ds⟩ w') : wpAnyH Tryz.prog .any ops208 Q (fun w' => Below w.heap.size w w') 2 listed ⟨T, ds⟩ wx := by
  have s1 : (Tryz.prog.info? 62).map (·.size) = some v1.size := by rw [z1]; exact size62
  have s2 : (Tryz.prog.info? 62).map (·.size) = some v2.size := by rw [z2]; exact size62
  refine ready_op 12 (.store 62 (.tmp 10) (.tmp 46)) none hr1 (by kernel_rfl) fun o ho hg hd => ?_
  refine wp_store_row 62 (.tmp 10) (.tmp 46) ho b1 v1 (by simp [Act.eval, e1]) (by simp [Act.eval, e3]) 62 tok0 hh1 s1 (by rw [z1]; rfl) ho1 ?_
  have hB1 := below_setRow (g := b1) hB g1 v1
  refine ⟨hB1, ?_⟩
  rw [hd]
  refine last_op 13 (.store 62 (.tmp 11) (.tmp 51)) none hr2 (by kernel_rfl) hr3 fun o ho hd => ?_
  have hh3 : (wx.setRow b1 v1).heap[b2]? = some (.cells tok0 62 (0, 0)) := by rw [setRow_other _ _ _ _ (Ne.symm hne)]; exact hh2
  refine wp_store_row 62 (.tmp 11) (.tmp 51) ho b2 v2 (by simp [Act.eval, Act.put, e2]) (by simp [Act.eval, Act.put, e4]) 62 tok0 hh3 s2 (by rw [z2]; rfl) ho2 ?_
  have hB2 := below_setRow (g := b2) hB1 g2 v2
  refine ⟨hB2, ?_⟩
  rw [hd]
  refine h _ ⟨?_, setRow_heap _ _ tok0 _ 62 (0, 0) hh3, hB2⟩
  rw [setRow_other _ _ _ _ hne]
  exact setRow_heap _ _ tok0 _ 62 (0, 0) hh1
set_option maxHeartbeats 1600000 in
set_option maxRecDepth 100000 in
theorem pair_region {w : World} (q1 q2 k c1 c2 i : Nat) (x0 x1 x2 x3 x4 x5 y0 y1 y2 y3 y4 y5 : Value) (hik : i < k) (hk : k ≤ 2147483647) (ho1 : #[x0, x1, x2, x3, x4, x5].all (·.oneCell') = true) (ho2 : #[y0, y1, y2, y3, y4, y5].all (·.oneCell') = true)
    (h10 : w.cell? ⟨q1, i * 7, none⟩ = some x0) (h11 : w.cell? ⟨q1, i * 7 + 1, none⟩ = some x1) (h12 : w.cell? ⟨q1, i * 7 + 2, none⟩ = some x2) (h13 : w.cell? ⟨q1, i * 7 + 3, none⟩ = some x3) (h14 : w.cell? ⟨q1, i * 7 + 4, none⟩ = some x4) (h15 : w.cell? ⟨q1, i * 7 + 5, none⟩ = some x5)
    (h20 : w.cell? ⟨q2, i * 7, none⟩ = some y0) (h21 : w.cell? ⟨q2, i * 7 + 1, none⟩ = some y1) (h22 : w.cell? ⟨q2, i * 7 + 2, none⟩ = some y2) (h23 : w.cell? ⟨q2, i * 7 + 3, none⟩ = some y3) (h24 : w.cell? ⟨q2, i * 7 + 4, none⟩ = some y4) (h25 : w.cell? ⟨q2, i * 7 + 5, none⟩ = some y5)
    {Q : Exit → Act → World → Prop} {id : Nat} (T : Array Value) (ds : List Deferred) (hsz : T.size = 119) (s5 : Sl T 5 (.slice (some ⟨q1, 0, none⟩) k c1)) (s7 : Sl T 7 (.slice (some ⟨q2, 0, none⟩) k c2)) (s9 : Sl T 9 (.int .i64 (i : Int)))
    (h : ∀ b1 b2 w', Pair w #[x0, x1, x2, x3, x4, x5] #[y0, y1, y2, y3, y4, y5] b1 b2 w' → Q .normal ⟨(((((((((((T.setIfInBounds 42 (.slice (some ⟨q1, 0, none⟩) k c1)).setIfInBounds 43 (.int .i64 (i : Int))).setIfInBounds 44 (.pointer (some ⟨q1, i * 7, none⟩))).setIfInBounds 45 (.pointer (some ⟨q1, i * 7, none⟩))).setIfInBounds 46 (.agg #[x0, x1, x2, x3, x4, x5])).setIfInBounds 47 (.slice (some ⟨q2, 0, none⟩) k c2)).setIfInBounds 48 (.int .i64 (i : Int))).setIfInBounds 49 (.pointer (some ⟨q2, i * 7, none⟩))).setIfInBounds 50 (.pointer (some ⟨q2, i * 7, none⟩))).setIfInBounds 51 (.agg #[y0, y1, y2, y3, y4, y5])).setIfInBounds 10 (.pointer (some ⟨b1, 0, none⟩))).setIfInBounds 11 (.pointer (some ⟨b2, 0, none⟩)), ds⟩ w') : (Code.region id ops208 true).wp Tryz.prog Q ⟨T, ds⟩ w := by
  have t5 := s5.get
  have t7 := s7.get
  have t9 := s9.get
  have HH := Lib.hid h
  clear h
  have i0 : (i : Int) < (k : Int) := by omega
  have i1 : (0 : Int) ≤ (i : Int) := by omega
  have i2 : (i : Int) ≤ 2147483647 := by omega
  refine wp_region_noPanic ?_
  refine wp_region_held (S := fun w' => Below w.heap.size w w') (by kernel_rfl) ?_
  change wpAnyH Tryz.prog .any _ _ _ 14 _ _ w.drew
  have hS0 : (fun w' : World => Below w.heap.size w w') w.drew := (Below.refl _ _).drew
  refine take_op 0 (Op.move (.tmp 5)) (some 42) (by kernel_rfl) (by kernel_rfl) (by kernel_rfl) (by kernel_rfl) (fun _ _ _ _ h => h) (.slice (some ⟨q1, 0, none⟩) k c1) (fun o ho w' hw' => by unfold execOp; rw [ho]; simp [go_sem, hsz, t5, t7, t9, i0, i1, i2]) hS0 ?_
  refine take_op 1 (Op.move (.tmp 9)) (some 43) (by kernel_rfl) (by kernel_rfl) (by kernel_rfl) (by kernel_rfl) (fun _ _ _ _ h => h) (.int .i64 (i : Int)) (fun o ho w' hw' => by unfold execOp; rw [ho]; simp [go_sem, hsz, t5, t7, t9, i0, i1, i2]) hS0 ?_
  refine take_op 2 (Op.indexAddr 58 (.tmp 42) (.tmp 43)) (some 44) (by kernel_rfl) (by kernel_rfl) (by kernel_rfl) (by kernel_rfl) (fun _ _ _ _ h => h) (.pointer (some ⟨q1, i * 7, none⟩)) (fun o ho w' hw' => by unfold execOp; rw [ho]; simp [go_sem, hsz, t5, t7, t9, i0, i1, i2]) hS0 ?_
  refine take_op 3 (Op.fieldAddr 64 (.tmp 44) 0) (some 45) (by kernel_rfl) (by kernel_rfl) (by kernel_rfl) (by kernel_rfl) (fun _ _ _ _ h => h) (.pointer (some ⟨q1, i * 7, none⟩)) (fun o ho w' hw' => by unfold execOp; rw [ho]; simp [go_sem, hsz, t5, t7, t9, i0, i1, i2]) hS0 ?_
  refine take_op 4 (Op.load 62 (.tmp 45)) (some 46) (by kernel_rfl) (by kernel_rfl) (by kernel_rfl) (by kernel_rfl) (fun _ _ _ _ h => h) (.agg #[x0, x1, x2, x3, x4, x5]) (fun o ho w' hw' => by unfold execOp; rw [ho]; have c0 := below_cell hw' h10; have c1 := below_cell hw' h11; have c2 := below_cell hw' h12; have c3 := below_cell hw' h13; have c4 := below_cell hw' h14; have c5 := below_cell hw' h15; simp [go_sem, hsz, c0, c1, c2, c3, c4, c5]) hS0 ?_
  refine take_op 5 (Op.move (.tmp 7)) (some 47) (by kernel_rfl) (by kernel_rfl) (by kernel_rfl) (by kernel_rfl) (fun _ _ _ _ h => h) (.slice (some ⟨q2, 0, none⟩) k c2) (fun o ho w' hw' => by unfold execOp; rw [ho]; simp [go_sem, hsz, t5, t7, t9, i0, i1, i2]) hS0 ?_
  refine take_op 6 (Op.move (.tmp 9)) (some 48) (by kernel_rfl) (by kernel_rfl) (by kernel_rfl) (by kernel_rfl) (fun _ _ _ _ h => h) (.int .i64 (i : Int)) (fun o ho w' hw' => by unfold execOp; rw [ho]; simp [go_sem, hsz, t5, t7, t9, i0, i1, i2]) hS0 ?_
  refine take_op 7 (Op.indexAddr 58 (.tmp 47) (.tmp 48)) (some 49) (by kernel_rfl) (by kernel_rfl) (by kernel_rfl) (by kernel_rfl) (fun _ _ _ _ h => h) (.pointer (some ⟨q2, i * 7, none⟩)) (fun o ho w' hw' => by unfold execOp; rw [ho]; simp [go_sem, hsz, t5, t7, t9, i0, i1, i2]) hS0 ?_
  refine take_op 8 (Op.fieldAddr 64 (.tmp 49) 0) (some 50) (by kernel_rfl) (by kernel_rfl) (by kernel_rfl) (by kernel_rfl) (fun _ _ _ _ h => h) (.pointer (some ⟨q2, i * 7, none⟩)) (fun o ho w' hw' => by unfold execOp; rw [ho]; simp [go_sem, hsz, t5, t7, t9, i0, i1, i2]) hS0 ?_
  refine take_op 9 (Op.load 62 (.tmp 50)) (some 51) (by kernel_rfl) (by kernel_rfl) (by kernel_rfl) (by kernel_rfl) (fun _ _ _ _ h => h) (.agg #[y0, y1, y2, y3, y4, y5]) (fun o ho w' hw' => by unfold execOp; rw [ho]; have c0 := below_cell hw' h20; have c1 := below_cell hw' h21; have c2 := below_cell hw' h22; have c3 := below_cell hw' h23; have c4 := below_cell hw' h24; have c5 := below_cell hw' h25; simp [go_sem, hsz, c0, c1, c2, c3, c4, c5]) hS0 ?_
  refine ready_two 10 11 (.alloc 62) (.alloc 62) (some 10) (some 11) (by kernel_rfl) (by kernel_rfl) (by kernel_rfl) (fun o ho hd => ?_) (fun o ho hd => ?_)
  · refine wp_alloc62 ho ⟨(Below.refl _ _).drew.alloc (Nat.le_refl _) _, ?_⟩
    rw [hd]
    have hB1 : Below w.heap.size w (w.drew.alloc (.cells tok0 62)) := (Below.refl _ _).drew.alloc (Nat.le_refl _) _
    have hh1 : (w.drew.alloc (.cells tok0 62)).heap[w.heap.size]? = some (.cells tok0 62 (0, 0)) := heap_alloc_new w.drew _
    change wpAnyH _ _ _ _ _ _ _ _ (w.drew.alloc (.cells tok0 62))
    generalize w.drew.alloc (.cells tok0 62) = w1 at hB1 hh1 ⊢
    refine ready_op 11 (.alloc 62) (some 11) (by kernel_rfl) (by kernel_rfl) fun o ho hg hd => ?_
    have hB2 : Below w.heap.size w (w1.alloc (.cells tok0 62)) := hB1.alloc hB1.size _
    refine wp_alloc62 ho ⟨hB2, ?_⟩
    rw [hd]
    have hlt := (Array.getElem?_eq_some_iff.1 hh1).1
    have hh2 : (w1.alloc (.cells tok0 62)).heap[w1.heap.size]? = some (.cells tok0 62 (0, 0)) := heap_alloc_new w1 _
    have hh3 : (w1.alloc (.cells tok0 62)).heap[w.heap.size]? = some (.cells tok0 62 (0, 0)) := heap_keep (box_below _ _) hh1
    simp only [Act.put]
    exact pair_end (b1 := w.heap.size) (b2 := w1.heap.size) hB2 (Nat.le_refl _) hB1.size (by omega) hh3 hh2 ho1 ho2 _ _ (by simp [hsz]) (by simp [hsz]) (by simp [hsz]) (by simp [hsz]) (by kernel_rfl) (by kernel_rfl) (by kernel_rfl) rfl rfl fun w' hp => HH.out _ _ _ hp
  · refine wp_alloc62 ho ⟨(Below.refl _ _).drew.alloc (Nat.le_refl _) _, ?_⟩
    rw [hd]
    have hB1 : Below w.heap.size w (w.drew.alloc (.cells tok0 62)) := (Below.refl _ _).drew.alloc (Nat.le_refl _) _
    have hh1 : (w.drew.alloc (.cells tok0 62)).heap[w.heap.size]? = some (.cells tok0 62 (0, 0)) := heap_alloc_new w.drew _
    change wpAnyH _ _ _ _ _ _ _ _ (w.drew.alloc (.cells tok0 62))
    generalize w.drew.alloc (.cells tok0 62) = w1 at hB1 hh1 ⊢
    refine ready_op 10 (.alloc 62) (some 10) (by kernel_rfl) (by kernel_rfl) fun o ho hg hd => ?_
    have hB2 : Below w.heap.size w (w1.alloc (.cells tok0 62)) := hB1.alloc hB1.size _
    refine wp_alloc62 ho ⟨hB2, ?_⟩
    rw [hd]
    have hlt := (Array.getElem?_eq_some_iff.1 hh1).1
    have hh2 : (w1.alloc (.cells tok0 62)).heap[w1.heap.size]? = some (.cells tok0 62 (0, 0)) := heap_alloc_new w1 _
    have hh3 : (w1.alloc (.cells tok0 62)).heap[w.heap.size]? = some (.cells tok0 62 (0, 0)) := heap_keep (box_below _ _) hh1
    simp only [Act.put]
    refine pair_end (b1 := w1.heap.size) (b2 := w.heap.size) hB2 hB1.size (Nat.le_refl _) (by omega) hh2 hh3 ho1 ho2 _ _ (by simp [hsz]) (by simp [hsz]) (by simp [hsz]) (by simp [hsz]) (by kernel_rfl) (by kernel_rfl) (by kernel_rfl) rfl rfl fun w' hp => ?_
    have := HH.out _ _ _ hp
    rw [Array.setIfInBounds_comm _ _ (by decide : (10 : Nat) ≠ 11)] at this
    exact this
set_option maxHeartbeats 6400000 in
set_option maxRecDepth 100000 in
theorem same_true (s t : ByteArray) (hs : (s.size : Int) ≤ 2147483647) (ht : (t.size : Int) ≤ 2147483647) (gl hl : List RdT) (hgl : gl.length ≤ 2147483647) (hlen : gl.length = hl.length) (w : World)
    (hr1 : ∀ w, Calls Tryz.prog 31 #[.string s] w fun e w' => ∃ (v : Value) (xs : List Value), e = .returned (.tuple #[v, .bool true]) ∧ w'.ownsRow w.heap.size 64 7 v gl.length xs ∧ RdRow s gl xs ∧ Below w.heap.size w w')
    (hr2 : ∀ w, Calls Tryz.prog 31 #[.string t] w fun e w' => ∃ (v : Value) (xs : List Value), e = .returned (.tuple #[v, .bool true]) ∧ w'.ownsRow w.heap.size 64 7 v hl.length xs ∧ RdRow t hl xs ∧ Below w.heap.size w w')
    (hall : ∀ (i : Nat) (y z : RdT), gl[i]? = some y → hl[i]? = some z → SamB s t y z) : Calls Tryz.prog 20 #[.string s, .string t] w (RetBW true w) := by
  have HR1 := Lib.hid hr1
  have HR2 := Lib.hid hr2
  have HS := Lib.hid hs
  have HT := Lib.hid ht
  have HALL := Lib.hid hall
  clear hr1 hr2 hs ht hall
  rename World => w0
  go_enter Tryz.func20, Tryz.ntmps20
  go_wp2_with fail
  refine (HR1.out _).mono ?_
  rintro e w1 ⟨out, ys, rfl, hown, hrow, hb⟩
  have HB := Lib.hid hb
  have HROW := Lib.hid hrow
  obtain ⟨Ao, co, hout⟩ := own_slice hown
  subst hout
  have HOWN := Lib.hid hown
  clear hb hown hrow HR1
  go_wp2_with fail
  refine (HR2.out _).mono ?_
  rintro e w2 ⟨out2, ys2, rfl, hown, hrow, hb⟩
  have HB2 := Lib.hid hb
  have HROW2 := Lib.hid hrow
  obtain ⟨Ao2, co2, hout⟩ := own_slice hown
  subst hout
  have HOWN2 := Lib.hid hown
  clear hb hown hrow HR2
  have hle2 : ((gl.length : Int) != (hl.length : Int)) = false := by rw [hlen]; simp
  go_wp2_with fail
  go_loopg [9, 10, 11, 12, 13, 39] gl.length (fun k p9 p10 p11 p12 p13 p39 wr => ∃ i : Nat, p39 = .int .i64 i ∧ i + k = gl.length ∧ Hid (Below w2.heap.size w2 wr))
  case atStart => exact ⟨0, rfl, by omega, Below.refl _ _⟩
  case round =>
    obtain ⟨i, rfl, hik, HB3⟩ := hrel
    have hi0 : (0 : Int) ≤ (i : Int) := by omega
    have hi1 : (i : Int) ≤ 2147483647 := by omega
    by_cases hlt : i < gl.length
    · have hlti : (i : Int) < (gl.length : Int) := by omega
      have hltx : (i : Int) < (hl.length : Int) := by omega
      obtain ⟨y, hy⟩ : ∃ y, gl[i]? = some y := ⟨gl[i], List.getElem?_eq_getElem hlt⟩
      obtain ⟨z, hz⟩ : ∃ z, hl[i]? = some z := ⟨hl[i]'(by omega), List.getElem?_eq_getElem (by omega)⟩
      have HOK := Lib.hid (HALL.out i y z hy hz)
      obtain ⟨id1, q1, hA1, hq1, hc1⟩ := rd_cells HROW.out HOWN.out (below_then HB2.out HB3.out) hy
      obtain ⟨id2, q2, hA2, hq2, hc2⟩ := rd_cells HROW2.out HOWN2.out HB3.out hz
      subst hA1
      subst hA2
      have a0 : wr.cell? ⟨q1, i * 7, none⟩ = some (.int .i64 y.1.1.kind) := hc1 0 _ rfl
      have a1 : wr.cell? ⟨q1, i * 7 + 1, none⟩ = some (.int .i64 (pos s y.1.2.1 : Nat)) := hc1 1 _ rfl
      have a2 : wr.cell? ⟨q1, i * 7 + 2, none⟩ = some (.int .i64 (pos s y.1.2.2 : Nat)) := hc1 2 _ rfl
      have a3 : wr.cell? ⟨q1, i * 7 + 3, none⟩ = some (.int .i64 (y.1.1.unit : Nat)) := hc1 3 _ rfl
      have a4 : wr.cell? ⟨q1, i * 7 + 4, none⟩ = some (.bool id1) := hc1 4 _ rfl
      have a5 : wr.cell? ⟨q1, i * 7 + 5, none⟩ = some (.string (bsOf (enc y.1.1.text))) := hc1 5 _ rfl
      have b0 : wr.cell? ⟨q2, i * 7, none⟩ = some (.int .i64 z.1.1.kind) := hc2 0 _ rfl
      have b1 : wr.cell? ⟨q2, i * 7 + 1, none⟩ = some (.int .i64 (pos t z.1.2.1 : Nat)) := hc2 1 _ rfl
      have b2 : wr.cell? ⟨q2, i * 7 + 2, none⟩ = some (.int .i64 (pos t z.1.2.2 : Nat)) := hc2 2 _ rfl
      have b3 : wr.cell? ⟨q2, i * 7 + 3, none⟩ = some (.int .i64 (z.1.1.unit : Nat)) := hc2 3 _ rfl
      have b4 : wr.cell? ⟨q2, i * 7 + 4, none⟩ = some (.bool id2) := hc2 4 _ rfl
      have b5 : wr.cell? ⟨q2, i * 7 + 5, none⟩ = some (.string (bsOf (enc z.1.1.text))) := hc2 5 _ rfl
      have htk := HOK.out.tk
      rw [← htk] at b0 b3 b5
      have HBW := Lib.hid (HB3.out)
      clear hc1 hc2 hy hz htk
      go_upto_region 8 with (fail)
      refine pair_region q1 q2 _ _ _ i _ _ _ _ _ _ _ _ _ _ _ _ (by omega) (by omega) (by simp [Value.oneCell']) (by simp [Value.oneCell']) a0 a1 a2 a3 a4 a5 b0 b1 b2 b3 b4 b5 _ _ rfl rfl rfl rfl ?_
      intro p1 p2 W9 hpair
      have HP := Lib.hid hpair
      clear hpair a0 a1 a2 a3 a4 a5 b0 b1 b2 b3 b4 b5
      simp only [List.setIfInBounds_toArray, List.set_cons_zero, List.set_cons_succ]
      have e0 := cell_blk HP.out.1 0
      have e1 := cell_blk HP.out.1 1
      have e2 := cell_blk HP.out.1 2
      have e3 := cell_blk HP.out.1 3
      have e4 := cell_blk HP.out.1 4
      have e5 := cell_blk HP.out.1 5
      have f0 := cell_blk HP.out.2.1 0
      have f1 := cell_blk HP.out.2.1 1
      have f2 := cell_blk HP.out.2.1 2
      have f3 := cell_blk HP.out.2.1 3
      have f4 := cell_blk HP.out.2.1 4
      have f5 := cell_blk HP.out.2.1 5
      have l1 : ((pos s y.1.2.1 : Nat) : Int) ≤ ((pos s y.1.2.2 : Nat) : Int) := by have := HOK.out.le1; omega
      have l2 : ((pos s y.1.2.2 : Nat) : Int) ≤ (s.size : Int) := by have := pos_le (s := s) (ds := y.1.2.2); omega
      have l3 : ((pos t z.1.2.1 : Nat) : Int) ≤ ((pos t z.1.2.2 : Nat) : Int) := by have := HOK.out.le2; omega
      have l4 : ((pos t z.1.2.2 : Nat) : Int) ≤ (t.size : Int) := by have := pos_le (s := t) (ds := z.1.2.2); omega
      have hdim := HOK.out.dim
      have hrest := HOK.out.rest
      unfold rawB at hdim hrest
      generalize enc y.1.1.text = tx at *
      generalize y.1.1.kind = yk at *
      generalize y.1.1.unit = yu at *
      generalize pos s y.1.2.1 = ya at *
      generalize pos s y.1.2.2 = yb at *
      generalize pos t z.1.2.1 = za at *
      generalize pos t z.1.2.2 = zb at *
      have HS0 := HS.out
      have HT0 := HT.out
      obtain ⟨r1, hr1⟩ : ∃ r, s.extract ya yb = r := ⟨_, rfl⟩
      obtain ⟨r2, hr2⟩ : ∃ r, t.extract za zb = r := ⟨_, rfl⟩
      rw [hr1, hr2] at hdim hrest
      have hz1 : r1.size ≤ 2147483647 := by rw [← hr1, ByteArray.size_extract]; omega
      have hz2 : r2.size ≤ 2147483647 := by rw [← hr2, ByteArray.size_extract]; omega
      have HDIM := Lib.hid hdim
      have HREST := Lib.hid hrest
      have HZ1 := Lib.hid hz1
      have HZ2 := Lib.hid hz2
      clear hdim hrest HOK HS0 HT0 hz1 hz2
      have hk : nameLikeK yk ∨ yk = 26 ∨ (¬ nameLikeK yk ∧ yk ≠ 26) := by
        by_cases h1 : nameLikeK yk
        · exact .inl h1
        · by_cases h2 : yk = 26
          · exact .inr (.inl h2)
          · exact .inr (.inr ⟨h1, h2⟩)
      go_upto_region 11 with (fail)
      go_quiet (fail)
      rcases hk with hk | hk | hk
      · unfold nameLikeK at hk
        rcases hk with hk | hk | hk | hk | hk
        · have k29 : (yk == 29) = true := by simp; omega
          clear hk
          go_wp2_with fail
          go_roundg (gl.length - (i + 1))
          case measure => omega
          case rel => exact ⟨i + 1, by go_num, by omega, HB3.out.trans ((below_then HP.out.2.2 (below_drewN _ _)).mono HB3.out.size)⟩
        · have k29 : (yk == 29) = false := by simp; omega
          have k27 : (yk == 27) = true := by simp; omega
          clear hk
          go_wp2_with fail
          go_roundg (gl.length - (i + 1))
          case measure => omega
          case rel => exact ⟨i + 1, by go_num, by omega, HB3.out.trans ((below_then HP.out.2.2 (below_drewN _ _)).mono HB3.out.size)⟩
        · have k29 : (yk == 29) = false := by simp; omega
          have k27 : (yk == 27) = false := by simp; omega
          have k1 : (yk == 1) = true := by simp; omega
          clear hk
          go_wp2_with fail
          go_roundg (gl.length - (i + 1))
          case measure => omega
          case rel => exact ⟨i + 1, by go_num, by omega, HB3.out.trans ((below_then HP.out.2.2 (below_drewN _ _)).mono HB3.out.size)⟩
        · have k29 : (yk == 29) = false := by simp; omega
          have k27 : (yk == 27) = false := by simp; omega
          have k1 : (yk == 1) = false := by simp; omega
          have k28 : (yk == 28) = true := by simp; omega
          clear hk
          go_wp2_with fail
          go_roundg (gl.length - (i + 1))
          case measure => omega
          case rel => exact ⟨i + 1, by go_num, by omega, HB3.out.trans ((below_then HP.out.2.2 (below_drewN _ _)).mono HB3.out.size)⟩
        · have k29 : (yk == 29) = false := by simp; omega
          have k27 : (yk == 27) = false := by simp; omega
          have k1 : (yk == 1) = false := by simp; omega
          have k28 : (yk == 28) = false := by simp; omega
          have k36 : (yk == 36) = true := by simp; omega
          clear hk
          go_wp2_with fail
          go_roundg (gl.length - (i + 1))
          case measure => omega
          case rel => exact ⟨i + 1, by go_num, by omega, HB3.out.trans ((below_then HP.out.2.2 (below_drewN _ _)).mono HB3.out.size)⟩
      · have k29 : (yk == 29) = false := by simp; omega
        have k27 : (yk == 27) = false := by simp; omega
        have k1 : (yk == 1) = false := by simp; omega
        have k28 : (yk == 28) = false := by simp; omega
        have k36 : (yk == 36) = false := by simp; omega
        have k26 : (yk == 26) = true := by simp; omega
        obtain ⟨d1, d2, d3, d4⟩ := HDIM.out hk
        obtain ⟨d, hd1⟩ : ∃ d, enc (name (dec (r1.extract yu r1.size).data.toList)).1 = d := ⟨_, rfl⟩
        obtain ⟨p, hp1⟩ : ∃ p, r1.extract 0 yu = p := ⟨_, rfl⟩
        have hp2 : r2.extract 0 yu = p := by rw [← d3]; exact hp1
        rw [hd1] at d4
        have hu1 : (yu : Int) ≤ (r1.size : Int) := by omega
        have hu2 : (yu : Int) ≤ (r2.size : Int) := by omega
        have hu0 : (0 : Int) ≤ (yu : Int) := by omega
        have hu3 : (r1.size : Int) ≤ 2147483647 := by have := HZ1.out; omega
        have hu4 : (r2.size : Int) ≤ 2147483647 := by have := HZ2.out; omega
        have HC1 : Hid (∀ w', Calls Tryz.prog 35 #[.string (r1.extract yu r1.size)] w' (RetS d w')) := fun w' => by
          have := decoded_any (r1.extract yu r1.size) (by rw [ByteArray.size_extract]; omega) w'
          rw [hd1] at this; exact this
        have HC2 : Hid (∀ w', Calls Tryz.prog 35 #[.string (r2.extract yu r2.size)] w' (RetS d w')) := fun w' => by
          have := decoded_any (r2.extract yu r2.size) (by rw [ByteArray.size_extract]; omega) w'
          rw [← d4] at this; exact this
        clear hk d1 d2 d3 d4 hd1
        go_upto_region 21 with (fail)
        have HPX : Hid (Below wr.heap.size wr (W9.drewN nq)) := below_then HP.out.2.2 (below_drewN _ _)
        have g3 : (W9.drewN nq).cell? ⟨p1, 3, none⟩ = some (.int .i64 (yu : Nat)) := e3
        have j3 : (W9.drewN nq).cell? ⟨p2, 3, none⟩ = some (.int .i64 (yu : Nat)) := f3
        clear e0 e1 e2 e3 e4 e5 f0 f1 f2 f3 f4 f5
        generalize W9.drewN nq = W8 at HPX g3 j3 ⊢
        obtain ⟨Ix, hne, f, hf1, hf2⟩ := below_class W8
        have k3 : ∀ n, (f n).cell? ⟨p1, 3, none⟩ = some (.int .i64 (yu : Nat)) := fun n => class_cell hf1 g3 n
        have m3 : ∀ n, (f n).cell? ⟨p2, 3, none⟩ = some (.int .i64 (yu : Nat)) := fun n => class_cell hf1 j3 n
        have HF1 := Lib.hid hf1
        have HF2 := Lib.hid hf2
        clear hf1 hf2 g3 j3
        refine wp_region_class (f := f) (by kernel_rfl) (by kernel_rfl) HF2.out ?_
        repeat (go_big_quiet_step (first | (go_at_call 35; first | ((with_reducible refine (HC1.out _).mono ?_); exact fun e w' h => ⟨h.1, class_next HF1.out HF2.out h.2⟩) | ((with_reducible refine (HC2.out _).mono ?_); exact fun e w' h => ⟨h.1, class_next HF1.out HF2.out h.2⟩))))
        refine wpQuiet_nil ?_
        intro w9 hw9
        obtain ⟨nr, hw9⟩ := hw9
        subst hw9
        clear k3 m3
        go_wp2_with fail
        go_roundg (gl.length - (i + 1))
        case measure => omega
        case rel => exact ⟨i + 1, by go_num, by omega, HB3.out.trans ((below_then HPX.out (HF1.out nr)).mono HB3.out.size)⟩
      · have hrr := HREST.out hk.1 hk.2
        obtain ⟨n1, n2⟩ := hk
        unfold nameLikeK at n1
        have k29 : (yk == 29) = false := by simp; omega
        have k27 : (yk == 27) = false := by simp; omega
        have k1 : (yk == 1) = false := by simp; omega
        have k28 : (yk == 28) = false := by simp; omega
        have k36 : (yk == 36) = false := by simp; omega
        have k26 : (yk == 26) = false := by simp; omega
        subst hrr
        clear n1 n2
        go_wp2_with fail
        go_roundg (gl.length - (i + 1))
        case measure => omega
        case rel => exact ⟨i + 1, by go_num, by omega, HB3.out.trans ((below_then HP.out.2.2 (below_drewN _ _)).mono HB3.out.size)⟩
    · have hle : (gl.length : Int) ≤ (i : Int) := by omega
      go_wp2_with fail
      go_ret
      exact RetBW.mk' rfl (below_then (below_then HB.out HB2.out) HB3.out)
end Go.Proofs.YtkfdcbdlcipmfaaGreatFmt
namespace Go.Proofs.YtkfdcbdlcipmfaaGreatFmt
open Go.RowKit Css
structure ReadT (s : ByteArray) (ds : List Int) (got : List (Tk × List Int × Bool)) : Prop where
  bytes : s.data.toList = enc ds
  valid : ∀ d ∈ ds, Valid d
  small : s.size ≤ 2147483647
  plain : isPlainB s.data.toList = true
  rd : rd (tokens ds).1 false = got
  com : (tokens ds).2.1 = 0
  shut : (tokens ds).2.2 = false
theorem readT {asc : Bool} {s : ByteArray} {ds : List Int} {got : List (Tk × List Int × Bool)} (h : s.data.toList = enc ds) (hsz : s.size ≤ 2147483647) (hp : PlainTxt asc ds) (hg : reads ds false = (got, 0, false)) : ReadT s ds got := by
  have hv : ∀ d ∈ ds, Valid d := fun d hd => (hp.1 d hd).1
  have hdec : dec s.data.toList = ds := by rw [h, dec_enc_v hv]
  have hrd : rd (tokens ds).1 false = got ∧ (tokens ds).2.1 = 0 ∧ (tokens ds).2.2 = false := by
    unfold Css.reads at hg
    simp only [Prod.mk.injEq] at hg
    exact hg
  refine ⟨h, hv, hsz, ?_, hrd.1, hrd.2.1, hrd.2.2⟩
  unfold isPlainB okDec
  rw [hdec]
  simp only [Bool.and_eq_true, List.all_eq_true, Bool.not_eq_true', beq_eq_false_iff_ne, ne_eq]
  refine ⟨fun c hc => ?_, hp.2⟩
  have := hv c hc
  unfold Valid at this
  unfold okC
  simp only [Bool.and_eq_true, Bool.not_eq_true', beq_eq_false_iff_ne, ne_eq]
  omega
theorem ReadT.dec {s : ByteArray} {ds : List Int} {got : List (Tk × List Int × Bool)} (h : ReadT s ds got) : Css.dec s.data.toList = ds := by rw [h.bytes, dec_enc_v h.valid]
theorem ReadT.len {s : ByteArray} {ds : List Int} {got : List (Tk × List Int × Bool)} (h : ReadT s ds got) : (tokens ds).1.length ≤ 2147483647 := by
  have h1 := tokens_len _ ds (Nat.le_refl _)
  have h2 := len_le_enc ds
  rw [← h.bytes] at h2
  have e : s.data.toList.length = s.size := rfl
  have := h.small
  omega
theorem ReadT.reads {s : ByteArray} {ds : List Int} {got : List (Tk × List Int × Bool)} (h : ReadT s ds got) (w : World) :
    Calls Tryz.prog 31 #[.string s] w fun e w' => ∃ (v : Value) (xs : List Value), e = .returned (.tuple #[v, .bool true]) ∧ w'.ownsRow w.heap.size 64 7 v (rdP (tokens ds).1 false).length xs ∧ RdRow s (rdP (tokens ds).1 false) xs ∧ Below w.heap.size w w' := by
  have hs := h.small
  have := reads_true s (by omega) h.plain (by rw [h.dec]; exact h.com) (by rw [h.dec]; exact h.shut) (by rw [h.dec]; exact h.len) w
  unfold RetRd at this
  rw [h.dec] at this
  exact this
theorem ReadT.map {s : ByteArray} {ds : List Int} {got : List (Tk × List Int × Bool)} (h : ReadT s ds got) : (rdP (tokens ds).1 false).map (fun y => (y.1.1, Css.part y.1.2.1 y.1.2.2, y.2)) = got := by
  rw [rdP_map]; exact h.rd
theorem ReadT.raw {s : ByteArray} {ds : List Int} {got : List (Tk × List Int × Bool)} (h : ReadT s ds got) {y : RdT} (hy : y ∈ rdP (tokens ds).1 false) :
    (rawB s y).data.toList = enc (Css.part y.1.2.1 y.1.2.2) ∧ pos s y.1.2.1 ≤ pos s y.1.2.2 ∧ ∀ c ∈ Css.part y.1.2.1 y.1.2.2, Valid c := by
  have hym := rdP_mem _ _ y hy
  obtain ⟨s1, s2⟩ := tokens_sx ds y.1 hym
  obtain ⟨r1, r2⟩ := raw_bytes h.bytes s1 s2
  refine ⟨r1, r2, fun c hc => ?_⟩
  obtain ⟨X, e⟩ := s1
  refine h.valid c ?_
  rw [e]
  exact List.mem_append_right _ (List.mem_of_mem_take hc)
theorem ext_all (r : ByteArray) (u : Nat) : (r.extract u r.size).data.toList = r.data.toList.drop u := by
  rw [ext_list]
  have e : r.data.toList.length = r.size := rfl
  rw [← e, List.take_length]
theorem same_b {s t : ByteArray} {d1 d2 : List Int} {g1 g2 : List (Tk × List Int × Bool)} (h1 : ReadT s d1 g1) (h2 : ReadT t d2 g2) {y z : RdT} (hy : y ∈ rdP (tokens d1).1 false) (hz : z ∈ rdP (tokens d2).1 false)
    (hs : SameTk (y.1.1, Css.part y.1.2.1 y.1.2.2, y.2) (z.1.1, Css.part z.1.2.1 z.1.2.2, z.2)) : SamB s t y z := by
  obtain ⟨r1, l1, v1⟩ := h1.raw hy
  obtain ⟨r2, l2, v2⟩ := h2.raw hz
  refine ⟨hs.tk, l1, l2, fun hk => ?_, fun n1 n2 => ?_⟩
  · obtain ⟨a1, a2, a3, a4, a5, a6⟩ := hs.dim hk
    simp only [] at a1 a2 a3 a4 a5
    obtain ⟨b1, b2, b3⟩ := enc_take a1 a4
    obtain ⟨c1, c2, c3⟩ := enc_take a2 (by rw [← a3]; exact a4)
    have e1 : (rawB s y).size = (enc (Css.part y.1.2.1 y.1.2.2)).length := by rw [← r1]; rfl
    have e2 : (rawB t z).size = (enc (Css.part z.1.2.1 z.1.2.2)).length := by rw [← r2]; rfl
    refine ⟨by rw [e1]; exact b3, by rw [e2]; exact c3, ba_ext ?_, ?_⟩
    · rw [ext_list, ext_list, List.drop_zero, List.drop_zero, r1, r2, b1, c1, a3]
    · rw [ext_all, ext_all, r1, r2, b2, c2, dec_enc_v fun c hc => v1 c (List.mem_of_mem_drop hc), dec_enc_v fun c hc => v2 c (List.mem_of_mem_drop hc), a5]
  · have := hs.rest n1 n2
    simp only [] at this
    exact ba_ext (by rw [r1, r2, this])
theorem same_ready {s t : ByteArray} {d1 d2 : List Int} {g1 g2 : List (Tk × List Int × Bool)} (h1 : ReadT s d1 g1) (h2 : ReadT t d2 g2) (hs : All2 SameTk g1 g2) (w : World) : Calls Tryz.prog 20 #[.string s, .string t] w (RetBW true w) := by
  have m1 := h1.map
  have m2 := h2.map
  have hl : (rdP (tokens d1).1 false).length = (rdP (tokens d2).1 false).length := by
    have := hs.len
    rw [← m1, ← m2, List.length_map, List.length_map] at this
    exact this
  have z1 := h1.small
  have z2 := h2.small
  refine same_true s t (by omega) (by omega) _ _ (Nat.le_trans (rdP_len _ _) h1.len) hl w h1.reads h2.reads fun i y z hy hz => ?_
  refine same_b h1 h2 (List.mem_of_getElem? hy) (List.mem_of_getElem? hz) ?_
  exact hs.get (i := i) (by rw [← m1, List.getElem?_map, hy]; rfl) (by rw [← m2, List.getElem?_map, hz]; rfl)
end Go.Proofs.YtkfdcbdlcipmfaaGreatFmt
