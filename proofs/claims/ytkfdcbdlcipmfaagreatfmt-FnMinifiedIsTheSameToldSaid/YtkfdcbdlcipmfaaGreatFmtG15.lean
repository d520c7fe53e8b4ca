/- Words for the walks: a drawing region whose last operation waits for all others. -/
import Derived.Orders
import Derived.OrdersHeld
import Derived.Deep.RegionHeld
import Derived.Test.YtkfdcbdlcipmfaaGreatFmtG14
import Derived.Deep.RegionHeld3
set_option linter.unusedVariables false
set_option linter.unusedSimpArgs false
namespace Go.Proofs.YtkfdcbdlcipmfaaGreatFmt
section
variable {P : Program} {md : Region.Mode} {ops ops' : Array Oper} {Q : Exit → Act → World → Prop} {L : Nat}
/-- What is asked behind all but the last operation: the last operation's own. -/
def LastQ (P : Program) (ops : Array Oper) (Q : Exit → Act → World → Prop) (L : Nat) : Exit → Act → World → Prop
  | .normal, a, w => wpOp P ops Q L (Q .normal) a w
  | e, a, w => Q e a w
theorem oper_lastQ {o : Oper} {a : Act} {w : World} {K : Act → World → Prop} (h : o.wp P a w K (LastQ P ops Q L)) : o.wp P a w K Q := by
  unfold Oper.wp at *
  generalize (execOp a.eval o).run P w = r at *
  cases r with
  | ok n w' => cases n <;> simp only [Oper.upon] at h ⊢ <;> exact h
  | halt x w' => cases x <;> simp only [Oper.upon] at h ⊢ <;> exact h
theorem letsOut_lastQ (h : LetsOut (LastQ P ops Q L)) : LetsOut Q := h
theorem yielded_same (hd : ∀ j : Nat, (ops'[j]?).bind (·.dst) = (ops[j]?).bind (·.dst)) (t : Array Value) : yielded ops' t = yielded ops t := by
  funext j; unfold yielded; rw [hd j]
theorem ready_same (hs : ops'.size = ops.size) (ha : ∀ i : Nat, (ops'[i]?).map (·.after) = (ops[i]?).map (·.after)) (listed : Array Bool) : Region.ready md ops' listed = Region.ready md ops listed := by
  unfold Region.ready
  rw [hs]
  refine List.filter_congr fun i _ => ?_
  have := ha i
  cases h1 : ops'[i]? with
  | none => cases h2 : ops[i]? with
    | none => rfl
    | some o => rw [h1, h2] at this; cases this
  | some o' => cases h2 : ops[i]? with
    | none => rw [h1, h2] at this; cases this
    | some o =>
      rw [h1, h2] at this
      simp only [Option.map_some, Option.some.injEq] at this
      simp only [Option.map_some, this]
/-- While something is not listed, something may come up. -/
theorem ready_some (hidx : ∀ (i : Nat) (o : Oper), ops[i]? = some o → ∀ e ∈ o.after, Region.binds md e = true → e.on < i) (listed : Array Bool) : ∀ i : Nat, i < ops.size → listed.getD i true = false → Region.ready md ops listed ≠ [] := by
  intro i
  induction i using Nat.strongRecOn with
  | _ i ih =>
    intro hi hl h0
    by_cases hx : ∃ e ∈ (ops[i]).after, Region.binds md e = true ∧ listed.getD e.on false = false
    · obtain ⟨e, he, hb, hz⟩ := hx
      have hlt := hidx i ops[i] (Array.getElem?_eq_getElem hi) e he hb
      by_cases hin : e.on < listed.size
      · refine ih e.on hlt (by omega) ?_ h0
        rw [Array.getD_eq_getD_getElem?, Array.getElem?_eq_getElem hin] at hz ⊢
        exact hz
      · have : listed.getD i true = true := by
          rw [Array.getD_eq_getD_getElem?, Array.getElem?_eq_none (by omega)]; rfl
        rw [this] at hl; cases hl
    · have hm : i ∈ Region.ready md ops listed := by
        unfold Region.ready
        rw [List.mem_filter]
        refine ⟨List.mem_range.2 hi, ?_⟩
        rw [hl, Array.getElem?_eq_getElem hi]
        simp only [Bool.not_false, Bool.true_and, Option.map_some, Option.getD_some, Array.all_eq_true_iff_forall_mem]
        intro e he
        cases hb : Region.binds md e
        · rfl
        · cases hz : listed.getD e.on false
          · exact absurd ⟨e, he, hb, hz⟩ hx
          · rfl
      rw [h0] at hm; cases hm
theorem wpAny_nil {fuel : Nat} {listed : Array Bool} {a : Act} {w : World} (h0 : Region.ready md ops listed = []) (h : wpAny P md ops Q fuel listed a w) : Q .normal a w := by
  cases fuel with
  | zero => exact h.2
  | succ n => exact h.1 h0
theorem wpAny_of_nil {listed : Array Bool} {a : Act} {w : World} (h0 : Region.ready md ops listed = []) (h : Q .normal a w) : ∀ fuel, wpAny P md ops Q fuel listed a w
  | 0 => ⟨h0, h⟩
  | _ + 1 => ⟨fun _ => h, by rw [h0]; simp⟩
/-- What is listed has all listed that it waits for. -/
def Closed (md : Region.Mode) (ops : Array Oper) (listed : Array Bool) : Prop := ∀ (i : Nat) (o : Oper), ops[i]? = some o → listed.getD i false = true → ∀ e ∈ o.after, Region.binds md e = true → listed.getD e.on false = true
theorem ready_after {listed : Array Bool} {i : Nat} {o : Oper} (ho : ops[i]? = some o) (hi : i ∈ Region.ready md ops listed) : ∀ e ∈ o.after, Region.binds md e = true → listed.getD e.on false = true := by
  intro e he hb
  unfold Region.ready at hi
  rw [List.mem_filter, ho] at hi
  simp only [Option.map_some, Option.getD_some, Bool.and_eq_true, Array.all_eq_true_iff_forall_mem] at hi
  have h5 := hi.2.2 e he
  rw [hb] at h5
  simpa using h5
theorem getD_up {listed : Array Bool} {i j : Nat} (h : listed.getD j false = true) : (listed.setIfInBounds i true).getD j false = true := by
  rw [Array.getD_eq_getD_getElem?] at h ⊢
  rw [Array.getElem?_setIfInBounds]
  by_cases hij : i = j
  · subst hij
    rw [if_pos rfl]
    cases hx : listed[i]? with
    | none => rw [hx] at h; cases h
    | some b => have := (Array.getElem?_eq_some_iff.1 hx).1; simp [this]
  · rw [if_neg hij]; exact h
theorem Closed.step {listed : Array Bool} {i : Nat} (h : Closed md ops listed) (hi : i ∈ Region.ready md ops listed) : Closed md ops (listed.setIfInBounds i true) := by
  intro j o ho hj e he hb
  by_cases hij : j = i
  · subst hij; exact getD_up (ready_after ho hi e he hb)
  · refine getD_up (h j o ho ?_ e he hb)
    rw [Array.getD_eq_getD_getElem?, Array.getElem?_setIfInBounds, if_neg (Ne.symm hij), ← Array.getD_eq_getD_getElem?] at hj
    exact hj
/-- THE LAST OPERATION APART: the region with a step that does nothing in its place; behind it the operation itself. -/
theorem wpAny_last {oN : Oper} {oL : Oper} {c : Value} (hL : ops[L]? = some oL) (hop : ops' = ops.setIfInBounds L oN) (hN : oN.op = .move (.const c)) (hNg : oN.guard = none) (hNd : oN.dst = none) (hLd : oL.dst = none) (hNa : oN.after = oL.after)
    (hidx : ∀ (i : Nat) (o : Oper), ops[i]? = some o → ∀ e ∈ o.after, Region.binds md e = true → e.on < i)
    (hall : ∀ listed : Array Bool, Closed md ops listed → (∀ e ∈ oL.after, Region.binds md e = true → listed.getD e.on false = true) → ∀ j : Nat, j < ops.size → j ≠ L → listed.getD j false = true) :
    ∀ (fuel : Nat) (listed : Array Bool) (a : Act) (w : World), Closed md ops listed → listed.size = ops.size → listed.getD L true = false → wpAny P md ops' (LastQ P ops Q L) fuel listed a w → wpAny P md ops Q fuel listed a w := by
  have hLs : L < ops.size := (Array.getElem?_eq_some_iff.1 hL).1
  have hget : ∀ j : Nat, ops'[j]? = if j = L then some oN else ops[j]? := fun j => by
    rw [hop, Array.getElem?_setIfInBounds]
    by_cases h : j = L
    · subst h; simp [hLs]
    · simp [h, Ne.symm h]
  have hd : ∀ j : Nat, (ops'[j]?).bind (·.dst) = (ops[j]?).bind (·.dst) := fun j => by
    rw [hget j]; split
    · rename_i h; subst h; rw [hL]; simp [hNd, hLd]
    · rfl
  have ha : ∀ j : Nat, (ops'[j]?).map (·.after) = (ops[j]?).map (·.after) := fun j => by
    rw [hget j]; split
    · rename_i h; subst h; rw [hL]; simp [hNa]
    · rfl
  have hsz : ops'.size = ops.size := by rw [hop]; simp
  have hr := ready_same (md := md) hsz ha
  have hy := yielded_same hd
  intro fuel
  induction fuel with
  | zero =>
    intro listed a w hcl hs hl h
    exact absurd (by rw [← hr]; exact h.1) (ready_some hidx listed L hLs hl)
  | succ n ih =>
    intro listed a w hcl hs hl h
    refine ⟨fun h0 => absurd h0 (ready_some hidx listed L hLs hl), fun i hi => ?_⟩
    have h2 := h.2 i (by rw [hr]; exact hi)
    by_cases hiL : i = L
    · subst hiL
      have hnil : Region.ready md ops (listed.setIfInBounds i true) = [] := by
        unfold Region.ready
        rw [List.filter_eq_nil_iff]
        intro j hj
        rw [List.mem_range] at hj
        have hlj : (listed.setIfInBounds i true).getD j true = true := by
          rw [Array.getD_eq_getD_getElem?, Array.getElem?_setIfInBounds]
          by_cases hji : i = j
          · subst hji; rw [if_pos rfl]; split <;> rfl
          · rw [if_neg hji]
            have h5 := hall listed hcl (ready_after hL hi) j hj (Ne.symm hji)
            rw [Array.getD_eq_getD_getElem?] at h5
            cases h6 : listed[j]? with
            | none => rfl
            | some b => rw [h6] at h5; exact h5
        rw [hlj]; simp
      have h3 : wpAny P md ops' (LastQ P ops Q i) n (listed.setIfInBounds i true) a w := by
        unfold wpOp at h2
        rw [hget i, if_pos rfl] at h2
        simp only [Region.wanted, hNg, if_true] at h2
        rcases h2 with h2 | ⟨h2, _⟩
        · unfold Oper.wp execOp at h2
          simp only [hN] at h2
          have e : a.put oN.dst c = a := by rw [hNd]; rfl
          have h5 : wpAny P md ops' (LastQ P ops Q i) n (listed.setIfInBounds i true) (a.put oN.dst c) w := h2
          rw [e] at h5; exact h5
        · exfalso
          have h5 := h2.1
          unfold execOp at h5
          simp only [hN] at h5
          exact absurd (show noRoomEvent ∈ (#[] : Array Event) from h5) (by simp)
      have h4 : wpOp P ops Q i (Q .normal) a w := wpAny_nil (by rw [hr]; exact hnil) h3
      exact wpOp_mono (fun a' w' hq => wpAny_of_nil hnil hq n) h4
    · have hl' : (listed.setIfInBounds i true).getD L true = false := by
        rw [Array.getD_eq_getD_getElem?, Array.getElem?_setIfInBounds, if_neg hiL, ← Array.getD_eq_getD_getElem?]; exact hl
      have h3 : wpOp P ops Q i (wpAny P md ops' (LastQ P ops Q L) n (listed.setIfInBounds i true)) a w := by
        unfold wpOp at h2 ⊢
        rw [hget i, if_neg hiL] at h2
        cases ho : ops[i]? with
        | none => rw [ho] at h2; exact h2
        | some o =>
          rw [ho] at h2
          simp only [] at h2 ⊢
          rw [hy] at h2
          split
          · rename_i hw
            rw [if_pos hw] at h2
            exact h2.imp oper_lastQ fun x => ⟨x.1, letsOut_lastQ x.2⟩
          · rename_i hw
            rw [if_neg hw] at h2
            exact h2
      exact wpOp_mono (fun a' w' hq => ih _ a' w' (hcl.step hi) (by simpa using hs) hl' hq) h3
end
/-! The last operations of a region. -/
theorem last_op {P : Program} {md : Region.Mode} {ops : Array Oper} {Q : Exit → Act → World → Prop} {S : World → Prop} {listed : Array Bool} {a : Act} {w : World} (i : Nat) (op0 : Op) (d0 : Option Tmp) (hr : Region.ready md ops listed = [i]) (hi : (ops[i]?).map (fun o => (o.op, o.guard, o.dst)) = some (op0, none, d0))
    (hd : Region.ready md ops (listed.setIfInBounds i true) = []) (h : ∀ o : Oper, o.op = op0 → o.dst = d0 → o.wp P a w (fun a' w' => S w' ∧ Q .normal a' w') Q) : wpAnyH P md ops Q S 1 listed a w := by
  obtain ⟨o, ho, he⟩ := Option.map_eq_some_iff.1 hi
  simp only [Prod.mk.injEq] at he
  obtain ⟨h1, h2, h3⟩ := he
  refine wpAnyH_all hr (by simp) fun j hj => ?_
  have hji : j = i := by simpa using hj
  subst hji
  refine wpOp_mono (K := fun a' w' => S w' ∧ Q .normal a' w') (fun a' w' h => ⟨h.1, hd, h.2⟩) ?_
  unfold wpOp
  simp only [ho]
  rw [if_pos (by simp [Region.wanted, h2])]
  exact .inl (h o h1 h3)
theorem ite_of {c : Prop} [Decidable c] {A B : Prop} (h : c) (a : A) : if c then A else B := by rw [if_pos h]; exact a
theorem next_op {P : Program} {md : Region.Mode} {ops : Array Oper} {Q : Exit → Act → World → Prop} {S : World → Prop} {listed : Array Bool} {a : Act} {w : World} {fuel : Nat} (i : Nat) (op0 : Op) (d0 : Option Tmp) (hr : Region.ready md ops listed = [i]) (hi : (ops[i]?).map (fun o => (o.op, o.guard, o.dst)) = some (op0, none, d0))
    (v : Value) (hv : ∀ o : Oper, o.op = op0 → (execOp a.eval o).run P w = .ok (.value v) w) (hS : S w) (h : wpAnyH P md ops Q S fuel (listed.setIfInBounds i true) (a.put d0 v) w) : wpAnyH P md ops Q S (fuel + 1) listed a w := by
  obtain ⟨o, ho, he⟩ := Option.map_eq_some_iff.1 hi
  simp only [Prod.mk.injEq] at he
  obtain ⟨h1, h2, h3⟩ := he
  refine wpAnyH_all hr (by simp) fun j hj => ?_
  have hji : j = i := by simpa using hj
  subst hji
  unfold wpOp
  simp only [ho]
  rw [if_pos (by simp [Region.wanted, h2])]
  refine .inl ?_
  unfold Oper.wp
  rw [hv o h1]
  simp only [Oper.upon]
  rw [h3]
  exact ⟨hS, h⟩
theorem last_val {P : Program} {md : Region.Mode} {ops : Array Oper} {Q : Exit → Act → World → Prop} {S : World → Prop} {listed : Array Bool} {a : Act} {w : World} (i : Nat) (op0 : Op) (d0 : Option Tmp) (hr : Region.ready md ops listed = [i]) (hi : (ops[i]?).map (fun o => (o.op, o.guard, o.dst)) = some (op0, none, d0))
    (hd : Region.ready md ops (listed.setIfInBounds i true) = []) (v : Value) (hv : ∀ o : Oper, o.op = op0 → (execOp a.eval o).run P w = .ok (.value v) w) (hS : S w) (h : Q .normal (a.put d0 v) w) : wpAnyH P md ops Q S 1 listed a w :=
  next_op (fuel := 0) i op0 d0 hr hi v hv hS ⟨hd, h⟩

/-- Each operation waits for earlier ones alone. -/
def idxB (md : Region.Mode) (ops : Array Oper) : Bool := (List.range ops.size).all fun i => match ops[i]? with | some o => o.after.all fun e => !Region.binds md e || decide (e.on < i) | none => true
/-- Whether operation i waits for operation j, through others or not. -/
def reachB (md : Region.Mode) (ops : Array Oper) : Nat → Nat → Nat → Bool
  | 0, i, j => decide (i = j)
  | f + 1, i, j => decide (i = j) || (match ops[i]? with | some o => o.after.any (fun e => Region.binds md e && reachB md ops f e.on j) | none => false)
/-- The last operation waits for all others. -/
def waitsB (md : Region.Mode) (ops : Array Oper) (L : Nat) : Bool := (List.range ops.size).all fun j => reachB md ops 4 L j
theorem idxB_spec {md : Region.Mode} {ops : Array Oper} (h : idxB md ops = true) : ∀ (i : Nat) (o : Oper), ops[i]? = some o → ∀ e ∈ o.after, Region.binds md e = true → e.on < i := by
  intro i o ho e he hb
  unfold idxB at h
  have hi : i < ops.size := (Array.getElem?_eq_some_iff.1 ho).1
  have h1 := List.all_eq_true.1 h i (List.mem_range.2 hi)
  rw [ho] at h1
  have h2 := (Array.all_eq_true_iff_forall_mem.1 h1) e he
  rw [hb] at h2
  simpa using h2
theorem reach_listed {md : Region.Mode} {ops : Array Oper} {listed : Array Bool} (hc : Closed md ops listed) : ∀ (f i j : Nat), listed.getD i false = true → reachB md ops f i j = true → listed.getD j false = true := by
  intro f
  induction f with
  | zero =>
    intro i j hi h
    unfold reachB at h
    have : i = j := by simpa using h
    subst this; exact hi
  | succ f ih =>
    intro i j hi h
    unfold reachB at h
    rw [Bool.or_eq_true] at h
    rcases h with h | h
    · have : i = j := by simpa using h
      subst this; exact hi
    · cases ho : ops[i]? with
      | none => rw [ho] at h; cases h
      | some o =>
        rw [ho] at h
        obtain ⟨k, hk, h2⟩ := Array.any_eq_true.1 h
        simp only [Bool.and_eq_true] at h2
        exact ih _ j (hc i o ho hi _ (Array.getElem_mem hk) h2.1) h2.2
theorem waitsB_spec {md : Region.Mode} {ops : Array Oper} {L : Nat} {oL : Oper} (hL : ops[L]? = some oL) (h : waitsB md ops L = true) : ∀ listed : Array Bool, Closed md ops listed → (∀ e ∈ oL.after, Region.binds md e = true → listed.getD e.on false = true) → ∀ j : Nat, j < ops.size → j ≠ L → listed.getD j false = true := by
  intro listed hc ha j hj hne
  unfold waitsB at h
  have h1 := List.all_eq_true.1 h j (List.mem_range.2 hj)
  unfold reachB at h1
  rw [Bool.or_eq_true] at h1
  rcases h1 with h1 | h1
  · exact absurd (by simpa using h1 : L = j) (Ne.symm hne)
  · rw [hL] at h1
    obtain ⟨k, hk, h2⟩ := Array.any_eq_true.1 h1
    simp only [Bool.and_eq_true] at h2
    exact reach_listed hc _ _ _ (ha _ (Array.getElem_mem hk) h2.1) h2.2
theorem closed_none {md : Region.Mode} {ops : Array Oper} (n : Nat) : Closed md ops (Array.replicate n false) := by
  intro i o ho hi
  rw [Array.getD_eq_getD_getElem?, Array.getElem?_replicate] at hi
  split at hi <;> cases hi
/-- A region whose last operation waits for all others, the last one apart. -/
theorem wp_region_lastly {P : Program} {ops : Array Oper} {Q : Exit → Act → World → Prop} {S : World → Prop} {id : Nat} {a : Act} {w : World} (L : Nat) (oL : Oper) (hL : ops[L]? = some oL) (hg : oL.guard = none) (hd : oL.dst = none)
    (hm : P.follows .mixedOrders = true) (hB : idxB .any ops = true) (hW : waitsB .any ops L = true)
    (h : wpAnyH P .any (ops.setIfInBounds L { oL with op := .move (.const undef) }) (LastQ P ops Q L) S ops.size (Array.replicate ops.size false) a w.drew) : (Code.region id ops true).wp P Q a w :=
  wp_region_any hm (wpAny_last (oN := { oL with op := .move (.const undef) }) (c := undef) hL rfl rfl hg hd hd rfl (idxB_spec hB) (waitsB_spec hL hW) _ _ _ _ (closed_none _) (by simp) (by
    have : L < ops.size := (Array.getElem?_eq_some_iff.1 hL).1
    simp [Array.getD_eq_getD_getElem?, this]) (wpAny_of_held _ _ _ _ h))
/-- The last operation, behind all others. -/
theorem lastQ_op {P : Program} {ops : Array Oper} {Q : Exit → Act → World → Prop} {L : Nat} {a : Act} {w : World} (op0 : Op) (d0 : Option Tmp) (hi : (ops[L]?).map (fun o => (o.op, o.guard, o.dst)) = some (op0, none, d0))
    (h : ∀ o : Oper, o.op = op0 → o.dst = d0 → o.wp P a w (Q .normal) Q) : LastQ P ops Q L .normal a w := by
  obtain ⟨o, ho, he⟩ := Option.map_eq_some_iff.1 hi
  simp only [Prod.mk.injEq] at he
  obtain ⟨h1, h2, h3⟩ := he
  show wpOp P ops Q L (Q .normal) a w
  unfold wpOp
  simp only [ho]
  rw [if_pos (by simp [Region.wanted, h2])]
  exact .inl (h o h1 h3)
/-- An operation taken first. -/
theorem take_op {P : Program} {md : Region.Mode} {ops : Array Oper} {Q : Exit → Act → World → Prop} {S : World → Prop} {listed : Array Bool} {a : Act} {w : World} {fuel : Nat} (i : Nat) (op0 : Op) (d0 : Option Tmp) (hi : (ops[i]?).map (fun o => (o.op, o.guard, o.dst)) = some (op0, none, d0))
    (hs : Region.noSelect ops = true) (hf : Region.free md ops listed i = true) (hr : (Region.ready md ops listed).contains i = true) (hQ : ∀ c a a' w, Q (.panic c) a w → Q (.panic c) a' w)
    (v : Value) (hv : ∀ o : Oper, o.op = op0 → ∀ w, S w → (execOp a.eval o).run P w = .ok (.value v) w) (hS : S w) (h : wpAnyH P md ops Q S fuel (listed.setIfInBounds i true) (a.put d0 v) w) : wpAnyH P md ops Q S (fuel + 1) listed a w := by
  obtain ⟨o, ho, he⟩ := Option.map_eq_some_iff.1 hi
  simp only [Prod.mk.injEq] at he
  obtain ⟨h1, h2, h3⟩ := he
  refine wpAnyH_take (v := v) ho hs hf hr (fun c a w h => hQ c _ _ w h) (.inl ⟨by simp [Region.wanted, h2], hv o h1⟩) hS ?_
  rw [h3]; exact h
/-- The one operation that may come up, by a law of its own. -/
theorem ready_op {P : Program} {md : Region.Mode} {ops : Array Oper} {Q : Exit → Act → World → Prop} {S : World → Prop} {listed : Array Bool} {a : Act} {w : World} {fuel : Nat} (i : Nat) (op0 : Op) (d0 : Option Tmp) (hr : Region.ready md ops listed = [i]) (hi : (ops[i]?).map (fun o => (o.op, o.guard, o.dst)) = some (op0, none, d0))
    (h : ∀ o : Oper, o.op = op0 → o.guard = none → o.dst = d0 → o.wp P a w (fun a' w' => S w' ∧ wpAnyH P md ops Q S fuel (listed.setIfInBounds i true) a' w') Q) : wpAnyH P md ops Q S (fuel + 1) listed a w := by
  obtain ⟨o, ho, he⟩ := Option.map_eq_some_iff.1 hi
  simp only [Prod.mk.injEq] at he
  obtain ⟨h1, h2, h3⟩ := he
  refine wpAnyH_all hr (by simp) fun j hj => ?_
  have hji : j = i := by simpa using hj
  subst hji
  unfold wpOp
  simp only [ho]
  rw [if_pos (by simp [Region.wanted, h2])]
  exact .inl (h o h1 h2 h3)
/-! Frames that are not written out: an array of which some slots are known. -/
theorem wp_sym {P : Program} {c : Code} {Q : Exit → Act → World → Prop} {tm : Array Value} {ds : List Deferred} {w : World} (R : Array Value → Prop) (h : R tm) (k : ∀ T, R T → c.wp P Q ⟨T, ds⟩ w) : c.wp P Q ⟨tm, ds⟩ w := k tm h
/-- A slot's value. -/
def Sl (T : Array Value) (j : Nat) (x : Value) : Prop := T[j]? = some x
theorem Sl.get {T : Array Value} {j : Nat} {x : Value} (h : Sl T j x) : ∀ hj : j < T.size, T[j] = x := fun hj => by
  unfold Sl at h; rw [Array.getElem?_eq_getElem hj] at h; injection h
theorem Sl.set {T : Array Value} {i j : Nat} {v x : Value} (h : Sl T j x) (hne : i ≠ j) : Sl (T.setIfInBounds i v) j x := by
  unfold Sl at h ⊢; rw [Array.getElem?_setIfInBounds_ne hne]; exact h
theorem Sl.new {T : Array Value} {i : Nat} {v : Value} (h : i < T.size) : Sl (T.setIfInBounds i v) i v := by
  unfold Sl; simp [h]
theorem sz_set {T : Array Value} {n i : Nat} {v : Value} (h : T.size = n) : (T.setIfInBounds i v).size = n := by simp [h]
def condW (v : Value) (A B : Prop) : Prop := match v with | .bool b => (b = true → A) ∧ (b = false → B) | _ => False
theorem condW_t {A B : Prop} (h : A) : condW (.bool true) A B := ⟨fun _ => h, fun h => by cases h⟩
theorem condW_f {A B : Prop} (h : B) : condW (.bool false) A B := ⟨(fun h => by cases h), fun _ => h⟩
theorem wp_cond_w {P : Program} {Q : Exit → Act → World → Prop} {a : Act} {w : World} {x : Operand} {c1 c2 : Code} (h : condW (a.eval x) (c1.wp P Q a w) (c2.wp P Q a w)) : (Code.cond x c1 c2).wp P Q a w := by
  generalize hv : a.eval x = v at h
  cases v with
  | bool b =>
    obtain ⟨h1, h2⟩ := h
    exact wp_cond_split hv h1 h2
  | _ => exact h.elim
end Go.Proofs.YtkfdcbdlcipmfaaGreatFmt
/- Walks: printQuotedWithQuote: where a part of the text is printed as it is. -/
namespace Go.Proofs.YtkfdcbdlcipmfaaGreatFmt
open Go.RowKit Css Go.Stop
open Go.Extern.Stop Go.Extern
def ops45 : Array Oper := #[{ dst := some 186, op := Op.move (Operand.tmp 0), type := 171, pos := "css_printer.go:965", after := #[], guard := none }, { dst := some 187, op := Op.move (Operand.tmp 0), type := 171, pos := "css_printer.go:965", after := #[], guard := none }, { dst := some 188, op := Op.nilCheck (Operand.tmp 187), type := 0, pos := "css_printer.go:965", after := #[{ on := 1, ground := Ground.data }], guard := none }, { dst := some 189, op := Op.fieldAddr 160 (Operand.tmp 188) 3, type := 0, pos := "css_printer.go:965", after := #[{ on := 2, ground := Ground.data }], guard := none }, { dst := some 190, op := Op.load 117 (Operand.tmp 189), type := 117, pos := "css_printer.go:965", after := #[{ on := 3, ground := Ground.data }], guard := none }, { dst := some 191, op := Op.move (Operand.tmp 1), type := 9, pos := "css_printer.go:965", after := #[], guard := none }, { dst := some 192, op := Op.move (Operand.tmp 10), type := 3, pos := "css_printer.go:965", after := #[], guard := none }, { dst := some 193, op := Op.move (Operand.tmp 9), type := 3, pos := "css_printer.go:965", after := #[], guard := none }, { dst := some 194, op := Op.slice 9 (Operand.tmp 191) (some (Operand.tmp 192)) (some (Operand.tmp 193)) none, type := 9, pos := "css_printer.go:965", after := #[{ on := 5, ground := Ground.data }, { on := 6, ground := Ground.data }, { on := 7, ground := Ground.data }], guard := none }, { dst := some 195, op := Op.call { callee := Callee.builtin Builtin.append, args := #[Operand.tmp 190, Operand.tmp 194], argTypes := #[117, 9] }, type := 117, pos := "css_printer.go:965", after := #[{ on := 4, ground := Ground.data }, { on := 8, ground := Ground.data }], guard := none }, { dst := some 196, op := Op.nilCheck (Operand.tmp 186), type := 0, pos := "css_printer.go:965", after := #[{ on := 0, ground := Ground.data }, { on := 0, ground := Ground.phase }, { on := 1, ground := Ground.phase }, { on := 2, ground := Ground.phase }, { on := 3, ground := Ground.phase }, { on := 4, ground := Ground.phase }, { on := 5, ground := Ground.phase }, { on := 6, ground := Ground.phase }, { on := 7, ground := Ground.phase }, { on := 8, ground := Ground.phase }, { on := 9, ground := Ground.phase }], guard := none }, { dst := some 197, op := Op.fieldAddr 160 (Operand.tmp 196) 3, type := 0, pos := "css_printer.go:965", after := #[{ on := 10, ground := Ground.data }, { on := 0, ground := Ground.phase }, { on := 1, ground := Ground.phase }, { on := 2, ground := Ground.phase }, { on := 3, ground := Ground.phase }, { on := 4, ground := Ground.phase }, { on := 5, ground := Ground.phase }, { on := 6, ground := Ground.phase }, { on := 7, ground := Ground.phase }, { on := 8, ground := Ground.phase }, { on := 9, ground := Ground.phase }], guard := none }, { dst := none, op := Op.store 117 (Operand.tmp 197) (Operand.tmp 195), type := 0, pos := "css_printer.go:965", after := #[{ on := 11, ground := Ground.data }, { on := 9, ground := Ground.data }, { on := 9, ground := Ground.chain }, { on := 0, ground := Ground.phase }, { on := 1, ground := Ground.phase }, { on := 2, ground := Ground.phase }, { on := 3, ground := Ground.phase }, { on := 4, ground := Ground.phase }, { on := 5, ground := Ground.phase }, { on := 6, ground := Ground.phase }, { on := 7, ground := Ground.phase }, { on := 8, ground := Ground.phase }, { on := 9, ground := Ground.phase }], guard := none }]
theorem of_step {c : Prop} [Decidable c] {A E : Prop} (hc : c) (h : if c then A else E) : A := by rwa [if_pos hc] at h
set_option maxHeartbeats 1600000 in
set_option maxRecDepth 100000 in
theorem puts_region {B g : Nat} {mini asc : Bool} {bs : List UInt8} {v : Value} {w : World} (H : At B g mini asc bs v w) (s : ByteArray) (rs p : Nat) (h1 : rs ≤ p) (h2 : p ≤ s.size) (hz : bs.length + (s.extract rs p).size ≤ 140737488355328) (n : Nat) (hn : n = bs.length + (s.extract rs p).size)
    {Q : Exit → Act → World → Prop} {id : Nat} (T : Array Value) (ds : List Deferred) (hsz : T.size = 237) (s0 : Sl T 0 (.pointer (some ⟨g, 0, none⟩))) (s1 : Sl T 1 (.string s)) (s9 : Sl T 9 (.int .i64 (p : Int))) (s10 : Sl T 10 (.int .i64 (rs : Int)))
    (h : ∀ A cap W', At B g mini asc (bs ++ (s.extract rs p).data.toList) (.slice A n cap) W' → Ke B g w W' → Q .normal ⟨((((((((((((T.setIfInBounds 186 (.pointer (some ⟨g, 0, none⟩))).setIfInBounds 187 (.pointer (some ⟨g, 0, none⟩))).setIfInBounds 188 (.pointer (some ⟨g, 0, none⟩))).setIfInBounds 189 (.pointer (some ⟨g, 15, none⟩))).setIfInBounds 190 (v)).setIfInBounds 191 (.string s)).setIfInBounds 192 (.int .i64 (rs : Int))).setIfInBounds 193 (.int .i64 (p : Int))).setIfInBounds 194 (.string (s.extract rs p))).setIfInBounds 195 (.slice A n cap)).setIfInBounds 196 (.pointer (some ⟨g, 0, none⟩))).setIfInBounds 197 (.pointer (some ⟨g, 15, none⟩))), ds⟩ W') : (Code.region id ops45 true).wp Tryz.prog Q ⟨T, ds⟩ w := by
  have t0 := s0.get
  have t1 := s1.get
  have t9 := s9.get
  have t10 := s10.get
  have HH := Lib.hid h
  clear h
  have i0 : (rs : Int) ≤ (p : Int) := by omega
  have i1 : (p : Int) ≤ (s.size : Int) := by omega
  have i2 : (0 : Int) ≤ (rs : Int) := by omega
  refine wp_region_noPanic ?_
  refine wp_region_lastly (S := fun w' => w'.cell? ⟨g, 15, none⟩ = some v) 12 _ rfl rfl rfl (by kernel_rfl) (by kernel_rfl) (by kernel_rfl) ?_
  change wpAnyH Tryz.prog .any _ _ _ 13 _ _ w.drew
  have hS0 : (fun w' : World => w'.cell? ⟨g, 15, none⟩ = some v) w.drew := H.pr.css
  refine take_op 0 (Op.move (.tmp 0)) (some 186) (by kernel_rfl) (by kernel_rfl) (by kernel_rfl) (by kernel_rfl) (fun _ _ _ _ h => h) (.pointer (some ⟨g, 0, none⟩)) (fun o ho w' hw' => by unfold execOp; rw [ho]; simp [go_sem, hsz, t0, t1, t9, t10, hw', i0, i1, i2]) hS0 ?_
  refine take_op 1 (Op.move (.tmp 0)) (some 187) (by kernel_rfl) (by kernel_rfl) (by kernel_rfl) (by kernel_rfl) (fun _ _ _ _ h => h) (.pointer (some ⟨g, 0, none⟩)) (fun o ho w' hw' => by unfold execOp; rw [ho]; simp [go_sem, hsz, t0, t1, t9, t10, hw', i0, i1, i2]) hS0 ?_
  refine take_op 2 (Op.nilCheck (.tmp 187)) (some 188) (by kernel_rfl) (by kernel_rfl) (by kernel_rfl) (by kernel_rfl) (fun _ _ _ _ h => h) (.pointer (some ⟨g, 0, none⟩)) (fun o ho w' hw' => by unfold execOp; rw [ho]; simp [go_sem, hsz, t0, t1, t9, t10, hw', i0, i1, i2]) hS0 ?_
  refine take_op 3 (Op.fieldAddr 160 (.tmp 188) 3) (some 189) (by kernel_rfl) (by kernel_rfl) (by kernel_rfl) (by kernel_rfl) (fun _ _ _ _ h => h) (.pointer (some ⟨g, 15, none⟩)) (fun o ho w' hw' => by unfold execOp; rw [ho]; simp [go_sem, hsz, t0, t1, t9, t10, hw', i0, i1, i2]) hS0 ?_
  refine take_op 4 (Op.load 117 (.tmp 189)) (some 190) (by kernel_rfl) (by kernel_rfl) (by kernel_rfl) (by kernel_rfl) (fun _ _ _ _ h => h) (v) (fun o ho w' hw' => by unfold execOp; rw [ho]; simp [go_sem, hsz, t0, t1, t9, t10, hw', i0, i1, i2]) hS0 ?_
  refine take_op 5 (Op.move (.tmp 1)) (some 191) (by kernel_rfl) (by kernel_rfl) (by kernel_rfl) (by kernel_rfl) (fun _ _ _ _ h => h) (.string s) (fun o ho w' hw' => by unfold execOp; rw [ho]; simp [go_sem, hsz, t0, t1, t9, t10, hw', i0, i1, i2]) hS0 ?_
  refine take_op 6 (Op.move (.tmp 10)) (some 192) (by kernel_rfl) (by kernel_rfl) (by kernel_rfl) (by kernel_rfl) (fun _ _ _ _ h => h) (.int .i64 (rs : Int)) (fun o ho w' hw' => by unfold execOp; rw [ho]; simp [go_sem, hsz, t0, t1, t9, t10, hw', i0, i1, i2]) hS0 ?_
  refine take_op 7 (Op.move (.tmp 9)) (some 193) (by kernel_rfl) (by kernel_rfl) (by kernel_rfl) (by kernel_rfl) (fun _ _ _ _ h => h) (.int .i64 (p : Int)) (fun o ho w' hw' => by unfold execOp; rw [ho]; simp [go_sem, hsz, t0, t1, t9, t10, hw', i0, i1, i2]) hS0 ?_
  refine take_op 8 (Op.slice 9 (.tmp 191) (some (.tmp 192)) (some (.tmp 193)) none) (some 194) (by kernel_rfl) (by kernel_rfl) (by kernel_rfl) (by kernel_rfl) (fun _ _ _ _ h => h) (.string (s.extract rs p)) (fun o ho w' hw' => by unfold execOp; rw [ho]; simp [go_sem, hsz, t0, t1, t9, t10, hw', i0, i1, i2]) hS0 ?_
  refine ready_op 9 (.call { callee := .builtin .append, args := #[.tmp 190, .tmp 194], argTypes := #[117, 9] }) (some 195) (by kernel_rfl) (by kernel_rfl) fun o ho hg hd => ?_
  have hh := fun (a : Act) (K : Act → World → Prop) (h1 : a.eval (.tmp 190) = v) (h2 : a.eval (.tmp 194) = .string (s.extract rs p)) hK => of_step (E := True) (by simp [Region.wanted, hg]) (step_puts (ops := ops45) (a := a) (K := K) (Q := LastQ Tryz.prog ops45 (NoPanic Q) 12) hg _ _ ho H (s.extract rs p) h1 h2 n hn hz hK)
  refine hh _ _ (by simp [Act.eval, Act.put, hsz]) (by simp [Act.eval, Act.put, hsz]) ?_
  intro A4 cap4 w4 hp4 hat4 hke4
  have hc4 := hp4.css
  have hf4 := hp4.free
  refine ⟨hc4, ?_⟩
  rw [hd]
  refine next_op 10 (.nilCheck (.tmp 186)) (some 196) (by kernel_rfl) (by kernel_rfl) (.pointer (some ⟨g, 0, none⟩)) (fun o ho => by unfold execOp; rw [ho]; simp [go_sem, hsz]) hc4 ?_
  refine next_op 11 (.fieldAddr 160 (.tmp 196) 3) (some 197) (by kernel_rfl) (by kernel_rfl) (.pointer (some ⟨g, 15, none⟩)) (fun o ho => by unfold execOp; rw [ho]; simp [go_sem, hsz]) hc4 ?_
  refine last_val 12 (.move (.const undef)) none (by kernel_rfl) (by kernel_rfl) (by kernel_rfl) undef (fun o ho => by unfold execOp; rw [ho]; simp [go_sem]) hc4 ?_
  refine lastQ_op (.store 117 (.tmp 197) (.tmp 195)) none (by kernel_rfl) fun o ho hd => ?_
  unfold Oper.wp execOp
  rw [ho]
  simp [go_sem, hsz, hc4, hf4, hd]
  exact HH.out _ _ _ hat4 hke4
end Go.Proofs.YtkfdcbdlcipmfaaGreatFmt
