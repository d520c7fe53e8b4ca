/- Words for the walks: a drawing region whose last operation waits for all others. -/
import Derived.Orders
import Derived.OrdersHeld
import Derived.Deep.RegionHeld
import Derived.Test.YtkfdcbdlcipmfaaGreatFmtG16
import Derived.Laws.Tables
import Derived.Laws.Rows
import Derived.Test.YtkfdcbdlcipmfaaGreatFmtG05
import Derived.Test.YtkfdcbdlcipmfaaGreatFmtG04
import Derived.Test.YtkfdcbdlcipmfaaGreatFmtG12
set_option linter.unusedVariables false
set_option linter.unusedSimpArgs false
namespace Go.Proofs.YtkfdcbdlcipmfaaGreatFmt
section
variable {P : Program} {md : Region.Mode} {ops ops' : Array Oper} {Q : Exit → Act → World → Prop} {L : Nat}
def LastQ (P : Program) (ops : Array Oper) (Q : Exit → Act → World → Prop) (L : Nat) : Exit → Act → World → Prop
  | .normal, a, w => wpOp P ops Q L (Q .normal) a w
  | e, a, w => Q e a w
theorem oper_lastQ {o : Oper} {a : Act} {w : World} {K : Act → World → Prop} (h : o.wp P a w K (LastQ P ops Q L)) : o.wp P a w K Q := by
  unfold Oper.wp at *
  generalize (execOp a.eval o).run P w = r at *
  cases r with
  | ok n w' => cases n <;> simp only [Oper.upon] at h ⊢ <;> exact h
  | halt x w' => cases x <;> simp only [Oper.upon] at h ⊢ <;> exact h
theorem letsOut_lastQ (h : LetsOut (LastQ P ops Q L)) : LetsOut Q := h
theorem yielded_same (hd : ∀ j : Nat, (ops'[j]?).bind (·.dst) = (ops[j]?).bind (·.dst)) (t : Array Value) : yielded ops' t = yielded ops t := by
  funext j; unfold yielded; rw [hd j]
theorem ready_same (hs : ops'.size = ops.size) (ha : ∀ i : Nat, (ops'[i]?).map (·.after) = (ops[i]?).map (·.after)) (listed : Array Bool) : Region.ready md ops' listed = Region.ready md ops listed := by
  unfold Region.ready
  rw [hs]
  refine List.filter_congr fun i _ => ?_
  have := ha i
  cases h1 : ops'[i]? with
  | none => cases h2 : ops[i]? with
    | none => rfl
    | some o => rw [h1, h2] at this; cases this
  | some o' => cases h2 : ops[i]? with
    | none => rw [h1, h2] at this; cases this
    | some o =>
      rw [h1, h2] at this
      simp only [Option.map_some, Option.some.injEq] at this
      simp only [Option.map_some, this]
theorem ready_some (hidx : ∀ (i : Nat) (o : Oper), ops[i]? = some o → ∀ e ∈ o.after, Region.binds md e = true → e.on < i) (listed : Array Bool) : ∀ i : Nat, i < ops.size → listed.getD i true = false → Region.ready md ops listed ≠ [] := by
  intro i
  induction i using Nat.strongRecOn with
  | _ i ih =>
    intro hi hl h0
    by_cases hx : ∃ e ∈ (ops[i]).after, Region.binds md e = true ∧ listed.getD e.on false = false
    · obtain ⟨e, he, hb, hz⟩ := hx
      have hlt := hidx i ops[i] (Array.getElem?_eq_getElem hi) e he hb
      by_cases hin : e.on < listed.size
      · refine ih e.on hlt (by omega) ?_ h0
        rw [Array.getD_eq_getD_getElem?, Array.getElem?_eq_getElem hin] at hz ⊢
        exact hz
      · have : listed.getD i true = true := by
          rw [Array.getD_eq_getD_getElem?, Array.getElem?_eq_none (by omega)]; rfl
        rw [this] at hl; cases hl
    · have hm : i ∈ Region.ready md ops listed := by
        unfold Region.ready
        rw [List.mem_filter]
        refine ⟨List.mem_range.2 hi, ?_⟩
        rw [hl, Array.getElem?_eq_getElem hi]
        simp only [Bool.not_false, Bool.true_and, Option.map_some, Option.getD_some, Array.all_eq_true_iff_forall_mem]
        intro e he
        cases hb : Region.binds md e
        · rfl
        · cases hz : listed.getD e.on false
          · exact absurd ⟨e, he, hb, hz⟩ hx
          · rfl
      rw [h0] at hm; cases hm
theorem wpAny_nil {fuel : Nat} {listed : Array Bool} {a : Act} {w : World} (h0 : Region.ready md ops listed = []) (h : wpAny P md ops Q fuel listed a w) : Q .normal a w := by
  cases fuel with
  | zero => exact h.2
  | succ n => exact h.1 h0
theorem wpAny_of_nil {listed : Array Bool} {a : Act} {w : World} (h0 : Region.ready md ops listed = []) (h : Q .normal a w) : ∀ fuel, wpAny P md ops Q fuel listed a w
  | 0 => ⟨h0, h⟩
  | _ + 1 => ⟨fun _ => h, by rw [h0]; simp⟩
def Closed (md : Region.Mode) (ops : Array Oper) (listed : Array Bool) : Prop := ∀ (i : Nat) (o : Oper), ops[i]? = some o → listed.getD i false = true → ∀ e ∈ o.after, Region.binds md e = true → listed.getD e.on false = true
theorem ready_after {listed : Array Bool} {i : Nat} {o : Oper} (ho : ops[i]? = some o) (hi : i ∈ Region.ready md ops listed) : ∀ e ∈ o.after, Region.binds md e = true → listed.getD e.on false = true := by
  intro e he hb
  unfold Region.ready at hi
  rw [List.mem_filter, ho] at hi
  simp only [Option.map_some, Option.getD_some, Bool.and_eq_true, Array.all_eq_true_iff_forall_mem] at hi
  have h5 := hi.2.2 e he
  rw [hb] at h5
  simpa using h5
theorem getD_up {listed : Array Bool} {i j : Nat} (h : listed.getD j false = true) : (listed.setIfInBounds i true).getD j false = true := by
  rw [Array.getD_eq_getD_getElem?] at h ⊢
  rw [Array.getElem?_setIfInBounds]
  by_cases hij : i = j
  · subst hij
    rw [if_pos rfl]
    cases hx : listed[i]? with
    | none => rw [hx] at h; cases h
    | some b => have := (Array.getElem?_eq_some_iff.1 hx).1; simp [this]
  · rw [if_neg hij]; exact h
theorem Closed.step {listed : Array Bool} {i : Nat} (h : Closed md ops listed) (hi : i ∈ Region.ready md ops listed) : Closed md ops (listed.setIfInBounds i true) := by
  intro j o ho hj e he hb
  by_cases hij : j = i
  · subst hij; exact getD_up (ready_after ho hi e he hb)
  · refine getD_up (h j o ho ?_ e he hb)
    rw [Array.getD_eq_getD_getElem?, Array.getElem?_setIfInBounds, if_neg (Ne.symm hij), ← Array.getD_eq_getD_getElem?] at hj
    exact hj
theorem wpAny_last {oN : Oper} {oL : Oper} {c : Value} (hL : ops[L]? = some oL) (hop : ops' = ops.setIfInBounds L oN) (hN : oN.op = .move (.const c)) (hNg : oN.guard = none) (hNd : oN.dst = none) (hLd : oL.dst = none) (hNa : oN.after = oL.after)
    (hidx : ∀ (i : Nat) (o : Oper), ops[i]? = some o → ∀ e ∈ o.after, Region.binds md e = true → e.on < i)
    (hall : ∀ listed : Array Bool, Closed md ops listed → (∀ e ∈ oL.after, Region.binds md e = true → listed.getD e.on false = true) → ∀ j : Nat, j < ops.size → j ≠ L → listed.getD j false = true) :
    ∀ (fuel : Nat) (listed : Array Bool) (a : Act) (w : World), Closed md ops listed → listed.size = ops.size → listed.getD L true = false → wpAny P md ops' (LastQ P ops Q L) fuel listed a w → wpAny P md ops Q fuel listed a w := by
  have hLs : L < ops.size := (Array.getElem?_eq_some_iff.1 hL).1
  have hget : ∀ j : Nat, ops'[j]? = if j = L then some oN else ops[j]? := fun j => by
    rw [hop, Array.getElem?_setIfInBounds]
    by_cases h : j = L
    · subst h; simp [hLs]
    · simp [h, Ne.symm h]
  have hd : ∀ j : Nat, (ops'[j]?).bind (·.dst) = (ops[j]?).bind (·.dst) := fun j => by
    rw [hget j]; split
    · rename_i h; subst h; rw [hL]; simp [hNd, hLd]
    · rfl
  have ha : ∀ j : Nat, (ops'[j]?).map (·.after) = (ops[j]?).map (·.after) := fun j => by
    rw [hget j]; split
    · rename_i h; subst h; rw [hL]; simp [hNa]
    · rfl
  have hsz : ops'.size = ops.size := by rw [hop]; simp
  have hr := ready_same (md := md) hsz ha
  have hy := yielded_same hd
  intro fuel
  induction fuel with
  | zero =>
    intro listed a w hcl hs hl h
    exact absurd (by rw [← hr]; exact h.1) (ready_some hidx listed L hLs hl)
  | succ n ih =>
    intro listed a w hcl hs hl h
    refine ⟨fun h0 => absurd h0 (ready_some hidx listed L hLs hl), fun i hi => ?_⟩
    have h2 := h.2 i (by rw [hr]; exact hi)
    by_cases hiL : i = L
    · subst hiL
      have hnil : Region.ready md ops (listed.setIfInBounds i true) = [] := by
        unfold Region.ready
        rw [List.filter_eq_nil_iff]
        intro j hj
        rw [List.mem_range] at hj
        have hlj : (listed.setIfInBounds i true).getD j true = true := by
          rw [Array.getD_eq_getD_getElem?, Array.getElem?_setIfInBounds]
          by_cases hji : i = j
          · subst hji; rw [if_pos rfl]; split <;> rfl
          · rw [if_neg hji]
            have h5 := hall listed hcl (ready_after hL hi) j hj (Ne.symm hji)
            rw [Array.getD_eq_getD_getElem?] at h5
            cases h6 : listed[j]? with
            | none => rfl
            | some b => rw [h6] at h5; exact h5
        rw [hlj]; simp
      have h3 : wpAny P md ops' (LastQ P ops Q i) n (listed.setIfInBounds i true) a w := by
        unfold wpOp at h2
        rw [hget i, if_pos rfl] at h2
        simp only [Region.wanted, hNg, if_true] at h2
        rcases h2 with h2 | ⟨h2, _⟩
        · unfold Oper.wp execOp at h2
          simp only [hN] at h2
          have e : a.put oN.dst c = a := by rw [hNd]; rfl
          have h5 : wpAny P md ops' (LastQ P ops Q i) n (listed.setIfInBounds i true) (a.put oN.dst c) w := h2
          rw [e] at h5; exact h5
        · exfalso
          have h5 := h2.1
          unfold execOp at h5
          simp only [hN] at h5
          exact absurd (show noRoomEvent ∈ (#[] : Array Event) from h5) (by simp)
      have h4 : wpOp P ops Q i (Q .normal) a w := wpAny_nil (by rw [hr]; exact hnil) h3
      exact wpOp_mono (fun a' w' hq => wpAny_of_nil hnil hq n) h4
    · have hl' : (listed.setIfInBounds i true).getD L true = false := by
        rw [Array.getD_eq_getD_getElem?, Array.getElem?_setIfInBounds, if_neg hiL, ← Array.getD_eq_getD_getElem?]; exact hl
      have h3 : wpOp P ops Q i (wpAny P md ops' (LastQ P ops Q L) n (listed.setIfInBounds i true)) a w := by
        unfold wpOp at h2 ⊢
        rw [hget i, if_neg hiL] at h2
        cases ho : ops[i]? with
        | none => rw [ho] at h2; exact h2
        | some o =>
          rw [ho] at h2
          simp only [] at h2 ⊢
          rw [hy] at h2
          split
          · rename_i hw
            rw [if_pos hw] at h2
            exact h2.imp oper_lastQ fun x => ⟨x.1, letsOut_lastQ x.2⟩
          · rename_i hw
            rw [if_neg hw] at h2
            exact h2
      exact wpOp_mono (fun a' w' hq => ih _ a' w' (hcl.step hi) (by simpa using hs) hl' hq) h3
end
theorem last_op {P : Program} {md : Region.Mode} {ops : Array Oper} {Q : Exit → Act → World → Prop} {S : World → Prop} {listed : Array Bool} {a : Act} {w : World} (i : Nat) (op0 : Op) (d0 : Option Tmp) (hr : Region.ready md ops listed = [i]) (hi : (ops[i]?).map (fun o => (o.op, o.guard, o.dst)) = some (op0, none, d0))
    (hd : Region.ready md ops (listed.setIfInBounds i true) = []) (h : ∀ o : Oper, o.op = op0 → o.dst = d0 → o.wp P a w (fun a' w' => S w' ∧ Q .normal a' w') Q) : wpAnyH P md ops Q S 1 listed a w := by
  obtain ⟨o, ho, he⟩ := Option.map_eq_some_iff.1 hi
  simp only [Prod.mk.injEq] at he
  obtain ⟨h1, h2, h3⟩ := he
  refine wpAnyH_all hr (by simp) fun j hj => ?_
  have hji : j = i := by simpa using hj
  subst hji
  refine wpOp_mono (K := fun a' w' => S w' ∧ Q .normal a' w') (fun a' w' h => ⟨h.1, hd, h.2⟩) ?_
  unfold wpOp
  simp only [ho]
  rw [if_pos (by simp [Region.wanted, h2])]
  exact .inl (h o h1 h3)
theorem ite_of {c : Prop} [Decidable c] {A B : Prop} (h : c) (a : A) : if c then A else B := by rw [if_pos h]; exact a
theorem next_op {P : Program} {md : Region.Mode} {ops : Array Oper} {Q : Exit → Act → World → Prop} {S : World → Prop} {listed : Array Bool} {a : Act} {w : World} {fuel : Nat} (i : Nat) (op0 : Op) (d0 : Option Tmp) (hr : Region.ready md ops listed = [i]) (hi : (ops[i]?).map (fun o => (o.op, o.guard, o.dst)) = some (op0, none, d0))
    (v : Value) (hv : ∀ o : Oper, o.op = op0 → (execOp a.eval o).run P w = .ok (.value v) w) (hS : S w) (h : wpAnyH P md ops Q S fuel (listed.setIfInBounds i true) (a.put d0 v) w) : wpAnyH P md ops Q S (fuel + 1) listed a w := by
  obtain ⟨o, ho, he⟩ := Option.map_eq_some_iff.1 hi
  simp only [Prod.mk.injEq] at he
  obtain ⟨h1, h2, h3⟩ := he
  refine wpAnyH_all hr (by simp) fun j hj => ?_
  have hji : j = i := by simpa using hj
  subst hji
  unfold wpOp
  simp only [ho]
  rw [if_pos (by simp [Region.wanted, h2])]
  refine .inl ?_
  unfold Oper.wp
  rw [hv o h1]
  simp only [Oper.upon]
  rw [h3]
  exact ⟨hS, h⟩
theorem last_val {P : Program} {md : Region.Mode} {ops : Array Oper} {Q : Exit → Act → World → Prop} {S : World → Prop} {listed : Array Bool} {a : Act} {w : World} (i : Nat) (op0 : Op) (d0 : Option Tmp) (hr : Region.ready md ops listed = [i]) (hi : (ops[i]?).map (fun o => (o.op, o.guard, o.dst)) = some (op0, none, d0))
    (hd : Region.ready md ops (listed.setIfInBounds i true) = []) (v : Value) (hv : ∀ o : Oper, o.op = op0 → (execOp a.eval o).run P w = .ok (.value v) w) (hS : S w) (h : Q .normal (a.put d0 v) w) : wpAnyH P md ops Q S 1 listed a w :=
  next_op (fuel := 0) i op0 d0 hr hi v hv hS ⟨hd, h⟩
def idxB (md : Region.Mode) (ops : Array Oper) : Bool := (List.range ops.size).all fun i => match ops[i]? with | some o => o.after.all fun e => !Region.binds md e || decide (e.on < i) | none => true
def reachB (md : Region.Mode) (ops : Array Oper) : Nat → Nat → Nat → Bool
  | 0, i, j => decide (i = j)
  | f + 1, i, j => decide (i = j) || (match ops[i]? with | some o => o.after.any (fun e => Region.binds md e && reachB md ops f e.on j) | none => false)
def waitsB (md : Region.Mode) (ops : Array Oper) (L : Nat) : Bool := (List.range ops.size).all fun j => reachB md ops 4 L j
theorem idxB_spec {md : Region.Mode} {ops : Array Oper} (h : idxB md ops = true) : ∀ (i : Nat) (o : Oper), ops[i]? = some o → ∀ e ∈ o.after, Region.binds md e = true → e.on < i := by
  intro i o ho e he hb
  unfold idxB at h
  have hi : i < ops.size := (Array.getElem?_eq_some_iff.1 ho).1
  have h1 := List.all_eq_true.1 h i (List.mem_range.2 hi)
  rw [ho] at h1
  have h2 := (Array.all_eq_true_iff_forall_mem.1 h1) e he
  rw [hb] at h2
  simpa using h2
theorem reach_listed {md : Region.Mode} {ops : Array Oper} {listed : Array Bool} (hc : Closed md ops listed) : ∀ (f i j : Nat), listed.getD i false = true → reachB md ops f i j = true → listed.getD j false = true := by
  intro f
  induction f with
  | zero =>
    intro i j hi h
    unfold reachB at h
    have : i = j := by simpa using h
    subst this; exact hi
  | succ f ih =>
    intro i j hi h
    unfold reachB at h
    rw [Bool.or_eq_true] at h
    rcases h with h | h
    · have : i = j := by simpa using h
      subst this; exact hi
    · cases ho : ops[i]? with
      | none => rw [ho] at h; cases h
      | some o =>
        rw [ho] at h
        obtain ⟨k, hk, h2⟩ := Array.any_eq_true.1 h
        simp only [Bool.and_eq_true] at h2
        exact ih _ j (hc i o ho hi _ (Array.getElem_mem hk) h2.1) h2.2
theorem waitsB_spec {md : Region.Mode} {ops : Array Oper} {L : Nat} {oL : Oper} (hL : ops[L]? = some oL) (h : waitsB md ops L = true) : ∀ listed : Array Bool, Closed md ops listed → (∀ e ∈ oL.after, Region.binds md e = true → listed.getD e.on false = true) → ∀ j : Nat, j < ops.size → j ≠ L → listed.getD j false = true := by
  intro listed hc ha j hj hne
  unfold waitsB at h
  have h1 := List.all_eq_true.1 h j (List.mem_range.2 hj)
  unfold reachB at h1
  rw [Bool.or_eq_true] at h1
  rcases h1 with h1 | h1
  · exact absurd (by simpa using h1 : L = j) (Ne.symm hne)
  · rw [hL] at h1
    obtain ⟨k, hk, h2⟩ := Array.any_eq_true.1 h1
    simp only [Bool.and_eq_true] at h2
    exact reach_listed hc _ _ _ (ha _ (Array.getElem_mem hk) h2.1) h2.2
theorem closed_none {md : Region.Mode} {ops : Array Oper} (n : Nat) : Closed md ops (Array.replicate n false) := by
  intro i o ho hi
  rw [Array.getD_eq_getD_getElem?, Array.getElem?_replicate] at hi
  split at hi <;> cases hi
theorem wp_region_lastly {P : Program} {ops : Array Oper} {Q : Exit → Act → World → Prop} {S : World → Prop} {id : Nat} {a : Act} {w : World} (L : Nat) (oL : Oper) (hL : ops[L]? = some oL) (hg : oL.guard = none) (hd : oL.dst = none)
    (hm : P.follows .mixedOrders = true) (hB : idxB .any ops = true) (hW : waitsB .any ops L = true)
    (h : wpAnyH P .any (ops.setIfInBounds L { oL with op := .move (.const undef) }) (LastQ P ops Q L) S ops.size (Array.replicate ops.size false) a w.drew) : (Code.region id ops true).wp P Q a w :=
  wp_region_any hm (wpAny_last (oN := { oL with op := .move (.const undef) }) (c := undef) hL rfl rfl hg hd hd rfl (idxB_spec hB) (waitsB_spec hL hW) _ _ _ _ (closed_none _) (by simp) (by
    have : L < ops.size := (Array.getElem?_eq_some_iff.1 hL).1
    simp [Array.getD_eq_getD_getElem?, this]) (wpAny_of_held _ _ _ _ h))
theorem lastQ_op {P : Program} {ops : Array Oper} {Q : Exit → Act → World → Prop} {L : Nat} {a : Act} {w : World} (op0 : Op) (d0 : Option Tmp) (hi : (ops[L]?).map (fun o => (o.op, o.guard, o.dst)) = some (op0, none, d0))
    (h : ∀ o : Oper, o.op = op0 → o.dst = d0 → o.wp P a w (Q .normal) Q) : LastQ P ops Q L .normal a w := by
  obtain ⟨o, ho, he⟩ := Option.map_eq_some_iff.1 hi
  simp only [Prod.mk.injEq] at he
  obtain ⟨h1, h2, h3⟩ := he
  show wpOp P ops Q L (Q .normal) a w
  unfold wpOp
  simp only [ho]
  rw [if_pos (by simp [Region.wanted, h2])]
  exact .inl (h o h1 h3)
theorem take_op {P : Program} {md : Region.Mode} {ops : Array Oper} {Q : Exit → Act → World → Prop} {S : World → Prop} {listed : Array Bool} {a : Act} {w : World} {fuel : Nat} (i : Nat) (op0 : Op) (d0 : Option Tmp) (hi : (ops[i]?).map (fun o => (o.op, o.guard, o.dst)) = some (op0, none, d0))
    (hs : Region.noSelect ops = true) (hf : Region.free md ops listed i = true) (hr : (Region.ready md ops listed).contains i = true) (hQ : ∀ c a a' w, Q (.panic c) a w → Q (.panic c) a' w)
    (v : Value) (hv : ∀ o : Oper, o.op = op0 → ∀ w, S w → (execOp a.eval o).run P w = .ok (.value v) w) (hS : S w) (h : wpAnyH P md ops Q S fuel (listed.setIfInBounds i true) (a.put d0 v) w) : wpAnyH P md ops Q S (fuel + 1) listed a w := by
  obtain ⟨o, ho, he⟩ := Option.map_eq_some_iff.1 hi
  simp only [Prod.mk.injEq] at he
  obtain ⟨h1, h2, h3⟩ := he
  refine wpAnyH_take (v := v) ho hs hf hr (fun c a w h => hQ c _ _ w h) (.inl ⟨by simp [Region.wanted, h2], hv o h1⟩) hS ?_
  rw [h3]; exact h
theorem ready_op {P : Program} {md : Region.Mode} {ops : Array Oper} {Q : Exit → Act → World → Prop} {S : World → Prop} {listed : Array Bool} {a : Act} {w : World} {fuel : Nat} (i : Nat) (op0 : Op) (d0 : Option Tmp) (hr : Region.ready md ops listed = [i]) (hi : (ops[i]?).map (fun o => (o.op, o.guard, o.dst)) = some (op0, none, d0))
    (h : ∀ o : Oper, o.op = op0 → o.guard = none → o.dst = d0 → o.wp P a w (fun a' w' => S w' ∧ wpAnyH P md ops Q S fuel (listed.setIfInBounds i true) a' w') Q) : wpAnyH P md ops Q S (fuel + 1) listed a w := by
  obtain ⟨o, ho, he⟩ := Option.map_eq_some_iff.1 hi
  simp only [Prod.mk.injEq] at he
  obtain ⟨h1, h2, h3⟩ := he
  refine wpAnyH_all hr (by simp) fun j hj => ?_
  have hji : j = i := by simpa using hj
  subst hji
  unfold wpOp
  simp only [ho]
  rw [if_pos (by simp [Region.wanted, h2])]
  exact .inl (h o h1 h2 h3)
theorem wp_sym {P : Program} {c : Code} {Q : Exit → Act → World → Prop} {tm : Array Value} {ds : List Deferred} {w : World} (R : Array Value → Prop) (h : R tm) (k : ∀ T, R T → c.wp P Q ⟨T, ds⟩ w) : c.wp P Q ⟨tm, ds⟩ w := k tm h
def Sl (T : Array Value) (j : Nat) (x : Value) : Prop := T[j]? = some x
theorem Sl.get {T : Array Value} {j : Nat} {x : Value} (h : Sl T j x) : ∀ hj : j < T.size, T[j] = x := fun hj => by
  unfold Sl at h; rw [Array.getElem?_eq_getElem hj] at h; injection h
theorem Sl.set {T : Array Value} {i j : Nat} {v x : Value} (h : Sl T j x) (hne : i ≠ j) : Sl (T.setIfInBounds i v) j x := by
  unfold Sl at h ⊢; rw [Array.getElem?_setIfInBounds_ne hne]; exact h
theorem Sl.new {T : Array Value} {i : Nat} {v : Value} (h : i < T.size) : Sl (T.setIfInBounds i v) i v := by
  unfold Sl; simp [h]
theorem sz_set {T : Array Value} {n i : Nat} {v : Value} (h : T.size = n) : (T.setIfInBounds i v).size = n := by simp [h]
def condW (v : Value) (A B : Prop) : Prop := match v with | .bool b => (b = true → A) ∧ (b = false → B) | _ => False
theorem condW_t {A B : Prop} (h : A) : condW (.bool true) A B := ⟨fun _ => h, fun h => by cases h⟩
theorem condW_f {A B : Prop} (h : B) : condW (.bool false) A B := ⟨(fun h => by cases h), fun _ => h⟩
theorem wp_cond_w {P : Program} {Q : Exit → Act → World → Prop} {a : Act} {w : World} {x : Operand} {c1 c2 : Code} (h : condW (a.eval x) (c1.wp P Q a w) (c2.wp P Q a w)) : (Code.cond x c1 c2).wp P Q a w := by
  generalize hv : a.eval x = v at h
  cases v with
  | bool b =>
    obtain ⟨h1, h2⟩ := h
    exact wp_cond_split hv h1 h2
  | _ => exact h.elim
end Go.Proofs.YtkfdcbdlcipmfaaGreatFmt
namespace Go.Proofs.YtkfdcbdlcipmfaaGreatFmt
open Go.RowKit Css
structure NlOk (nl : List Ch) : Prop where
  is : nl = [] ∨ ∃ w, Blank w ∧ nl = [⟨none, w⟩]
  size : (enc (flat nl)).length ≤ 32
theorem NlOk.nil : NlOk [] := ⟨.inl rfl, by decide⟩
theorem Pre.openedN {asc has : Bool} {ts : List T} {i : Nat} {pre ws nl kc : List Ch} {t : T} {out : List Int} (h : Pre asc ts i has pre) (hd : ts.drop i = t :: ts.drop (i + 1)) (hw : WsOk has ws) (hn : NlOk nl) (ho : opens t.kind)
    (hout : Own asc (t.after || headBefore (ts.drop (i + 1))) t out) (hs : (enc out).length ≤ 16 * t.text.length + 8) (hk : Prints asc t.kids (headBefore t.kids) kc) (hks : (enc (flat kc)).length ≤ cost t.kids + 1) :
    Pre asc ts (i + 1) (t.after || headBefore (ts.drop (i + 1))) (pre ++ (ws ++ ⟨some (tkOf t), out⟩ :: (nl ++ (kc ++ [⟨some ⟨closeKind t.kind, 0, []⟩, [closer t.kind]⟩])))) := by
  refine ⟨fun l hl => ?_, ?_⟩
  · have h1 := Prints.opened t (ts.drop (i + 1)) has ws nl out kc l hw.yes hw.no ho hout hn.is hk hl
    rw [← hd] at h1
    have := h.more _ h1
    simpa using this
  · have h1 := h.size
    have h2 := hw.size
    have h3 := wd_pos (closer t.kind)
    have h4 := hn.size
    rw [hd, cost_cons] at h1
    simp only [flat_append, flat_cons, flat_nil, List.append_nil, enc_append, List.length_append, enc_length_cons]
    have e : (enc ([] : List Int)).length = 0 := rfl
    omega
def lineC (m : Nat) : List Int := 10 :: List.replicate (2 * m) 32
theorem enc_rep (n : Nat) : enc (List.replicate n 32) = List.replicate n 32 := by
  induction n with
  | zero => rfl
  | succ n ih => rw [List.replicate_succ, enc_cons, ih]; rfl
theorem enc_line (m : Nat) : enc (lineC m) = [10] ++ List.replicate (2 * m) 32 := by
  unfold lineC; rw [enc_cons, enc_rep]; rfl
theorem blank_line (m : Nat) : Blank (lineC m) := ⟨by simp [lineC], by
  intro c hc
  simp only [lineC, List.mem_cons, List.mem_replicate] at hc
  omega⟩
theorem line_size {m : Nat} (h : m ≤ 15) : (enc (flat [(⟨none, lineC m⟩ : Ch)])).length ≤ 32 := by
  rw [flat_cons, flat_nil, List.append_nil, enc_line, List.length_append, List.length_replicate]; simp; omega
theorem wsOk_line {m : Nat} (h : m ≤ 15) : WsOk true [⟨none, lineC m⟩] := ⟨fun _ => ⟨_, blank_line m, rfl⟩, fun h => (by cases h), line_size h⟩
theorem nlOk_line {m : Nat} (h : m ≤ 15) : NlOk [⟨none, lineC m⟩] := ⟨.inr ⟨_, blank_line m, rfl⟩, line_size h⟩
theorem set_row3 {w : World} {b : Nat} {x y z : Value} {ty : TypeId} (u : Value) (h : w.heap[b]? = some (.cells #[x, y, z] ty (0, 0))) : (w.setCell ⟨b, 0, none⟩ u).heap[b]? = some (.cells #[u, y, z] ty (0, 0)) := by
  rw [setCell_eq_setRow w b 0 _ ty (0, 0) u h]
  exact setRow_heap w b _ _ ty (0, 0) h
theorem set_keep {w : World} {b o : Nat} (u : Value) {k : Nat} (h : k ≠ b) : (w.setCell ⟨b, o, none⟩ u).heap[k]? = w.heap[k]? := Below.heap_setCell _ _ _ _ h
theorem put_set {B g : Nat} {mini asc : Bool} {bs : List UInt8} {w wx : World} (h : Put B g mini asc bs w wx) {b o : Nat} {cs : Array Value} {ty : TypeId} (u : Value) (hw : w.heap.size ≤ b) (hB : B ≤ b) (hrow : wx.heap[b]? = some (.cells cs ty (0, 0))) (hT : ty ≠ 5) (hg : b ≠ g) :
    Put B g mini asc bs w (wx.setCell ⟨b, o, none⟩ u) := by
  have hsz : (wx.setCell ⟨b, o, none⟩ u).heap.size = wx.heap.size := by simp [World.setCell]
  refine ⟨⟨?_, by rw [hsz]; exact h.st.base⟩, ⟨h.ke.os, h.ke.tape, h.ke.output, by rw [hsz]; exact h.ke.size, fun i hi => ?_, fun i hi h1 h2 => ?_⟩⟩
  · obtain ⟨v, hp, ho⟩ := h.st.out
    refine ⟨v, hp.same (set_keep u (Ne.symm hg)), own_keep ho fun q hq => set_keep u ?_⟩
    rintro rfl
    have h1 := (own_lt ho hq).2.2
    rw [hrow] at h1
    obtain ⟨cs', fr, e⟩ := h1
    injection e with e
    injection e with _ e _
    exact hT e
  · rw [set_keep u (by omega)]; exact h.ke.low i hi
  · rw [set_keep u (by omega)]; exact h.ke.block i hi h1 h2
theorem sz_lt {T : Array Value} {n i : Nat} (h : T.size = n) (hi : i < n := by decide) : i < T.size := by omega
theorem kp {T : Array Value} {j : Nat} {x : Value} (h : Sl T j x := by (repeat (with_reducible refine Sl.set ?_ (by decide))); exact Hid.out (by assumption)) : Sl T j x := h
theorem nw {T : Array Value} {j : Nat} {x : Value} (h : Sl T j x := by (repeat (with_reducible refine Sl.set ?_ (by decide))); exact Sl.new (by (try simp only [Array.size_setIfInBounds]); exact sz_lt (by assumption))) : Sl T j x := h
theorem zs {T : Array Value} {n : Nat} (h : T.size = n := by (repeat (with_reducible refine sz_set ?_)); assumption) : T.size = n := h
end Go.Proofs.YtkfdcbdlcipmfaaGreatFmt
namespace Go.Proofs.YtkfdcbdlcipmfaaGreatFmt
open Go.RowKit Css
variable {F : Go.Stop.Interp} {W0 : World}
abbrev tkA (px : Option Addr) (s : ByteArray) (u' k ws : Int) : Array Value := #[.pointer px, .string s, .int .i32 0, .int .u32 0, .int .u16 u', .int .u8 k, .int .u8 ws]
def RetPer (w : World) (e : Ending) (w' : World) : Prop := ∃ p : Nat, p ≤ 255 ∧ e = .returned (.int .u8 (p : Int)) ∧ Below w.heap.size w w'
theorem RetPer.mk' {p : Nat} {w w' : World} {x : Int} (hx : x = (p : Int)) (h : p ≤ 255) (hb : Below w.heap.size w w') : RetPer w (.returned (.int .u8 x)) w' := ⟨p, h, by rw [hx], hb⟩
set_option maxHeartbeats 3200000 in
set_option maxRecDepth 100000 in
theorem period_no (px : Option Addr) (s : ByteArray) (u' k ws : Int) (hk : (k == 27) = false) (w : World) : Calls Tryz.prog 109 #[.agg (tkA px s u' k ws)] w (RetPer w) := by
  have HB := Lib.hid (box_below (.cells (tkA px s u' k ws) 105) w)
  go_enter Tryz.func109, Tryz.ntmps109
  go_wp2_with fail
  go_ret
  exact RetPer.mk' (p := 0) rfl (by decide) HB.out
set_option maxHeartbeats 3200000 in
set_option maxRecDepth 100000 in
theorem period_func (p : Nat) (s : ByteArray) (hs : s.size ≤ 2147483647) (u' ws : Int) (v : Value) (kids : List T) (hl : kids.length ≤ 16384) (S : Nat → Prop) (w : World) (hE : Env F W0 w) (hp : w.cell? ⟨p, 0, none⟩ = some v) (hS : ∀ b, S b → b < w.heap.size) (ht : TksAt w S v kids) :
    Calls Tryz.prog 109 #[.agg (tkA (some ⟨p, 0, none⟩) s u' 27 ws)] w (RetPer w) := by
  have HB := Lib.hid (box_below (.cells (tkA (some ⟨p, 0, none⟩) s u' 27 ws) 105) w)
  have hbox : (w.alloc (.cells (tkA (some ⟨p, 0, none⟩) s u' 27 ws) 105)).heap[w.heap.size]? = some (.cells (tkA (some ⟨p, 0, none⟩) s u' 27 ws) 105 (0, 0)) := heap_alloc_new w _
  have hc := below_cell HB.out hp
  obtain ⟨A, c, hv, hA⟩ := ht
  subst hv
  have HA := Lib.hid hA
  have HE := Lib.hid hE
  have HSS := Lib.hid hS
  have HS : Hid (s.size < 35184372088832) := by show _ < _; omega
  clear hE hA hS hp hs
  go_enter Tryz.func109, Tryz.ntmps109
  go_upto_region 1 with fail
  change Code.wp _ _ _ _ (w.alloc (.cells (tkA (some ⟨p, 0, none⟩) s u' 27 ws) 105))
  generalize hW : w.alloc (.cells (tkA (some ⟨p, 0, none⟩) s u' 27 ws) 105) = W at HB hbox hc ⊢
  have HBOX := Lib.hid hbox
  have e0 := cell_blk hbox 0
  have e1 := cell_blk hbox 1
  have e5 := cell_blk hbox 5
  generalize hn : w.heap.size = n0 at HBOX e0 e1 e5 ⊢
  clear hbox hW
  go_upto_region 4 with fail
  go_loopg [3, 5, 14] kids.length (fun k p3 p5 p14 wr => ∃ (i cnt : Nat), p14 = .int .i64 i ∧ i + k = kids.length ∧ p3 = .int .i64 cnt ∧ cnt ≤ i ∧ Hid (Below W.heap.size W wr))
  case atStart => exact ⟨0, 0, rfl, by omega, rfl, by omega, Below.refl _ _⟩
  case round =>
    obtain ⟨i, cnt, rfl, hik, rfl, hcnt, HR⟩ := hrel
    have hi0 : (0 : Int) ≤ (i : Int) := by omega
    have hi1 : (i : Int) ≤ 16384 := by omega
    have hn0 : (0 : Int) ≤ (cnt : Int) := by omega
    have hn1 : (cnt : Int) ≤ 16384 := by omega
    by_cases hlt : i < kids.length
    · have hlti : (i : Int) < (kids.length : Int) := by omega
      obtain ⟨q, rfl, hq, hin⟩ := HA.out (by intro e; subst e; simp at hlt)
      obtain ⟨t, hti⟩ : ∃ t, kids[i]? = some t := ⟨kids[i], List.getElem?_eq_getElem hlt⟩
      obtain ⟨ptr, u2, htk⟩ := hin.get hti
      obtain ⟨px, rfl⟩ : ∃ px, ptr = .pointer px := by
        by_cases ho : opens t.kind
        · obtain ⟨p2, _, e, _⟩ := htk.kids ho; exact ⟨_, e⟩
        · exact ⟨_, htk.leaf ho⟩
      have hqw : q < w.heap.size := HSS.out q hq
      have hcc : ∀ j x, (ctCells (.pointer px) t.text u2 t.kind t.before t.after)[j]? = some x → wr.cell? ⟨q, i * 7 + j, none⟩ = some x := fun j x hx => below_cell HR.out (below_cell HB.out (htk.cells j x hx))
      have a0 : wr.cell? ⟨q, i * 7, none⟩ = some (.pointer px) := hcc 0 _ rfl
      have a1 : wr.cell? ⟨q, i * 7 + 1, none⟩ = some (.string ⟨⟨enc t.text⟩⟩) := hcc 1 _ rfl
      have a2 : wr.cell? ⟨q, i * 7 + 2, none⟩ = some (.int .i32 0) := hcc 2 _ rfl
      have a3 : wr.cell? ⟨q, i * 7 + 3, none⟩ = some (.int .u32 0) := hcc 3 _ rfl
      have a4 : wr.cell? ⟨q, i * 7 + 4, none⟩ = some (.int .u16 u2) := hcc 4 _ rfl
      have a5 : wr.cell? ⟨q, i * 7 + 5, none⟩ = some (.int .u8 t.kind) := hcc 5 _ rfl
      have a6 : wr.cell? ⟨q, i * 7 + 6, none⟩ = some (.int .u8 (wsV t.before t.after)) := hcc 6 _ rfl
      have HBX := Lib.hid (below_then HR.out (box_below (.cells #[.pointer px, .string ⟨⟨enc t.text⟩⟩, .int .i32 0, .int .u32 0, .int .u16 u2, .int .u8 t.kind, .int .u8 (wsV t.before t.after)] 105) wr))
      clear hcc htk hin hti
      cases hk : (t.kind == 10)
      · go_wp2_with fail
        go_roundg (kids.length - (i + 1))
        case measure => omega
        case rel => exact ⟨i + 1, cnt, by go_num, by omega, rfl, by omega, HBX.out⟩
      · go_wp2_with fail
        go_roundg (kids.length - (i + 1))
        case measure => omega
        case rel => exact ⟨i + 1, cnt + 1, by go_num, by omega, by go_num, by omega, HBX.out⟩
    · have hle : (kids.length : Int) ≤ (i : Int) := by omega
      have HEW := Lib.hid ((HE.out.below HB.out).below HR.out)
      have r1 := below_cell HR.out e1
      go_wp2_with (go_at_call 136; go_must (refine (Tryz.strings_ToLower_any s _ HS.out HEW.out.case_ HEW.out.tabs).mono ?_; rintro e w2 ⟨rfl, hb⟩; have HB2 := Lib.hid (below_then HB.out (below_then HR.out hb)); clear hb))
      all_goals
        go_ret
        first
          | exact RetPer.mk' (p := 0) rfl (by decide) HB2.out
          | exact RetPer.mk' (p := 1) rfl (by decide) HB2.out
          | exact RetPer.mk' (p := 2) rfl (by decide) HB2.out
          | exact RetPer.mk' (p := 4) rfl (by decide) HB2.out
end Go.Proofs.YtkfdcbdlcipmfaaGreatFmt
namespace Go.Proofs.YtkfdcbdlcipmfaaGreatFmt
open Go.RowKit Css Go.Stop
open Go.Extern.Stop Go.Extern
variable {F : Go.Stop.Interp} {W0 w w' : World}
set_option maxHeartbeats 4000000 in
set_option maxRecDepth 100000 in
theorem bestQuote_any (cs : List Int) (hv : AllV cs) (s : ByteArray) (h : s.data.toList = enc cs) (w : World) :
    Calls Tryz.prog 104 #[.string s, .bool false] w fun e w' => (∃ q : Int, (q = 34 ∨ q = 39) ∧ e = .returned (.int .u8 q)) ∧ Below w.heap.size w w' := by
  have HH := Lib.hid h
  have HV := Lib.hid hv
  have HIT0 : Hid ((w.iter s 0).heap[w.heap.size]? = some (.stringIter s 0)) := World.iter_heap w s 0
  have HK0 : Hid (Below w.heap.size w (w.iter s 0)) := (Below.refl _ _).alloc (Nat.le_refl _) _
  clear h hv
  go_enter Tryz.func104, Tryz.ntmps104
  go_wp2_with fail
  go_loopg [5, 6, 7] cs.length (fun k p5 p6 p7 wr => ∃ (A R : List Int) (x5 x6 x7 : Int), p5 = .int .i64 x5 ∧ p6 = .int .i64 x6 ∧ p7 = .int .i64 x7 ∧ Hid (A ++ R = cs) ∧ R.length = k ∧ Hid (wr.heap[w.heap.size]? = some (.stringIter s (enc A).length)) ∧ Hid (Below w.heap.size w wr))
  case atStart => exact ⟨[], cs, 0, 2, 2, rfl, rfl, rfl, rfl, rfl, HIT0.out, HK0.out⟩
  case round =>
    obtain ⟨A, R, x5, x6, x7, rfl, rfl, rfl, HA, hk, HIT, HK⟩ := hrel
    clear HIT0 HK0
    cases R with
    | nil =>
      have hend : (enc A).length = s.size := by
        have := HA.out
        rw [List.append_nil] at this
        rw [this, size_enc HH.out]
      have hnext : ∀ ty, (Instr.next (.pointer (some ⟨w.heap.size, 0, none⟩)) true ty).run Tryz.prog wr = _ := fun ty => Lib.run_next_end_at wr w.heap.size s _ ty HIT.out (by omega)
      clear hend
      go_wp2_with fail
      all_goals
        go_ret
        exact ⟨⟨_, by omega, rfl⟩, HK.out⟩
    | cons c t =>
      have hvc : Valid c := HV.out c (by rw [← HA.out]; simp)
      have hs2 : s.data.toList = enc A ++ (enc1 c ++ enc t) := by rw [HH.out, ← HA.out, enc_append, enc_cons]
      have hsz : s.size = (enc A).length + (wd c + (enc t).length) := by rw [size_enc hs2, List.length_append, List.length_append, enc1_length]
      have hwd := wd_pos c
      have hdec := decode_enc hvc hs2
      have hnext : ∀ ty, (Instr.next (.pointer (some ⟨w.heap.size, 0, none⟩)) true ty).run Tryz.prog wr = _ := fun ty => Lib.run_next_any_at wr w.heap.size s _ ty HIT.out (by omega)
      simp only [hdec] at hnext
      have hcn : ((c.toNat : Nat) : Int) = c := by unfold Valid at hvc; omega
      rw [hcn] at hnext
      have HIT1 := Lib.hid (Lib.iterAt_heap wr w.heap.size s (enc A).length ((enc A).length + wd c) HIT.out)
      have HK1 : Hid (Below w.heap.size w (wr.iterAt w.heap.size s ((enc A).length + wd c))) := Lib.below_iterAt HK.out (Nat.le_refl _) s _
      generalize wr.iterAt w.heap.size s ((enc A).length + wd c) = W1 at hnext HIT1 HK1
      have HREL : Hid (∀ y5 y6 y7 : Int, ∃ (A R : List Int) (x5 x6 x7 : Int), Value.int .i64 y5 = .int .i64 x5 ∧ Value.int .i64 y6 = .int .i64 x6 ∧ Value.int .i64 y7 = .int .i64 x7 ∧ Hid (A ++ R = cs) ∧ R.length = t.length ∧ Hid (W1.heap[w.heap.size]? = some (.stringIter s (enc A).length)) ∧ Hid (Below w.heap.size w W1)) :=
        fun y5 y6 y7 => ⟨A ++ [c], t, y5, y6, y7, rfl, rfl, rfl, by show _ = _; rw [← HA.out]; simp, rfl, by
          have := HIT1.out
          show _ = _
          rw [enc_append, List.length_append, enc_cons, List.length_append, enc1_length]; exact this, HK1.out⟩
      have hk2 : t.length < gk := by simp at hk; omega
      clear hs2 hdec hcn hsz hwd HIT HK HIT1 HK1 hvc hk
      go_wp2_with fail
      all_goals
        go_roundg t.length
        case measure => exact hk2
        case rel => exact HREL.out _ _ _
end Go.Proofs.YtkfdcbdlcipmfaaGreatFmt
namespace Go.Proofs.YtkfdcbdlcipmfaaGreatFmt
open Go.RowKit Css Go.Stop
open Go.Extern.Stop Go.Extern
variable {F : Go.Stop.Interp} {W0 w w' : World}
set_option maxHeartbeats 1000000 in
set_option maxRecDepth 100000 in
theorem sf_asc (r v : Nat) (hr0 : 65 ≤ (r : Int)) (hr1 : (r : Int) < 128) (hv0 : (v : Int) ≤ 65535) (w : World) (hc : w.cell? ⟨3, r, none⟩ = some (.int .u16 (v : Int))) :
    Calls Tryz.prog 132 #[.int .i32 r] w fun e w' => e = .returned (.int .i32 v) ∧ w = w' := by
  have hv00 : 0 ≤ (v : Int) := by omega
  go_enter Tryz.func132, Tryz.ntmps132
  go_wp2_with fail
  go_ret
  exact ⟨rfl, rfl⟩
set_option maxHeartbeats 4000000 in
set_option maxRecDepth 100000 in
theorem sf_383 (w : World) (hF : Fold w) : Calls Tryz.prog 132 #[.int .i32 383] w fun e w' => e = .returned (.int .i32 83) ∧ w = w' := by
  obtain ⟨R, oR, cap, hg, hm, hto⟩ := hF.orb
  have h47 := hm (47, 966) (by simp)
  have h23 := hm (23, 837) (by simp)
  have h11 := hm (11, 452) (by simp)
  have h5 := hm (5, 197) (by simp)
  have h8 := hm (8, 304) (by simp)
  have h10 := hm (10, 383) (by simp)
  have h9 := hm (9, 305) (by simp)
  simp only [Nat.reduceMul] at h47 h23 h11 h5 h8 h10 h9 hto
  clear hm hF
  go_enter Tryz.func132, Tryz.ntmps132
  go_wp2_with fail
  go_loopg [3, 4] 7 (fun k p3 p4 wr => wr = w ∧ ((k = 7 ∧ p3 = .int .i64 0 ∧ p4 = .int .i64 94) ∨ (k = 6 ∧ p3 = .int .i64 0 ∧ p4 = .int .i64 47) ∨ (k = 5 ∧ p3 = .int .i64 0 ∧ p4 = .int .i64 23) ∨ (k = 4 ∧ p3 = .int .i64 0 ∧ p4 = .int .i64 11) ∨ (k = 3 ∧ p3 = .int .i64 6 ∧ p4 = .int .i64 11) ∨ (k = 2 ∧ p3 = .int .i64 9 ∧ p4 = .int .i64 11) ∨ (k = 1 ∧ p3 = .int .i64 9 ∧ p4 = .int .i64 10) ∨ (k = 0 ∧ p3 = .int .i64 10 ∧ p4 = .int .i64 10)))
  case atStart => exact ⟨rfl, by simp⟩
  case round =>
    obtain ⟨rfl, hr⟩ := hrel
    rcases hr with hr | hr | hr | hr | hr | hr | hr | hr
    · obtain ⟨rfl, rfl, rfl⟩ := hr
      have hm := h47
      clear h47 h23 h11 h5 h8 h10 h9 hto
      go_wp2_with fail
      go_roundg 6
      case measure => omega
      case rel => exact ⟨rfl, by simp⟩
    · obtain ⟨rfl, rfl, rfl⟩ := hr
      have hm := h23
      clear h47 h23 h11 h5 h8 h10 h9 hto
      go_wp2_with fail
      go_roundg 5
      case measure => omega
      case rel => exact ⟨rfl, by simp⟩
    · obtain ⟨rfl, rfl, rfl⟩ := hr
      have hm := h11
      clear h47 h23 h11 h5 h8 h10 h9 hto
      go_wp2_with fail
      go_roundg 4
      case measure => omega
      case rel => exact ⟨rfl, by simp⟩
    · obtain ⟨rfl, rfl, rfl⟩ := hr
      have hm := h5
      clear h47 h23 h11 h5 h8 h10 h9 hto
      go_wp2_with fail
      go_roundg 3
      case measure => omega
      case rel => exact ⟨rfl, by simp⟩
    · obtain ⟨rfl, rfl, rfl⟩ := hr
      have hm := h8
      clear h47 h23 h11 h5 h8 h10 h9 hto
      go_wp2_with fail
      go_roundg 2
      case measure => omega
      case rel => exact ⟨rfl, by simp⟩
    · obtain ⟨rfl, rfl, rfl⟩ := hr
      have hm := h10
      clear h47 h23 h11 h5 h8 h10 h9 hto
      go_wp2_with fail
      go_roundg 1
      case measure => omega
      case rel => exact ⟨rfl, by simp⟩
    · obtain ⟨rfl, rfl, rfl⟩ := hr
      have hm := h9
      clear h47 h23 h11 h5 h8 h10 h9 hto
      go_wp2_with fail
      go_roundg 0
      case measure => omega
      case rel => exact ⟨rfl, by simp⟩
    · obtain ⟨rfl, rfl, rfl⟩ := hr
      have hm := h10
      clear h47 h23 h11 h5 h8 h10 h9
      go_wp2_with fail
      go_ret
      exact ⟨rfl, rfl⟩
end Go.Proofs.YtkfdcbdlcipmfaaGreatFmt
