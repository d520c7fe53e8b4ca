/- Walks: the reference's predicates over code points. -/
import Derived.Test.YtkfdcbdlcipmfaaGreatFmtG00
import Derived.Test.YtkfdcbdlcipmfaaGreatFmtG02
import Derived.Deep.Light
set_option linter.unusedVariables false
set_option linter.unusedSimpArgs false
namespace Go.Proofs.YtkfdcbdlcipmfaaGreatFmt
open Go.RowKit Css

def nlQ (c : Int) : Bool := decide (isNl c)
def spQ (c : Int) : Bool := decide (isSp c)
def dgQ (c : Int) : Bool := decide (isDg c)
def stQ (c : Int) : Bool := decide (starts c)
def cnQ (c : Int) : Bool := decide (cont c)
def upQ (c : Int) : Bool := decide (unpr c)
def esQ (a b : Int) : Bool := decide (esc a b)
def idQ (a b c : Int) : Bool := decide (ident3 a b c)
def n2Q (a b : Int) : Bool := decide (num2 a b)
def coQ (a b c : Int) : Bool := decide (counts a b c)
theorem nlQ_iff {c : Int} : nlQ c = true ↔ isNl c := by simp [nlQ]
theorem spQ_iff {c : Int} : spQ c = true ↔ isSp c := by simp [spQ]
theorem dgQ_iff {c : Int} : dgQ c = true ↔ isDg c := by simp [dgQ]
theorem stQ_iff {c : Int} : stQ c = true ↔ starts c := by simp [stQ]
theorem cnQ_iff {c : Int} : cnQ c = true ↔ cont c := by simp [cnQ]
theorem upQ_iff {c : Int} : upQ c = true ↔ unpr c := by simp [upQ]
theorem esQ_iff {a b : Int} : esQ a b = true ↔ esc a b := by simp [esQ]
theorem idQ_iff {a b c : Int} : idQ a b c = true ↔ ident3 a b c := by simp [idQ]
theorem n2Q_iff {a b : Int} : n2Q a b = true ↔ num2 a b := by simp [n2Q]
theorem coQ_iff {a b c : Int} : coQ a b c = true ↔ counts a b c := by simp [coQ]
theorem spQ_eq (c : Int) : spQ c = (nlQ c || c == 9 || c == 32) := by
  rw [Bool.eq_iff_iff, spQ_iff]; unfold isSp; simp [nlQ_iff, or_assoc]
theorem cnQ_eq (c : Int) : cnQ c = (stQ c || dgQ c || c == 45) := by
  rw [Bool.eq_iff_iff, cnQ_iff]; unfold cont; simp [stQ_iff, dgQ_iff, or_assoc]
theorem esQ_eq (a b : Int) : esQ a b = (a == 92 && !nlQ b) := by
  rw [Bool.eq_iff_iff, esQ_iff]; unfold esc; cases h : nlQ b <;> simp [← nlQ_iff, h]
def RetB (b : Bool) (w : World) (e : Ending) (w' : World) : Prop := e = .returned (.bool b) ∧ w = w'
theorem retB_eq {a b : Bool} (h : a = b) : Ending.returned (.bool a) = .returned (.bool b) := by rw [h]
theorem RetB.mk' {a b : Bool} {w : World} (h : a = b) : RetB b w (.returned (.bool a)) w := ⟨retB_eq h, rfl⟩

set_option maxHeartbeats 400000 in
set_option maxRecDepth 100000 in
theorem nl_any (c : Int) (w : World) : Calls Tryz.prog 91 #[.int .i64 c] w (RetB (nlQ c) w) := by
  go_enter Tryz.func91, Tryz.ntmps91
  go_wp2
  all_goals
    go_ret
    exact RetB.mk' (by rw [Bool.eq_iff_iff, nlQ_iff]; unfold isNl; first | (simp; done) | (simp; omega) | (simp; intros; omega) | (simp_all; done) | (simp_all; omega) | (simp_all; intros; omega))
set_option maxHeartbeats 400000 in
set_option maxRecDepth 100000 in
theorem sp_any (c : Int) (w : World) : Calls Tryz.prog 64 #[.int .i64 c] w (RetB (spQ c) w) := by
  cases h : nlQ c
  · have hn : ¬ isNl c := by simpa [nlQ] using h
    have H := Lib.hid h
    have HN := Lib.hid hn
    clear h hn
    go_enter Tryz.func64, Tryz.ntmps64
    go_wp2_with (go_at_call 91; go_must (refine (nl_any _ _).mono ?_; rintro e w' ⟨rfl, rfl⟩; rw [H.out]))
    all_goals
      go_ret
      exact RetB.mk' (by rw [spQ_eq, H.out]; first | done | rfl | (simp; done) | (simp_all; done) | (simp; omega))
  · have hn : isNl c := by simpa [nlQ] using h
    have H := Lib.hid h
    have HN := Lib.hid hn
    clear h hn
    go_enter Tryz.func64, Tryz.ntmps64
    go_wp2_with (go_at_call 91; go_must (refine (nl_any _ _).mono ?_; rintro e w' ⟨rfl, rfl⟩; rw [H.out]))
    go_ret
    exact RetB.mk' (by rw [spQ_eq, H.out]; first | done | rfl | (simp; done) | (simp_all; done) | (simp; omega))
set_option maxHeartbeats 400000 in
set_option maxRecDepth 100000 in
theorem dg_any (c : Int) (w : World) : Calls Tryz.prog 90 #[.int .i64 c] w (RetB (dgQ c) w) := by
  go_enter Tryz.func90, Tryz.ntmps90
  go_wp2
  all_goals
    go_ret
    exact RetB.mk' (by rw [Bool.eq_iff_iff, dgQ_iff]; unfold isDg; first | (simp; done) | (simp; omega) | (simp; intros; omega) | (simp_all; done) | (simp_all; omega) | (simp_all; intros; omega))
set_option maxHeartbeats 800000 in
set_option maxRecDepth 100000 in
theorem st_any (c : Int) (w : World) : Calls Tryz.prog 89 #[.int .i64 c] w (RetB (stQ c) w) := by
  go_enter Tryz.func89, Tryz.ntmps89
  go_wp2
  all_goals
    go_ret
    exact RetB.mk' (by rw [Bool.eq_iff_iff, stQ_iff]; unfold starts; first | (simp; done) | (simp; omega) | (simp; intros; omega) | (simp_all; done) | (simp_all; omega) | (simp_all; intros; omega))
set_option maxHeartbeats 800000 in
set_option maxRecDepth 100000 in
theorem up_any (c : Int) (w : World) : Calls Tryz.prog 126 #[.int .i64 c] w (RetB (upQ c) w) := by
  go_enter Tryz.func126, Tryz.ntmps126
  go_wp2
  all_goals
    go_ret
    exact RetB.mk' (by rw [Bool.eq_iff_iff, upQ_iff]; unfold unpr; first | (simp; done) | (simp; omega) | (simp; intros; omega) | (simp_all; done) | (simp_all; omega) | (simp_all; intros; omega))
set_option maxHeartbeats 800000 in
set_option maxRecDepth 100000 in
theorem cn_any (c : Int) (w : World) : Calls Tryz.prog 58 #[.int .i64 c] w (RetB (cnQ c) w) := by
  have hq := cnQ_eq c
  have HQ := Lib.hid hq
  clear hq
  cases h : stQ c
  · have H := Lib.hid h
    clear h
    cases h2 : dgQ c
    · have H2 := Lib.hid h2
      clear h2
      go_enter Tryz.func58, Tryz.ntmps58
      go_wp2_with (first | (go_at_call 89; go_must (refine (st_any _ _).mono ?_; rintro e w' ⟨rfl, rfl⟩; rw [H.out])) | (go_at_call 90; go_must (refine (dg_any _ _).mono ?_; rintro e w' ⟨rfl, rfl⟩; rw [H2.out])))
      all_goals
        go_ret
        exact RetB.mk' (by rw [HQ.out, H.out, H2.out]; simp)
    · have H2 := Lib.hid h2
      clear h2
      go_enter Tryz.func58, Tryz.ntmps58
      go_wp2_with (first | (go_at_call 89; go_must (refine (st_any _ _).mono ?_; rintro e w' ⟨rfl, rfl⟩; rw [H.out])) | (go_at_call 90; go_must (refine (dg_any _ _).mono ?_; rintro e w' ⟨rfl, rfl⟩; rw [H2.out])))
      all_goals
        go_ret
        exact RetB.mk' (by rw [HQ.out, H.out, H2.out]; simp)
  · have H := Lib.hid h
    clear h
    go_enter Tryz.func58, Tryz.ntmps58
    go_wp2_with (go_at_call 89; go_must (refine (st_any _ _).mono ?_; rintro e w' ⟨rfl, rfl⟩; rw [H.out]))
    all_goals
      go_ret
      exact RetB.mk' (by rw [HQ.out, H.out]; simp)
set_option maxHeartbeats 800000 in
set_option maxRecDepth 100000 in
theorem es_any (a b : Int) (w : World) : Calls Tryz.prog 62 #[.int .i64 a, .int .i64 b] w (RetB (esQ a b) w) := by
  have hq := esQ_eq a b
  have HQ := Lib.hid hq
  clear hq
  cases h : nlQ b
  · have H := Lib.hid h
    clear h
    cases h1 : (a == 92)
    · go_enter Tryz.func62, Tryz.ntmps62
      go_wp2_with (go_at_call 91; go_must (refine (nl_any _ _).mono ?_; rintro e w' ⟨rfl, rfl⟩; rw [H.out]))
      go_ret
      exact RetB.mk' (by rw [HQ.out, H.out, h1]; simp)
    · go_enter Tryz.func62, Tryz.ntmps62
      go_wp2_with (go_at_call 91; go_must (refine (nl_any _ _).mono ?_; rintro e w' ⟨rfl, rfl⟩; rw [H.out]))
      go_ret
      exact RetB.mk' (by rw [HQ.out, H.out, h1]; simp)
  · have H := Lib.hid h
    clear h
    cases h1 : (a == 92)
    · go_enter Tryz.func62, Tryz.ntmps62
      go_wp2_with (go_at_call 91; go_must (refine (nl_any _ _).mono ?_; rintro e w' ⟨rfl, rfl⟩; rw [H.out]))
      go_ret
      exact RetB.mk' (by rw [HQ.out, H.out, h1]; simp)
    · go_enter Tryz.func62, Tryz.ntmps62
      go_wp2_with (go_at_call 91; go_must (refine (nl_any _ _).mono ?_; rintro e w' ⟨rfl, rfl⟩; rw [H.out]))
      go_ret
      exact RetB.mk' (by rw [HQ.out, H.out, h1]; simp)
end Go.Proofs.YtkfdcbdlcipmfaaGreatFmt
/- PLAIN: the items of flat nodes over bytes; what `holds` is told. No program in sight. -/
namespace Go.Proofs.YtkfdcbdlcipmfaaGreatFmt
namespace Css

/-- An item, with its bytes. -/
structure RIt where
  kind : Int
  unit : Int
  text : List UInt8
  space : Int
def RIt.cp (x : RIt) : It := ⟨x.kind, if x.kind = 26 then x.unit else 0, dec x.text, x.space⟩
def closeR (k : Int) : RIt := ⟨k, 0, [], -1⟩
def itemsRGo : List Int → (Int → Bool) → (Int → Bool) → List RN → List RIt
  | op, _, _, [] => op.map closeR
  | op, last, fresh, n :: l =>
    (op.take (op.length - n.depth.toNat)).map closeR ++ ⟨n.kind, n.unit, n.text, spOf (fresh n.depth) (last n.depth) n.before⟩ ::
      (if opens n.kind then itemsRGo (closeKind n.kind :: op.drop (op.length - n.depth.toNat)) (upd last n.depth n.after) (upd (upd fresh n.depth false) (n.depth + 1) true) l
       else itemsRGo (op.drop (op.length - n.depth.toNat)) (upd last n.depth n.after) (upd fresh n.depth false) l)
def itemsR (l : List RN) : List RIt := itemsRGo [] (fun _ => false) (fun i => decide (i = 0)) l

def isClose (k : Int) : Prop := k = 8 ∨ k = 7 ∨ k = 6
theorem closeKind_close (k : Int) : isClose (closeKind k) := by
  unfold closeKind isClose
  split
  · simp
  split <;> simp
theorem closeR_cp {k : Int} (h : isClose k) : (closeR k).cp = closeIt k := by
  unfold isClose at h
  unfold closeR RIt.cp closeIt
  simp only [It.mk.injEq, true_and, and_true]
  constructor
  · rw [if_neg (by omega)]
  · rw [dec]
theorem closes_map {op : List Int} (h : ∀ k ∈ op, isClose k) : (op.map closeR).map RIt.cp = op.map closeIt := by
  rw [List.map_map]
  exact List.map_congr_left fun k hk => closeR_cp (h k hk)
theorem itemsRGo_cp (l : List RN) : ∀ (op : List Int) (last fresh : Int → Bool), (∀ k ∈ op, isClose k) → (itemsRGo op last fresh l).map RIt.cp = itemsGo op last fresh (l.map RN.cp) := by
  induction l with
  | nil => intro op last fresh h; exact closes_map h
  | cons n l ih =>
    intro op last fresh h
    have h1 : ∀ k ∈ op.take (op.length - n.depth.toNat), isClose k := fun k hk => h k (List.mem_of_mem_take hk)
    have h2 : ∀ k ∈ op.drop (op.length - n.depth.toNat), isClose k := fun k hk => h k (List.mem_of_mem_drop hk)
    simp only [itemsRGo, itemsGo, List.map_cons, List.map_append]
    rw [closes_map h1]
    congr 1
    congr 1
    show List.map RIt.cp (if opens n.kind then _ else _) = if opens n.kind then _ else _
    split
    · exact ih _ _ _ (by intro k hk; rw [List.mem_cons] at hk; rcases hk with rfl | hk; exact closeKind_close _; exact h2 k hk)
    · exact ih _ _ _ h2
theorem itemsR_cp (l : List RN) : (itemsR l).map RIt.cp = items (l.map RN.cp) := itemsRGo_cp l _ _ _ (by simp)

/-- What the walk of `is` wants of an item. -/
structure ItOk (x : RIt) : Prop where
  ok : okDec x.text = true
  low : x.kind = 26 → ∀ c ∈ (dec x.text).take x.unit.toNat, c < 128
theorem closeR_ok (k : Int) (h : isClose k) : ItOk (closeR k) := ⟨by show okDec [] = true; unfold okDec; rw [dec]; rfl, fun h26 => by unfold isClose at h; simp only [closeR] at h26; omega⟩
/-- Items of nodes are nodes, or what closes one. -/
theorem itemsRGo_mem (l : List RN) : ∀ (op : List Int) (last fresh : Int → Bool), (∀ k ∈ op, isClose k) → ∀ x ∈ itemsRGo op last fresh l, (∃ k, isClose k ∧ x = closeR k) ∨ ∃ n ∈ l, x.kind = n.kind ∧ x.unit = n.unit ∧ x.text = n.text := by
  induction l with
  | nil =>
    intro op last fresh h x hx
    simp only [itemsRGo, List.mem_map] at hx
    obtain ⟨k, hk, rfl⟩ := hx
    exact .inl ⟨k, h k hk, rfl⟩
  | cons n l ih =>
    intro op last fresh h x hx
    have h2 : ∀ k ∈ op.drop (op.length - n.depth.toNat), isClose k := fun k hk => h k (List.mem_of_mem_drop hk)
    simp only [itemsRGo, List.mem_append, List.mem_cons, List.mem_map] at hx
    rcases hx with ⟨k, hk, rfl⟩ | rfl | hx
    · exact .inl ⟨k, h k (List.mem_of_mem_take hk), rfl⟩
    · exact .inr ⟨n, by simp, rfl, rfl, rfl⟩
    · have : (∃ k, isClose k ∧ x = closeR k) ∨ ∃ n ∈ l, x.kind = n.kind ∧ x.unit = n.unit ∧ x.text = n.text := by
        split at hx
        · exact ih _ _ _ (by intro k hk; rw [List.mem_cons] at hk; rcases hk with rfl | hk; exact closeKind_close _; exact h2 k hk) x hx
        · exact ih _ _ _ h2 x hx
      rcases this with h | ⟨m, hm, h⟩
      · exact .inl h
      · exact .inr ⟨m, by simp [hm], h⟩
theorem itemsRGo_len (l : List RN) : ∀ (op : List Int) (last fresh : Int → Bool), (itemsRGo op last fresh l).length ≤ op.length + 2 * l.length := by
  induction l with
  | nil => intro op last fresh; simp [itemsRGo]
  | cons n l ih =>
    intro op last fresh
    simp only [itemsRGo, List.length_append, List.length_cons, List.length_map, List.length_take]
    have hd : (op.drop (op.length - n.depth.toNat)).length = op.length - (op.length - n.depth.toNat) := List.length_drop
    split
    · have := ih (closeKind n.kind :: op.drop (op.length - n.depth.toNat)) (upd last n.depth n.after) (upd (upd fresh n.depth false) (n.depth + 1) true)
      rw [List.length_cons, hd] at this; omega
    · have := ih (op.drop (op.length - n.depth.toNat)) (upd last n.depth n.after) (upd fresh n.depth false)
      rw [hd] at this; omega
theorem itemsR_len (l : List RN) : (itemsR l).length ≤ 2 * l.length := by have := itemsRGo_len l [] (fun _ => false) (fun i => decide (i = 0)); simpa [itemsR] using this

/-- A node that can be printed gives an item that can be held. -/
theorem isNode_item {n : RN} {ascii : Bool} (h : isNodeB n = true) (hlow : lowB n.text ascii = true) : okDec n.text = true ∧ (n.kind = 26 → ∀ c ∈ (dec n.text).take n.unit.toNat, c < 128) := by
  obtain ⟨hk, ho⟩ := isNode_ok h hlow
  refine ⟨ho, fun h26 => ?_⟩
  cases hk with
  | name h1 => rw [show (tOf n.cp).kind = n.kind from rfl] at h1; omega
  | func h1 => rw [show (tOf n.cp).kind = n.kind from rfl] at h1; omega
  | str h1 => rw [show (tOf n.cp).kind = n.kind from rfl] at h1; omega
  | num h1 => rw [show (tOf n.cp).kind = n.kind from rfl] at h1; omega
  | sign h1 => rw [show (tOf n.cp).kind = n.kind from rfl] at h1; unfold signLike at h1; omega
  | dim h1 hg h2 h3 hl =>
    have hu : (tOf n.cp).unit = n.unit.toNat := by show (if n.kind = 26 then n.unit else 0).toNat = _; rw [if_pos h26]
    have ht : (tOf n.cp).text = dec n.text := rfl
    rw [hu, ht] at hl
    rw [ht] at hg
    have := lone_ascii (fun c hc => good_ne hg c (List.mem_of_mem_take hc)) hl (.inl rfl)
    exact this
theorem itemsR_ok {l : List RN} {ascii : Bool} (h : ∀ n ∈ l, isNodeB n = true) (hlow : ∀ n ∈ l, lowB n.text ascii = true) : ∀ x ∈ itemsR l, ItOk x := by
  intro x hx
  rcases itemsRGo_mem l _ _ _ (by simp) x hx with ⟨k, hk, rfl⟩ | ⟨n, hn, e1, e2, e3⟩
  · exact closeR_ok k hk
  · have := isNode_item (h n hn) (hlow n hn)
    exact ⟨by rw [e3]; exact this.1, by rw [e1, e2, e3]; exact this.2⟩
end Css
end Go.Proofs.YtkfdcbdlcipmfaaGreatFmt
/- PLAIN: trees of the statements over bytes; what is printed of them is read as it should be. No program in sight. -/
namespace Go.Proofs.YtkfdcbdlcipmfaaGreatFmt
namespace Css

def setR (all : Bool) : List RN → List RN
  | [] => []
  | n :: r => { n with after := n.after || all || needs n.cp (r.map RN.cp) } :: setR all r
theorem setR_cp (all : Bool) (l : List RN) : (setR all l).map RN.cp = setL all (l.map RN.cp) := by
  induction l with
  | nil => rfl
  | cons n r ih => simp only [setR, setL, List.map_cons, ih]; rfl
theorem setR_len (all : Bool) (l : List RN) : (setR all l).length = l.length := by
  induction l with
  | nil => rfl
  | cons n r ih => simp [setR, ih]
/-- A tree that the statements let in. -/
structure GoodTree (ascii : Bool) (l : List RN) : Prop where
  tree : Tree 0 (l.map RN.cp)
  node : ∀ n ∈ l, isNodeB n = true
  low : ∀ n ∈ l, lowB n.text ascii = true
theorem isNodeB_after (n : RN) (a : Bool) : isNodeB { n with after := a } = isNodeB n := rfl
theorem tree_setL (all : Bool) (l : List N) : ∀ m, Tree m l → Tree m (setL all l) := by
  induction l with
  | nil => intro m h; exact h
  | cons n r ih => intro m h; exact ⟨h.1, h.2.1, ih _ h.2.2⟩
theorem setR_mem {all : Bool} {l : List RN} {x : RN} (h : x ∈ setR all l) : ∃ n ∈ l, ∃ a, x = { n with after := a } := by
  induction l with
  | nil => simp [setR] at h
  | cons n r ih =>
    simp only [setR, List.mem_cons] at h
    rcases h with rfl | h
    · exact ⟨n, by simp, _, rfl⟩
    · obtain ⟨m, hm, a, e⟩ := ih h
      exact ⟨m, by simp [hm], a, e⟩
theorem GoodTree.set {ascii : Bool} {l : List RN} (h : GoodTree ascii l) (all : Bool) : GoodTree ascii (setR all l) := by
  refine ⟨?_, ?_, ?_⟩
  · rw [setR_cp]; exact tree_setL all _ _ h.tree
  · intro x hx
    obtain ⟨n, hn, a, rfl⟩ := setR_mem hx
    rw [isNodeB_after]; exact h.node n hn
  · intro x hx
    obtain ⟨n, hn, a, rfl⟩ := setR_mem hx
    exact h.low n hn
theorem node_unit {n : RN} (h : isNodeB n = true) : 0 ≤ n.cp.unit := by
  obtain ⟨hk, _⟩ := isNode_ok (ascii := false) h rfl
  show 0 ≤ (if n.kind = 26 then n.unit else 0)
  split
  · rename_i h26
    unfold isNodeB at h
    have h1 : ¬ nameKind n.kind := by unfold nameKind; omega
    rw [if_neg h1, if_neg (by omega), if_neg (by omega), if_neg (by omega), if_pos h26] at h
    simp only [Bool.and_eq_true, decide_eq_true_eq] at h
    omega
  · omega
theorem GoodTree.unit {ascii : Bool} {l : List RN} (h : GoodTree ascii l) : UnitOk (l.map RN.cp) := by
  intro x hx
  obtain ⟨n, hn, rfl⟩ := List.mem_map.1 hx
  exact node_unit (h.node n hn)
theorem GoodTree.ok {ascii : Bool} {l : List RN} (h : GoodTree ascii l) : AllOK ascii (l.map RN.cp) := by
  intro x hx
  obtain ⟨n, hn, rfl⟩ := List.mem_map.1 hx
  exact (isNode_ok (h.node n hn) (h.low n hn)).1
theorem parse_items {l : List N} {ts : List T} (hp : Parse 0 l ts []) (ht : Tree 0 l) (hu : UnitOk l) : items l = itemsF ts true false := by
  obtain ⟨la, fr, he, _⟩ := itemsGo_parse hp (Int.le_refl _) hu [] (fun _ => false) (fun i => decide (i = 0)) ht rfl
  unfold items
  rw [he]
  simp [itemsGo]
theorem set_okl {ascii all : Bool} {l : List RN} (h : GoodTree ascii l) {ts : List T} (hp : Parse 0 ((setR all l).map RN.cp) ts []) : OKl ascii ts := by
  have hs := h.set all
  exact okl_parse hp hs.tree (by rw [setR_cp]; exact gaps_set all _) hs.ok
theorem dec_low {c : Int} (h : 1 ≤ c ∧ c < 128) : dec [by8 c] = [c] := by
  have h1 := dec_enc (cs := [c]) (by intro d hd; simp at hd; subst hd; unfold Val0; omega)
  have h2 : enc [c] = [by8 c] := by simp [enc, enc1]; omega
  rw [h2] at h1; exact h1

def signR (k : Int) (c : UInt8) : RIt := ⟨k, 0, [c], -1⟩
theorem signR_cp {k : Int} {c : UInt8} {d : Int} (hk : k ≠ 26) (h : dec [c] = [d]) : (signR k c).cp = ⟨k, 0, [d], -1⟩ := by
  unfold signR RIt.cp
  simp only [It.mk.injEq, true_and, and_true]
  exact ⟨if_neg hk, h⟩
theorem signR_ok {k : Int} {c : UInt8} {d : Int} (hk : k ≠ 26) (h : dec [c] = [d]) (hd : okC d = true) : ItOk (signR k c) := ⟨by show okDec [c] = true; unfold okDec; rw [h]; simp [hd], fun h26 => absurd h26 hk⟩
def nameR (k : Int) (nm : List UInt8) : RIt := ⟨k, 0, nm, -1⟩
theorem nameR_cp {k : Int} {nm : List UInt8} (hk : k ≠ 26) : (nameR k nm).cp = ⟨k, 0, dec nm, -1⟩ := by
  unfold nameR RIt.cp
  simp only [It.mk.injEq, true_and, and_true]
  exact if_neg hk
theorem nameR_ok {k : Int} {nm : List UInt8} (hk : k ≠ 26) (h : okDec nm = true) : ItOk (nameR k nm) := ⟨h, fun h26 => absurd h26 hk⟩
theorem d59 : dec [59] = [59] := dec_low (c := 59) (by omega)
theorem d58 : dec [58] = [58] := dec_low (c := 58) (by omega)
theorem d123 : dec [123] = [123] := dec_low (c := 123) (by omega)
theorem d33 : dec [33] = [33] := dec_low (c := 33) (by omega)

/-! ### At-rules -/
def atR (nm : List UInt8) (l : List RN) : List RIt := nameR 1 nm :: (itemsR l ++ [signR 35 59])
theorem atR_cp (nm : List UInt8) (l : List RN) : (atR nm l).map RIt.cp = atIts (dec nm) (items (l.map RN.cp)) := by
  unfold atR atIts
  rw [List.map_cons, List.map_append, itemsR_cp, nameR_cp (by decide), List.map_cons, List.map_nil, signR_cp (by decide) d59]
theorem atR_ok {ascii : Bool} {nm : List UInt8} {l : List RN} (h : GoodTree ascii l) (hn : okDec nm = true) : ∀ x ∈ atR nm l, ItOk x := by
  intro x hx
  simp only [atR, List.mem_cons, List.mem_append, List.not_mem_nil, or_false] at hx
  rcases hx with rfl | hx | rfl
  · exact nameR_ok (by decide) hn
  · exact itemsR_ok h.node h.low x hx
  · exact signR_ok (by decide) d59 (by decide)
theorem dec_nil_iff {l : List UInt8} (h : isNameB l = true) : dec l ≠ [] ∧ okDec l = true := by
  unfold isNameB at h
  simp only [Bool.and_eq_true, Bool.not_eq_true', List.isEmpty_eq_false_iff] at h
  refine ⟨fun h0 => ?_, h.2⟩
  have := (okDec_val h.2).1
  rw [h0] at this
  exact h.1 this.symm
theorem at_final {ascii mini all : Bool} {l : List RN} (h : GoodTree ascii l) {nm : List UInt8} (hn : isNameB nm = true) (hl : lowB nm ascii = true) {ts : List T} {cl : List Ch}
    (hp : Parse 0 ((setR all l).map RN.cp) ts []) (hpr : Prints ascii ts (headBefore ts) cl) :
    ReadAs true (flat (atCh ascii mini (dec nm) ts cl)) ((atR nm (setR all l)).map RIt.cp) ∧ PlainTxt ascii (flat (atCh ascii mini (dec nm) ts cl)) ∧ ∀ x ∈ atR nm (setR all l), ItOk x := by
  have hok := set_okl h hp
  have hs := h.set all
  obtain ⟨h1, h2⟩ := dec_nil_iff hn
  have hg := low_good h2 hl
  refine ⟨?_, at_plain hg hpr hok, atR_ok hs h2⟩
  rw [atR_cp, parse_items hp hs.tree hs.unit]
  exact chain_readAs true (at_chain h1 hg hpr hok) rfl (at_fits hpr hok)

/-! ### Declarations -/
def declR (key : List UInt8) (l : List RN) (imp semi : Bool) (rest : List RIt) : List RIt :=
  nameR 29 key :: signR 9 58 :: (itemsR l ++ ((if imp then [signR 19 33, nameR 29 [105, 109, 112, 111, 114, 116, 97, 110, 116]] else []) ++ ((if semi then [signR 35 59] else []) ++ rest)))
theorem dec_important : dec [105, 109, 112, 111, 114, 116, 97, 110, 116] = important := by
  have h1 := dec_enc (cs := important) (by intro d hd; simp [important] at hd; unfold Val0; omega)
  have h2 : enc important = [105, 109, 112, 111, 114, 116, 97, 110, 116] := by decide
  rw [h2] at h1; exact h1
theorem declR_cp (key : List UInt8) (l : List RN) (imp semi : Bool) (rest : List RIt) : (declR key l imp semi rest).map RIt.cp = declIts (dec key) (items (l.map RN.cp)) imp semi (rest.map RIt.cp) := by
  unfold declR declIts
  rw [List.map_cons, List.map_cons, List.map_append, List.map_append, List.map_append, itemsR_cp, nameR_cp (by decide), signR_cp (by decide) d58]
  congr 3
  congr 1
  · cases imp
    · rfl
    · simp only [if_true, List.map_cons, List.map_nil, signR_cp (k := 19) (by decide) d33, nameR_cp (k := 29) (by decide), dec_important]
  · congr 1
    cases semi
    · rfl
    · simp only [if_true, List.map_cons, List.map_nil, signR_cp (k := 35) (by decide) d59]
theorem declR_ok {ascii : Bool} {key : List UInt8} {l : List RN} {imp semi : Bool} {rest : List RIt} (h : GoodTree ascii l) (hn : okDec key = true) (hr : ∀ x ∈ rest, ItOk x) : ∀ x ∈ declR key l imp semi rest, ItOk x := by
  intro x hx
  simp only [declR, List.mem_cons, List.mem_append] at hx
  rcases hx with rfl | rfl | hx | hx | hx | hx
  · exact nameR_ok (by decide) hn
  · exact signR_ok (by decide) d58 (by decide)
  · exact itemsR_ok h.node h.low x hx
  · cases imp
    · simp at hx
    · simp only [if_true, List.mem_cons, List.not_mem_nil, or_false] at hx
      rcases hx with rfl | rfl
      · exact signR_ok (by decide) d33 (by decide)
      · exact nameR_ok (by decide) (by unfold okDec; rw [dec_important]; decide)
  · cases semi
    · simp at hx
    · simp only [if_true, List.mem_cons, List.not_mem_nil, or_false] at hx
      subst hx
      exact signR_ok (by decide) d59 (by decide)
  · exact hr x hx
theorem decl_final {ascii all : Bool} {l : List RN} (h : GoodTree ascii l) {key : List UInt8} (hn : isNameB key = true) (hl : lowB key ascii = true) {ts : List T} {cl : List Ch}
    (hp : Parse 0 ((setR all l).map RN.cp) ts []) (hpr : Prints ascii ts (headBefore ts) cl) (mini : Bool) :
    ReadAs true (flat (declCh ascii (dec key) cl false false true (wsIf (!mini) [10]))) ((declR key (setR all l) false true []).map RIt.cp) ∧ PlainTxt ascii (flat (declCh ascii (dec key) cl false false true (wsIf (!mini) [10]))) ∧ ∀ x ∈ declR key (setR all l) false true [], ItOk x := by
  have hok := set_okl h hp
  have hs := h.set all
  obtain ⟨h1, h2⟩ := dec_nil_iff hn
  have hg := low_good h2 hl
  refine ⟨?_, ⟨decl_plain _ _ _ hg hpr hok (wsIf_pv _ blank10), decl_no_bom _ _ _ h1⟩, declR_ok hs h2 (by simp)⟩
  rw [declR_cp, parse_items hp hs.tree hs.unit]
  refine chain_readAs true (decl_chain false false true h1 hg hpr hok (fun _ => rfl) (fun h => by cases h) (fun h => by cases h) ?_) rfl (decl_fits false false true hpr hok (fun s => ?_) _)
  · have := chain_wsIf (b := !mini) blank10 (Chain.nil [])
    simpa using this
  · have : exp (wsIf (!mini) [10]) s = [] := by unfold wsIf; cases mini <;> simp [exp]
    rw [this]; exact .nil
theorem all_after {l : List N} : ∀ {d : Int} {ts : List T} {rest : List N}, Parse d (setL true l) ts rest → ∀ has, ts = [] ∨ endHas ts has = true := by
  intro d ts rest hp
  generalize hL : setL true l = L at hp
  have hall : ∀ n ∈ L, n.after = true := by
    subst hL
    intro n hn
    have : ∀ (l : List N), ∀ n ∈ setL true l, n.after = true := by
      intro l
      induction l with
      | nil => simp [setL]
      | cons a r ih =>
        intro n hn
        simp only [setL, List.mem_cons] at hn
        rcases hn with rfl | hn
        · simp [setAfter]
        · exact ih n hn
    exact this l n hn
  clear hL
  have hmem : ∀ {d : Int} {l : List N} {ts : List T} {rest : List N}, Parse d l ts rest → ∀ x ∈ rest, x ∈ l := by
    intro d l ts rest h
    induction h with
    | nil => exact fun x h => h
    | stop => exact fun x h => h
    | leaf _ _ _ _ _ _ _ _ ih => exact fun x h => List.mem_cons_of_mem _ (ih x h)
    | node _ _ _ _ _ _ _ _ _ _ _ ih1 ih2 => exact fun x h => List.mem_cons_of_mem _ (ih1 x (ih2 x h))
  induction hp with
  | nil => exact fun _ => .inl rfl
  | stop => exact fun _ => .inl rfl
  | leaf d n r ts rest hd ho hp ih =>
    intro has
    right
    have ha := hall n (by simp)
    rcases ts with _ | ⟨t, ts⟩
    · exact ha
    · have := ih (fun x hx => hall x (by simp [hx])) has
      rcases this with h | h
      · cases h
      · exact h
  | node d n r kids r1 ts rest hd ho hp1 hp2 ih1 ih2 =>
    intro has
    right
    have ha := hall n (by simp)
    rcases ts with _ | ⟨t, ts⟩
    · exact ha
    · have := ih2 (fun x hx => hall x (by simp [hmem hp1 x hx])) has
      rcases this with h | h
      · cases h
      · exact h
theorem imp_final {ascii : Bool} {l : List RN} (h : GoodTree ascii l) {key : List UInt8} (hn : isNameB key = true) (hl : lowB key ascii = true) {ts : List T} {cl : List Ch}
    (hp : Parse 0 ((setR true l).map RN.cp) ts []) (hpr : Prints ascii ts (headBefore ts) cl) (mini sp : Bool) :
    ReadAs true (flat (declCh ascii (dec key) cl sp true true (wsIf (!mini) [10]))) ((declR key (setR true l) true true []).map RIt.cp) ∧ PlainTxt ascii (flat (declCh ascii (dec key) cl sp true true (wsIf (!mini) [10]))) ∧ ∀ x ∈ declR key (setR true l) true true [], ItOk x := by
  have hok := set_okl h hp
  have hs := h.set true
  obtain ⟨h1, h2⟩ := dec_nil_iff hn
  have hg := low_good h2 hl
  refine ⟨?_, ⟨decl_plain _ _ _ hg hpr hok (wsIf_pv _ blank10), decl_no_bom _ _ _ h1⟩, declR_ok hs h2 (by simp)⟩
  rw [declR_cp, parse_items hp hs.tree hs.unit]
  have hend := all_after (by rw [setR_cp] at hp; exact hp) (headBefore ts)
  refine chain_readAs true (decl_chain sp true true h1 hg hpr hok (fun h => by cases h) (fun _ => ⟨rfl, hend⟩) (fun h => by cases h) ?_) rfl (decl_fits sp true true hpr hok (fun s => ?_) _)
  · have := chain_wsIf (b := !mini) blank10 (Chain.nil [])
    simpa using this
  · have : exp (wsIf (!mini) [10]) s = [] := by unfold wsIf; cases mini <;> simp [exp]
    rw [this]; exact .nil

/-! ### Rules -/
def ruleR (l : List RN) (key : List UInt8) (v : List RN) (mini : Bool) : List RIt := itemsR l ++ (signR 31 123 :: declR key v false (!mini) [closeR 6])
theorem ruleR_cp (l : List RN) (key : List UInt8) (v : List RN) (mini : Bool) : (ruleR l key v mini).map RIt.cp = ruleIts (items (l.map RN.cp)) (dec key) (items (v.map RN.cp)) mini := by
  unfold ruleR ruleIts
  rw [List.map_append, List.map_cons, itemsR_cp, declR_cp, signR_cp (by decide) d123, List.map_cons, closeR_cp (.inr (.inr rfl))]
  rfl
theorem rule_final {ascii : Bool} {l v : List RN} (h : GoodTree ascii l) (hv : GoodTree ascii v) {key : List UInt8} (hn : isNameB key = true) (hl : lowB key ascii = true) {ts vs : List T} {cl vl : List Ch}
    (hp : Parse 0 ((setR true l).map RN.cp) ts []) (hpr : Prints ascii ts (headBefore ts) cl) (hpv : Parse 0 ((setR true v).map RN.cp) vs []) (hprv : Prints ascii vs (headBefore vs) vl) (mini has : Bool) :
    ReadAs true (flat (ruleCh ascii mini cl has (dec key) vl)) ((ruleR (setR true l) key (setR true v) mini).map RIt.cp) ∧ PlainTxt ascii (flat (ruleCh ascii mini cl has (dec key) vl)) ∧ ∀ x ∈ ruleR (setR true l) key (setR true v) mini, ItOk x := by
  have hok := set_okl h hp
  have hs := h.set true
  have hvok := set_okl hv hpv
  have hvs := hv.set true
  obtain ⟨h1, h2⟩ := dec_nil_iff hn
  have hg := low_good h2 hl
  refine ⟨?_, rule_plain hg hpr hok hprv hvok has, ?_⟩
  · rw [ruleR_cp, parse_items hp hs.tree hs.unit, parse_items hpv hvs.tree hvs.unit]
    exact chain_readAs true (rule_chain h1 hg hpr hok (all_after (by rw [setR_cp] at hp; exact hp) _) hprv hvok has) rfl (rule_fits hpr hok hprv hvok has)
  · intro x hx
    simp only [ruleR, List.mem_append, List.mem_cons] at hx
    rcases hx with hx | rfl | hx
    · exact itemsR_ok hs.node hs.low x hx
    · exact signR_ok (by decide) d123 (by decide)
    · exact declR_ok hvs h2 (by intro x hx; simp at hx; subst hx; exact closeR_ok 6 (.inr (.inr rfl))) x hx
end Css
end Go.Proofs.YtkfdcbdlcipmfaaGreatFmt
/- PLAIN: two prints of one tree have the same tokens. No program in sight. -/
namespace Go.Proofs.YtkfdcbdlcipmfaaGreatFmt
namespace Css

/-- A piece of a tree: a token of it, or what closes one. -/
inductive Pc where
  | tok (t : T)
  | close (k : Int)
def pcs : List T → List Pc
  | [] => []
  | .mk k u x b a kids :: ts => .tok (.mk k u x b a kids) :: ((if opens k then pcs kids ++ [.close k] else []) ++ pcs ts)
def nameLikeK (k : Int) : Prop := k = 29 ∨ k = 27 ∨ k = 1 ∨ k = 28 ∨ k = 36
def FitP (r : Tk × List Int × Bool) : Pc → Prop
  | .tok t => r.1 = tkOf t ∧ IsIt r ⟨t.kind, (t.unit : Int), t.text, -1⟩ ∧ (t.kind = 26 → ∀ c ∈ t.text.take t.unit, c < 128) ∧ ¬ isClose t.kind
  | .close k => r.1 = ⟨closeKind k, 0, []⟩ ∧ r.2.1 = [closer k]
theorem ok1_low {ascii : Bool} {t : T} (h : OK1 ascii t) (h26 : t.kind = 26) : ∀ c ∈ t.text.take t.unit, c < 128 := by
  cases h with
  | name h1 => omega
  | func h1 => omega
  | str h1 => omega
  | num h1 => omega
  | sign h1 => unfold signLike at h1; omega
  | dim h1 hg h2 h3 hl => exact lone_ascii (fun c hc => good_ne hg c (List.mem_of_mem_take hc)) hl (.inl rfl)
theorem ok1_not_close {ascii : Bool} {t : T} (h : OK1 ascii t) : ¬ isClose t.kind := by
  unfold isClose
  cases h with
  | name h1 => omega
  | func h1 => omega
  | str h1 => omega
  | num h1 => omega
  | sign h1 => unfold signLike at h1; omega
  | dim h1 => omega
theorem prints_pcs {ascii : Bool} {ts : List T} {has : Bool} {cl : List Ch} (h : Prints ascii ts has cl) : OKl ascii ts → ∀ sp, All2 FitP (exp cl sp) (pcs ts) := by
  induction h with
  | nil => intro _ sp; simp [exp, pcs]; exact .nil
  | last w hw => intro _ sp; simp [exp, pcs]; exact .nil
  | plain t ts has ws out rest h1 h2 h3 h4 h5 ih =>
    intro hok sp
    cases hok with
    | cons _ _ ht hk hts hadj =>
      obtain ⟨k, u, x, b, a, kids⟩ := t
      have hrest := ih hts false
      have e : exp (ws ++ ⟨some (tkOf (.mk k u x b a kids)), out⟩ :: rest) sp = (tkOf (.mk k u x b a kids), out, sp || has) :: exp rest false := by
        cases has with
        | true => obtain ⟨w, hw, rfl⟩ := h1 rfl; simp [exp]
        | false => rw [h2 rfl]; simp [exp]
      rw [e]
      simp only [pcs]
      rw [if_neg (by exact h3), List.nil_append]
      exact .cons ⟨rfl, isIt_own ht h4 _ _, ok1_low ht, ok1_not_close ht⟩ hrest
  | opened t ts has ws nl out kc rest h1 h2 h3 h4 h5 h6 h7 ih1 ih2 =>
    intro hok sp
    cases hok with
    | cons _ _ ht hk hts hadj =>
      obtain ⟨k, u, x, b, a, kids⟩ := t
      have hrest := ih2 hts false
      have hnl : ∃ sp2, exp (nl ++ (kc ++ ⟨some ⟨closeKind k, 0, []⟩, [closer k]⟩ :: rest)) false = exp kc sp2 ++ (⟨closeKind k, 0, []⟩, [closer k], expSp kc sp2) :: exp rest false := by
        rcases h5 with rfl | ⟨w, hw, rfl⟩
        · exact ⟨false, by rw [List.nil_append, exp_append]; simp [exp]⟩
        · exact ⟨true, by simp only [List.cons_append, List.nil_append, exp]; rw [exp_append]; simp [exp]⟩
      obtain ⟨sp2, hsp2⟩ := hnl
      have hkids := ih1 hk sp2
      have e : exp (ws ++ ⟨some (tkOf (.mk k u x b a kids)), out⟩ :: (nl ++ (kc ++ ⟨some ⟨closeKind k, 0, []⟩, [closer k]⟩ :: rest))) sp = (tkOf (.mk k u x b a kids), out, sp || has) :: (exp kc sp2 ++ (⟨closeKind k, 0, []⟩, [closer k], expSp kc sp2) :: exp rest false) := by
        cases has with
        | true => obtain ⟨w, hw, rfl⟩ := h1 rfl; simp [exp, hsp2]
        | false => rw [h2 rfl]; simp [exp, hsp2]
      show All2 FitP (exp (ws ++ ⟨some (tkOf (.mk k u x b a kids)), out⟩ :: (nl ++ (kc ++ ⟨some ⟨closeKind k, 0, []⟩, [closer k]⟩ :: rest))) sp) _
      rw [e]
      simp only [pcs]
      rw [if_pos (by exact h3)]
      refine .cons ⟨rfl, isIt_own ht h4 _ _, ok1_low ht, ok1_not_close ht⟩ ?_
      rw [List.append_assoc]
      exact hkids.append (.cons ⟨rfl, rfl⟩ hrest)

/-- Two tokens that were read are the same. -/
structure SameTk (r q : Tk × List Int × Bool) : Prop where
  tk : r.1 = q.1
  dim : r.1.kind = 26 → r.1.unit ≤ r.2.1.length ∧ r.1.unit ≤ q.2.1.length ∧ r.2.1.take r.1.unit = q.2.1.take r.1.unit ∧ (∀ c ∈ r.2.1.take r.1.unit, c < 128) ∧ name (r.2.1.drop r.1.unit) = name (q.2.1.drop r.1.unit) ∧ (name (r.2.1.drop r.1.unit)).2 = (false, [])
  rest : ¬ nameLikeK r.1.kind → r.1.kind ≠ 26 → r.2.1 = q.2.1
theorem fitP_same {r q : Tk × List Int × Bool} {p : Pc} (h1 : FitP r p) (h2 : FitP q p) : SameTk r q := by
  cases p with
  | close k =>
    refine ⟨h1.1.trans h2.1.symm, fun h => ?_, fun _ _ => h1.2.trans h2.2.symm⟩
    rw [h1.1] at h
    have := closeKind_close k
    unfold isClose at this
    simp only [] at h; omega
  | tok t =>
    obtain ⟨a1, ⟨b1, b2, b3, b4⟩, c1, n1⟩ := h1
    obtain ⟨a2, ⟨d1, d2, d3, d4⟩, _⟩ := h2
    have e := a1.trans a2.symm
    simp only [] at b1 b2 b3 b4 d1 d2 d3 d4
    refine ⟨e, fun h => ?_, fun h3 h26 => ?_⟩
    · have hk : t.kind = 26 := by rw [← b1]; exact h
      obtain ⟨u1, u2, u3, u4, u5⟩ := b3 hk
      obtain ⟨v1, v2, v3, v4, v5⟩ := d3 hk
      rw [← e] at v1 v2 v3 v4 v5
      have hu : r.1.unit = t.unit := by omega
      refine ⟨u4, v4, u2.trans v2.symm, ?_, u3.trans v3.symm, by rw [u3]⟩
      rw [u2, hu]; exact c1 hk
    · rw [b1] at h3 h26
      unfold nameLikeK at h3
      unfold isClose at n1
      rw [b4 (by omega), d4 (by omega)]
theorem All2.same {α β : Type} {R : α → β → Prop} {S : α → α → Prop} (hS : ∀ x y z, R x z → R y z → S x y) {a b : List α} {c : List β} (h1 : All2 R a c) (h2 : All2 R b c) : All2 S a b := by
  induction h1 generalizing b with
  | nil => cases h2; exact .nil
  | cons h _ ih => cases h2 with | cons h' h2' => exact .cons (hS _ _ _ h h') (ih h2')
/-- The tokens of an at-rule, whatever its form. -/
theorem at_same {a1 a2 m1 m2 : Bool} {nm : List Int} {ts : List T} {cl1 cl2 : List Ch} (h1 : Prints a1 ts (headBefore ts) cl1) (h2 : Prints a2 ts (headBefore ts) cl2) (k1 : OKl a1 ts) (k2 : OKl a2 ts) (hne : nm ≠ []) (g1 : Good a1 nm) (g2 : Good a2 nm) :
    ∃ x y, reads (flat (atCh a1 m1 nm ts cl1)) false = (x, 0, false) ∧ reads (flat (atCh a2 m2 nm ts cl2)) false = (y, 0, false) ∧ All2 SameTk x y := by
  refine ⟨_, _, chain_read (at_chain hne g1 h1 k1), chain_read (at_chain hne g2 h2 k2), ?_⟩
  unfold atCh
  simp only [exp]
  refine .cons ⟨rfl, fun h => by simp at h, fun h => absurd (by simp [nameLikeK]) h⟩ ?_
  rw [exp_wsIf, exp_wsIf, exp_append, exp_append]
  refine (All2.same (R := FitP) (S := SameTk) (fun _ _ _ h h' => fitP_same h h') (prints_pcs h1 k1 _) (prints_pcs h2 k2 _)).append ?_
  simp only [exp]
  have e1 : exp (wsIf (!m1) [10]) false = [] := by unfold wsIf; cases m1 <;> simp [exp]
  have e2 : exp (wsIf (!m2) [10]) false = [] := by unfold wsIf; cases m2 <;> simp [exp]
  rw [e1, e2]
  exact .cons ⟨rfl, fun h => by simp at h, fun _ _ => rfl⟩ .nil
end Css
end Go.Proofs.YtkfdcbdlcipmfaaGreatFmt
/- PLAIN: how much is printed of a tree. No program in sight. -/
namespace Go.Proofs.YtkfdcbdlcipmfaaGreatFmt
namespace Css
theorem escOut_len {E : Nat} {c : Int} {t : List Int} {may : Bool} (hv : Valid c) : (enc (escOut E c t may)).length ≤ 16 := by
  have hl : (hexs c).length ≤ 6 := hexsN_len 5 c.toNat (by unfold Valid at hv; omega)
  have he : (enc (hexs c)).length = (hexs c).length := enc_ascii_len fun d hd => by
    have := hexsN_hex c.toNat d hd; unfold isHex at this; omega
  have hw := wd_pos c
  unfold escOut
  split
  · rw [enc_length_cons]; simp [enc]; omega
  · split
    · rw [enc_length_cons, enc_length_cons]; have := wd_pos 92; simp [enc]; omega
    · rw [enc_length_cons, enc_append, List.length_append, he]
      have := wd_pos 92
      split
      · rw [enc_length_cons]; have := wd_pos 32; simp [enc]; omega
      · simp [enc]; omega
theorem identTail_len {asc may : Bool} {cs : List Int} (hv : ∀ c ∈ cs, Valid c) : (enc (identTail asc may cs)).length ≤ 16 * cs.length := by
  induction cs with
  | nil => simp [identTail, enc]
  | cons c t ih =>
    have h1 := ih fun d hd => hv d (by simp [hd])
    simp only [identTail, enc_append, List.length_append, List.length_cons]
    have := escOut_len (E := charEsc asc 0 c) (t := t) (may := may) (hv c (by simp))
    omega
theorem ident_len {asc may : Bool} {m : Nat} {cs : List Int} (hv : ∀ c ∈ cs, Valid c) : (enc (ident asc may m cs)).length ≤ 16 * cs.length := by
  unfold ident
  cases cs with
  | nil => simp [identOut, enc]
  | cons c t =>
    simp only [identOut, enc_append, List.length_append, List.length_cons]
    have h1 := identTail_len (asc := asc) (may := may) fun d hd => hv d (List.mem_cons_of_mem c hd)
    have := escOut_len (E := charEsc asc (initEsc m (c :: t)) c) (t := t) (may := may) (hv c (by simp))
    omega
theorem enc_len_le (cs : List Int) : (enc cs).length ≤ 4 * cs.length := by
  induction cs with
  | nil => simp [enc]
  | cons c t ih => rw [enc_length_cons, List.length_cons]; have := wd_pos c; omega
theorem len_le_enc (cs : List Int) : cs.length ≤ (enc cs).length := by
  induction cs with
  | nil => simp
  | cons c t ih => rw [enc_length_cons, List.length_cons]; have := wd_pos c; omega
/-- A bound of what is printed of trees. -/
def cost : List T → Nat
  | [] => 0
  | .mk k u x b a kids :: ts => 16 * x.length + 8192 + cost kids + cost ts
theorem cost_cons (t : T) (ts : List T) : cost (t :: ts) = 16 * t.text.length + 8192 + cost t.kids + cost ts := by
  obtain ⟨k, u, x, b, a, kids⟩ := t
  rw [cost]; rfl
def costN (l : List N) : Nat := (l.map fun n => 16 * n.text.length + 8192).sum
theorem parse_cost {d : Int} {l : List N} {ts : List T} {rest : List N} (h : Parse d l ts rest) : cost ts + costN rest ≤ costN l := by
  induction h with
  | nil => simp [cost, costN]
  | stop => simp [cost]
  | leaf d n r ts rest hd ho hp ih =>
    rw [cost_cons]
    simp only [T.text, T.kids, cost]
    unfold costN at ih ⊢
    simp only [List.map_cons, List.sum_cons]
    omega
  | node d n r kids r1 ts rest hd ho hp1 hp2 ih1 ih2 =>
    rw [cost_cons]
    simp only [T.text, T.kids]
    unfold costN at ih1 ih2 ⊢
    simp only [List.map_cons, List.sum_cons]
    omega
end Css
end Go.Proofs.YtkfdcbdlcipmfaaGreatFmt
/- PLAIN: two prints of trees with two blanks between are a print of both. No program in sight. -/
namespace Go.Proofs.YtkfdcbdlcipmfaaGreatFmt
namespace Css
def Sp01 (s : List Int) : Prop := s = [] ∨ s = [32]
theorem escOut_may (E : Nat) (c : Int) (t : List Int) : ∃ s, Sp01 s ∧ escOut E c t true = escOut E c t false ++ s ∧ (t ≠ [] → s = []) := by
  cases t with
  | cons d t => exact ⟨[], .inl rfl, by simp [escOut, wantSp], fun _ => rfl⟩
  | nil =>
    unfold escOut
    simp only [wantSp, Bool.and_true, Bool.and_false, Bool.false_eq_true, if_false]
    split
    · exact ⟨[], .inl rfl, by simp, fun _ => rfl⟩
    split
    · exact ⟨[], .inl rfl, by simp, fun _ => rfl⟩
    · split
      · exact ⟨[32], .inr rfl, by simp, fun h => absurd rfl h⟩
      · exact ⟨[], .inl rfl, by simp, fun _ => rfl⟩
theorem identTail_may (asc : Bool) (cs : List Int) : ∃ s, Sp01 s ∧ identTail asc true cs = identTail asc false cs ++ s := by
  induction cs with
  | nil => exact ⟨[], .inl rfl, rfl⟩
  | cons c t ih =>
    obtain ⟨s, h1, h2⟩ := ih
    obtain ⟨s', h3, h4, h5⟩ := escOut_may (charEsc asc 0 c) c t
    simp only [identTail, h2, h4]
    cases t with
    | nil =>
      simp only [identTail, List.nil_append, List.append_nil] at h2 ⊢
      exact ⟨s' ++ s, by rw [← h2]; simpa using h3, by simp⟩
    | cons d t => rw [h5 (by simp)]; exact ⟨s, h1, by simp⟩
theorem ident_may (asc : Bool) (m : Nat) (cs : List Int) : ∃ s, Sp01 s ∧ ident asc true m cs = ident asc false m cs ++ s := by
  unfold ident
  cases cs with
  | nil => exact ⟨[], .inl rfl, rfl⟩
  | cons c t =>
    obtain ⟨s, h1, h2⟩ := identTail_may asc t
    obtain ⟨s', h3, h4, h5⟩ := escOut_may (charEsc asc (initEsc m (c :: t)) c) c t
    simp only [identOut, h2, h4]
    cases t with
    | nil =>
      simp only [identTail, List.nil_append, List.append_nil] at h2 ⊢
      exact ⟨s' ++ s, by rw [← h2]; simpa using h3, by simp⟩
    | cons d t => rw [h5 (by simp)]; exact ⟨s, h1, by simp⟩
def T.setA : T → T | .mk k u x b a kids => .mk k u x b true kids
theorem setA_kind (t : T) : t.setA.kind = t.kind := by cases t; rfl
theorem setA_before (t : T) : t.setA.before = t.before := by cases t; rfl
theorem setA_after (t : T) : t.setA.after = true := by cases t; rfl
theorem setA_kids (t : T) : t.setA.kids = t.kids := by cases t; rfl
theorem setA_tk (t : T) : tkOf t.setA = tkOf t := by cases t; rfl
theorem own_setA {asc : Bool} {t : T} {out : List Int} (h : Own asc false t out) : ∃ s, Sp01 s ∧ Own asc true t.setA (out ++ s) := by
  obtain ⟨k, u, x, b, a, kids⟩ := t
  cases h with
  | ident h => obtain ⟨s, h1, h2⟩ := ident_may asc 0 x; exact ⟨s, h1, by show Own asc true _ (ident asc false 0 x ++ s); rw [← h2]; exact .ident h⟩
  | func m h => exact ⟨[], .inl rfl, by rw [List.append_nil]; exact .func m h⟩
  | dim h =>
    obtain ⟨s, h1, h2⟩ := ident_may asc (unitMode (x.take u)) (x.drop u)
    refine ⟨s, h1, ?_⟩
    show Own asc true _ (x.take u ++ ident asc false (unitMode (x.take u)) (x.drop u) ++ s)
    rw [List.append_assoc, ← h2]; exact .dim h
  | atk h => obtain ⟨s, h1, h2⟩ := ident_may asc 0 x; exact ⟨s, h1, by show Own asc true _ (64 :: (ident asc false 0 x ++ s)); rw [← h2]; exact .atk h⟩
  | hash h => obtain ⟨s, h1, h2⟩ := ident_may asc 1 x; exact ⟨s, h1, by show Own asc true _ (35 :: (ident asc false 1 x ++ s)); rw [← h2]; exact .hash h⟩
  | str q o h1 h2 h3 => exact ⟨[], .inl rfl, by rw [List.append_nil]; exact .str q o h1 h2 h3⟩
  | plain h1 h2 h3 h4 h5 h6 => exact ⟨[], .inl rfl, by rw [List.append_nil]; exact .plain h1 h2 h3 h4 h5 h6⟩
/-- What a token that opens prints does not hang on what follows. -/
theorem own_opens {asc may : Bool} {t : T} {out : List Int} (h : Own asc may t out) (ho : opens t.kind) : Own asc true t.setA out := by
  obtain ⟨k, u, x, b, a, kids⟩ := t
  unfold opens at ho
  simp only [T.kind] at ho
  cases h with
  | ident h | dim h | atk h | hash h => simp only [T.kind] at h; omega
  | str q o h => simp only [T.kind] at h; omega
  | func m h => exact .func m h
  | plain h1 h2 h3 h4 h5 h6 => exact .plain h1 h2 h3 h4 h5 h6
def joinA : List T → List T → List T
  | [], vs => vs
  | [t], vs => t.setA :: vs
  | t :: u :: ts, vs => t :: joinA (u :: ts) vs
theorem joinA_head (t : T) (ts vs : List T) : headBefore (joinA (t :: ts) vs) = t.before := by
  cases ts with
  | nil => exact setA_before t
  | cons u us => rfl
def lastA : List T → Bool
  | [] => true
  | [t] => t.after
  | _ :: u :: ts => lastA (u :: ts)
theorem prints_spaced {asc : Bool} {us : List T} {cl : List Ch} (h : Prints asc us false cl) {w : List Int} (hw : Blank w) : Prints asc us true (⟨none, w⟩ :: cl) := by
  cases h with
  | nil => exact .last w hw
  | plain t ts _ ws out rest h1 h2 h3 h4 h5 =>
    rw [h2 rfl]
    exact .plain t ts true [⟨none, w⟩] out rest (fun _ => ⟨w, hw, rfl⟩) (fun h => by cases h) h3 h4 h5
  | opened t ts _ ws nl out kc rest h1 h2 h3 h4 h5 h6 h7 =>
    rw [h2 rfl]
    exact .opened t ts true [⟨none, w⟩] nl out kc rest (fun _ => ⟨w, hw, rfl⟩) (fun h => by cases h) h3 h4 h5 h6 h7
theorem blank_rest {s : List Int} (h : Sp01 s) : ∃ w, Blank w ∧ s ++ w = [32, 32] := by
  rcases h with rfl | rfl
  · exact ⟨[32, 32], ⟨by simp, by simp⟩, rfl⟩
  · exact ⟨[32], ⟨by simp, by simp⟩, rfl⟩
theorem prints_join {asc : Bool} {ts : List T} {has : Bool} {cl : List Ch} (h : Prints asc ts has cl) {vs : List T} {vl : List Ch} (hv : Prints asc vs false vl) (hb : headBefore vs = false) :
    lastA ts = false → ∃ cl2, Prints asc (joinA ts vs) has cl2 ∧ flat cl2 = flat cl ++ (32 :: 32 :: flat vl) := by
  induction h with
  | nil => intro h; cases h
  | last w hw => intro h; cases h
  | plain t ts has ws out rest h1 h2 h3 h4 h5 ih =>
    intro hl
    cases ts with
    | nil =>
      have ha : t.after = false := hl
      rw [ha] at h4 h5
      have hr : rest = [] := by cases h5; rfl
      subst hr
      obtain ⟨s, hs, ho⟩ := own_setA h4
      obtain ⟨w, hw, hsw⟩ := blank_rest hs
      refine ⟨ws ++ ⟨some (tkOf t.setA), out ++ s⟩ :: (⟨none, w⟩ :: vl), ?_, ?_⟩
      · refine .plain t.setA vs has ws (out ++ s) _ h1 h2 (by rw [setA_kind]; exact h3) ?_ ?_
        · rw [setA_after, Bool.true_or]; exact ho
        · rw [setA_after, Bool.true_or]; exact prints_spaced hv hw
      · simp only [flat_append, flat_cons, List.append_assoc]
        congr 2
        have : flat ([] : List Ch) = [] := rfl
        rw [this, List.nil_append, ← List.append_assoc, hsw]; rfl
    | cons u us =>
      obtain ⟨cl2, hp, hf⟩ := ih hl
      refine ⟨ws ++ ⟨some (tkOf t), out⟩ :: cl2, ?_, ?_⟩
      · refine .plain t (joinA (u :: us) vs) has ws out cl2 h1 h2 h3 ?_ ?_
        · rw [joinA_head]; exact h4
        · rw [joinA_head]; exact hp
      · simp only [flat_append, flat_cons, List.append_assoc, hf]
  | opened t ts has ws nl out kc rest h1 h2 h3 h4 h5 h6 h7 ih1 ih2 =>
    intro hl
    cases ts with
    | nil =>
      have ha : t.after = false := hl
      rw [ha] at h4 h7
      have hr : rest = [] := by cases h7; rfl
      subst hr
      refine ⟨ws ++ ⟨some (tkOf t.setA), out⟩ :: (nl ++ (kc ++ ⟨some ⟨closeKind t.setA.kind, 0, []⟩, [closer t.setA.kind]⟩ :: (⟨none, [32, 32]⟩ :: vl))), ?_, ?_⟩
      · refine .opened t.setA vs has ws nl out kc _ h1 h2 (by rw [setA_kind]; exact h3) ?_ h5 (by rw [setA_kids]; exact h6) ?_
        · rw [setA_after, Bool.true_or]; exact own_opens h4 h3
        · rw [setA_after, Bool.true_or]; exact prints_spaced hv ⟨by simp, by simp⟩
      · rw [setA_kind]
        simp only [flat_append, flat_cons, List.append_assoc]
        have : flat ([] : List Ch) = [] := rfl
        rw [this]
        simp
    | cons u us =>
      obtain ⟨cl2, hp, hf⟩ := ih2 hl
      refine ⟨ws ++ ⟨some (tkOf t), out⟩ :: (nl ++ (kc ++ ⟨some ⟨closeKind t.kind, 0, []⟩, [closer t.kind]⟩ :: cl2)), ?_, ?_⟩
      · refine .opened t (joinA (u :: us) vs) has ws nl out kc cl2 h1 h2 h3 ?_ h5 h6 ?_
        · rw [joinA_head]; exact h4
        · rw [joinA_head]; exact hp
      · simp only [flat_append, flat_cons, List.append_assoc, hf]
end Css
end Go.Proofs.YtkfdcbdlcipmfaaGreatFmt
/- PLAIN: the trees of two lists of nodes, one behind the other. No program in sight. -/
namespace Go.Proofs.YtkfdcbdlcipmfaaGreatFmt
namespace Css
def Low (d : Int) (l : List N) : Prop := ∀ n r, l = n :: r → n.depth < d
/-- What a parse takes; what stands behind it is of no matter. -/
theorem parse_split {d : Int} {l : List N} {ts : List T} {rest : List N} (h : Parse d l ts rest) : ∃ k, l = k ++ rest ∧ (∀ n ∈ k, d ≤ n.depth) ∧ ∀ rest', Low d rest' → Parse d (k ++ rest') ts rest' := by
  induction h with
  | nil d =>
    refine ⟨[], rfl, by simp, fun rest' hl => ?_⟩
    cases rest' with
    | nil => exact .nil d
    | cons n r => exact .stop d n r (hl n r rfl)
  | stop d n r hd =>
    refine ⟨[], rfl, by simp, fun rest' hl => ?_⟩
    cases rest' with
    | nil => exact .nil d
    | cons n r => exact .stop d n r (hl n r rfl)
  | leaf d n r ts rest hd ho hp ih =>
    obtain ⟨k, e, hk, hf⟩ := ih
    refine ⟨n :: k, by rw [e]; rfl, ?_, fun rest' hl => .leaf d n (k ++ rest') ts rest' hd ho (hf rest' hl)⟩
    intro m hm
    rw [List.mem_cons] at hm
    rcases hm with rfl | hm
    · omega
    · exact hk m hm
  | node d n r kids r1 ts rest hd ho hp1 hp2 ih1 ih2 =>
    obtain ⟨k1, e1, hk1, hf1⟩ := ih1
    obtain ⟨k2, e2, hk2, hf2⟩ := ih2
    refine ⟨n :: (k1 ++ k2), by rw [e1, e2]; simp, ?_, fun rest' hl => ?_⟩
    · intro m hm
      rw [List.mem_cons, List.mem_append] at hm
      rcases hm with rfl | hm | hm
      · omega
      · have := hk1 m hm; omega
      · exact hk2 m hm
    · have h2 := hf2 rest' hl
      have hlow : Low (n.depth + 1) (k2 ++ rest') := by
        intro x y e
        have hr := (parse_rest hp1).1
        cases k2 with
        | nil =>
          have := hl x y (by simpa using e); omega
        | cons z zs =>
          have h3 := hr z (zs ++ rest) (by rw [e2]; rfl)
          simp only [List.cons_append, List.cons.injEq] at e
          rw [← e.1]; exact h3
      have h1 := hf1 (k2 ++ rest') hlow
      rw [← List.append_assoc] at h1
      exact .node d n (k1 ++ k2 ++ rest') kids (k2 ++ rest') ts rest' hd ho h1 h2
/-- Nodes behind nodes at the same depth. -/
theorem parse_append {d : Int} {a b : List N} {ts us : List T} (h : Parse d a ts []) (hb : Parse d b us []) (hlow : ∀ n r, b = n :: r → n.depth ≤ d) : Parse d (a ++ b) (ts ++ us) [] := by
  generalize e : ([] : List N) = rest at h
  induction h with
  | nil d => exact e ▸ hb
  | stop d n r hd => cases e
  | leaf d n r ts rest hd ho hp ih => subst e; exact .leaf d n (r ++ b) (ts ++ us) [] hd ho (ih hb hlow rfl)
  | node d n r kids r1 ts rest hd ho hp1 hp2 ih1 ih2 =>
    obtain ⟨k1, e1, hk1, hf1⟩ := parse_split hp1
    subst e1
    subst e
    have h2 := ih2 hb hlow rfl
    have hl : Low (n.depth + 1) (r1 ++ b) := by
      intro x y e'
      cases r1 with
      | nil => have := hlow x y (by simpa using e'); omega
      | cons z zs =>
        have := (parse_rest hp1).1 z zs rfl
        simp only [List.cons_append, List.cons.injEq] at e'
        rw [← e'.1]; exact this
    have h1 := hf1 (r1 ++ b) hl
    have := Parse.node d n (k1 ++ (r1 ++ b)) kids (r1 ++ b) (ts ++ us) [] hd ho h1 h2
    simpa using this
theorem parse_det {d : Int} {l : List N} {ts us : List T} {r1 r2 : List N} (h : Parse d l ts r1) (h' : Parse d l us r2) : ts = us ∧ r1 = r2 := by
  induction h generalizing us r2 with
  | nil => cases h'; exact ⟨rfl, rfl⟩
  | stop d n r hd =>
    cases h' with
    | stop => exact ⟨rfl, rfl⟩
    | leaf _ _ _ _ _ h => exact absurd hd h
    | node _ _ _ _ _ _ _ h => exact absurd hd h
  | leaf d n r ts rest hd ho hp ih =>
    cases h' with
    | stop _ _ _ h => exact absurd h hd
    | leaf _ _ _ ts' _ _ _ h => obtain ⟨rfl, rfl⟩ := ih h; exact ⟨rfl, rfl⟩
    | node _ _ _ _ _ _ _ _ h => exact absurd h ho
  | node d n r kids r1 ts rest hd ho hp1 hp2 ih1 ih2 =>
    cases h' with
    | stop _ _ _ h => exact absurd h hd
    | leaf _ _ _ _ _ _ h => exact absurd ho h
    | node _ _ _ kids' r1' ts' _ _ _ h1 h2 =>
      obtain ⟨rfl, rfl⟩ := ih1 h1
      obtain ⟨rfl, rfl⟩ := ih2 h2
      exact ⟨rfl, rfl⟩
def T.setB (x : Bool) : T → T | .mk k u t b _ kids => .mk k u t b x kids
def lastSet (x : Bool) : List T → List T
  | [] => []
  | [t] => [t.setB x]
  | t :: u :: ts => t :: lastSet x (u :: ts)
theorem joinA_eq (ts vs : List T) : joinA ts vs = lastSet true ts ++ vs := by
  induction ts with
  | nil => rfl
  | cons t ts ih =>
    cases ts with
    | nil => cases t; rfl
    | cons u us => simp only [joinA, lastSet, List.cons_append]; rw [ih]
theorem lastA_set (t : T) (ts : List T) (x : Bool) : lastA (lastSet x (t :: ts)) = x := by
  induction ts generalizing t with
  | nil => cases t; rfl
  | cons u us ih =>
    have := ih u
    cases us with
    | nil => cases u; rfl
    | cons v vs => exact this
/-- The last node at the top, with whitespace behind it or not. -/
def endSet (x : Bool) : List N → List N
  | [] => []
  | n :: r => if r.any (fun m => decide (m.depth ≤ 0)) then n :: endSet x r else if n.depth ≤ 0 then setAfter n x :: r else n :: r
theorem endSet_append (x : Bool) (k r : List N) (h : r.any (fun m => decide (m.depth ≤ 0)) = true) : endSet x (k ++ r) = k ++ endSet x r := by
  induction k with
  | nil => rfl
  | cons n k ih =>
    rw [List.cons_append, endSet, if_pos (by rw [List.any_append, h, Bool.or_true]), ih]; rfl
theorem endSet_low (x : Bool) {l : List N} (h : ∀ n r, l = n :: r → n.depth ≤ 0) : ∀ n r, endSet x l = n :: r → n.depth ≤ 0 := by
  intro n r e
  cases l with
  | nil => cases e
  | cons m s =>
    have hm := h m s rfl
    rw [endSet] at e
    split at e
    · injection e with e _; rw [← e]; exact hm
    · skip
      injection e with e _; rw [← e]; exact hm
theorem parse_endSet (x : Bool) {l : List N} {ts : List T} (h : Parse 0 l ts []) : (∃ m, Tree m l ∧ m ≤ 0) → Parse 0 (endSet x l) (lastSet x ts) [] := by
  generalize e : ([] : List N) = rest at h
  generalize e0 : (0 : Int) = d at h
  induction h with
  | nil d => intro _; subst e0; exact .nil 0
  | stop d n r hd => cases e
  | leaf d n r ts rest hd ho hp ih =>
    subst e0
    rintro ⟨m, ht, hm⟩
    have hd0 : n.depth ≤ 0 := by have := ht.2.1; omega
    have ht2 := ht.2.2
    rw [if_neg ho] at ht2
    have ih' := ih e rfl ⟨_, ht2, hd0⟩
    cases r with
    | nil =>
      cases hp
      simp only [endSet, lastSet]
      rw [if_neg (by simp), if_pos hd0]
      exact .leaf 0 (setAfter n x) [] [] [] hd ho (.nil 0)
    | cons p q =>
      have hp0 : p.depth ≤ 0 := by have := ht2.2.1; omega
      rw [endSet, if_pos (by simp [hp0])]
      cases ts with
      | nil =>
        cases hp with
        | stop _ _ _ h => have := ht2.1; omega
      | cons u us => exact .leaf 0 n _ _ _ hd ho ih'
  | node d n r kids r1 ts rest hd ho hp1 hp2 ih1 ih2 =>
    subst e0
    rintro ⟨m, ht, hm⟩
    have hd0 : n.depth ≤ 0 := by have := ht.2.1; omega
    have hn0 : n.depth = 0 := by have := ht.1; omega
    have ht2 := ht.2.2
    rw [if_pos ho] at ht2
    obtain ⟨k1, e1, hk1, hf1⟩ := parse_split hp1
    obtain ⟨hr, htr⟩ := parse_rest hp1
    obtain ⟨m', ht3⟩ := htr _ ht2
    subst e1
    have hno : ∀ l : List N, (∀ n ∈ l, 1 ≤ n.depth) → l.any (fun m => decide (m.depth ≤ 0)) = false := by
      intro l h
      rw [List.any_eq_false]
      intro y hy
      have := h y hy
      simp; omega
    have hk0 : ∀ y ∈ k1, 1 ≤ y.depth := fun y hy => by have := hk1 y hy; omega
    cases r1 with
    | nil =>
      cases hp2
      rw [endSet, if_neg (by rw [List.append_nil, hno k1 hk0]; simp), if_pos hd0]
      simp only [lastSet]
      exact .node 0 (setAfter n x) _ kids [] [] [] hd ho hp1 (.nil 0)
    | cons p q =>
      have hp0 : p.depth ≤ 0 := by have := hr p q rfl; omega
      have hany : (p :: q).any (fun m => decide (m.depth ≤ 0)) = true := by simp [hp0]
      rw [endSet, if_pos (by rw [List.any_append, hany, Bool.or_true]), endSet_append x k1 _ hany]
      have ht4 : Tree 0 (p :: q) := ht3.any (fun n r e => by cases e; exact hp0)
      have ih' := ih2 e rfl ⟨0, ht4, Int.le_refl _⟩
      cases ts with
      | nil =>
        cases hp2 with
        | stop _ _ _ h => have := ht4.1; omega
      | cons u us =>
        refine .node 0 n _ kids (endSet x (p :: q)) _ _ hd ho (hf1 _ ?_) ih'
        intro y z ey
        have := endSet_low x (l := p :: q) (fun n r e => by cases e; exact hp0) y z ey
        omega
end Css
end Go.Proofs.YtkfdcbdlcipmfaaGreatFmt
/- PLAIN: two trees of the statements, one behind the other. No program in sight. -/
namespace Go.Proofs.YtkfdcbdlcipmfaaGreatFmt
namespace Css
def afterR (x : Bool) (n : RN) : RN := { n with after := x }
def noBefore : List RN → List RN
  | [] => []
  | n :: r => { n with before := false } :: r
def endSetR (x : Bool) : List RN → List RN
  | [] => []
  | n :: r => if r.any (fun m => decide (m.depth ≤ 0)) then n :: endSetR x r else if n.depth ≤ 0 then afterR x n :: r else n :: r
theorem endSetR_cp (x : Bool) (l : List RN) : (endSetR x l).map RN.cp = endSet x (l.map RN.cp) := by
  induction l with
  | nil => rfl
  | cons n r ih =>
    have e : (r.map RN.cp).any (fun m => decide (m.depth ≤ 0)) = r.any (fun m => decide (m.depth ≤ 0)) := by rw [List.any_map]; rfl
    simp only [endSetR, List.map_cons, endSet, e]
    split
    · rw [List.map_cons, ih]
    · show List.map RN.cp (if n.depth ≤ 0 then _ else _) = if n.depth ≤ 0 then _ else _
      split <;> rfl
theorem endSetR_len (x : Bool) (l : List RN) : (endSetR x l).length = l.length := by
  induction l with
  | nil => rfl
  | cons n r ih => simp only [endSetR]; split; simp [ih]; split <;> simp
theorem endSetR_at (x : Bool) : ∀ (l : List RN) (e : Nat) (n : RN), l[e]? = some n → n.depth ≤ 0 → (∀ j m, e < j → l[j]? = some m → ¬ m.depth ≤ 0) → endSetR x l = l.set e (afterR x n) := by
  intro l
  induction l with
  | nil => intro e n h; simp at h
  | cons a r ih =>
    intro e n h hn hr
    cases e with
    | zero =>
      simp only [List.getElem?_cons_zero, Option.some.injEq] at h
      subst h
      rw [endSetR, if_neg, if_pos hn]; rfl
      rw [Bool.not_eq_true, List.any_eq_false]
      intro m hm
      obtain ⟨j, hj, rfl⟩ := List.getElem_of_mem hm
      have := hr (j + 1) r[j] (by omega) (by simp [hj])
      simp; omega
    | succ e =>
      rw [List.getElem?_cons_succ] at h
      rw [endSetR, if_pos, ih e n h hn (fun j m hj hm => hr (j + 1) m (by omega) (by simpa using hm))]; rfl
      rw [List.any_eq_true]
      exact ⟨n, List.mem_of_getElem? h, by simpa using hn⟩
theorem endSetR_mem {x : Bool} {l : List RN} {y : RN} (h : y ∈ endSetR x l) : ∃ n ∈ l, y = n ∨ y = afterR x n := by
  induction l with
  | nil => cases h
  | cons a r ih =>
    rw [endSetR] at h
    split at h
    · rw [List.mem_cons] at h
      rcases h with rfl | h
      · exact ⟨_, by simp, .inl rfl⟩
      · obtain ⟨n, hn, e⟩ := ih h; exact ⟨n, by simp [hn], e⟩
    · split at h
      · rw [List.mem_cons] at h
        rcases h with rfl | h
        · exact ⟨a, by simp, .inr rfl⟩
        · exact ⟨y, by simp [h], .inl rfl⟩
      · exact ⟨y, h, .inl rfl⟩
theorem tree_endSet (x : Bool) (l : List N) : ∀ m, Tree m l → Tree m (endSet x l) := by
  induction l with
  | nil => intro m h; exact h
  | cons n r ih =>
    intro m h
    rw [endSet]
    split
    · exact ⟨h.1, h.2.1, ih _ h.2.2⟩
    · split
      · exact ⟨h.1, h.2.1, h.2.2⟩
      · exact h
theorem GoodTree.end {ascii : Bool} {l : List RN} (h : GoodTree ascii l) (x : Bool) : GoodTree ascii (endSetR x l) := by
  refine ⟨by rw [endSetR_cp]; exact tree_endSet x _ _ h.tree, fun y hy => ?_, fun y hy => ?_⟩
  · obtain ⟨n, hn, rfl | rfl⟩ := endSetR_mem hy
    · exact h.node _ hn
    · exact h.node n hn
  · obtain ⟨n, hn, rfl | rfl⟩ := endSetR_mem hy
    · exact h.low _ hn
    · exact h.low n hn
theorem noBefore_mem {l : List RN} {y : RN} (h : y ∈ noBefore l) : ∃ n ∈ l, y = n ∨ y = { n with before := false } := by
  cases l with
  | nil => cases h
  | cons a r =>
    simp only [noBefore, List.mem_cons] at h
    rcases h with rfl | h
    · exact ⟨a, by simp, .inr rfl⟩
    · exact ⟨y, by simp [h], .inl rfl⟩
theorem GoodTree.noBefore {ascii : Bool} {l : List RN} (h : GoodTree ascii l) : GoodTree ascii (noBefore l) := by
  refine ⟨?_, fun y hy => ?_, fun y hy => ?_⟩
  · cases l with
    | nil => exact h.tree
    | cons a r => exact h.tree
  · obtain ⟨n, hn, rfl | rfl⟩ := noBefore_mem hy
    · exact h.node _ hn
    · exact h.node n hn
  · obtain ⟨n, hn, rfl | rfl⟩ := noBefore_mem hy
    · exact h.low _ hn
    · exact h.low n hn
theorem tree_append {a b : List N} : ∀ m, Tree m a → (∀ n r, b = n :: r → n.depth ≤ 0) → Tree 0 b → 0 ≤ m → Tree m (a ++ b) := by
  induction a with
  | nil => intro m _ hb ht hm; exact ht.any fun n r e => by have := hb n r e; omega
  | cons n r ih =>
    intro m h hb ht hm
    refine ⟨h.1, h.2.1, ih _ h.2.2 hb ht ?_⟩
    have := h.1
    split <;> omega
theorem GoodTree.append {ascii : Bool} {a b : List RN} (h : GoodTree ascii a) (hb : GoodTree ascii b) : GoodTree ascii (a ++ b) := by
  refine ⟨?_, fun y hy => ?_, fun y hy => ?_⟩
  · rw [List.map_append]
    refine tree_append 0 h.tree (fun n r e => ?_) hb.tree (Int.le_refl _)
    have := hb.tree; rw [e] at this; exact this.2.1
  · rw [List.mem_append] at hy
    exact hy.elim (h.node y) (hb.node y)
  · rw [List.mem_append] at hy
    exact hy.elim (h.low y) (hb.low y)
theorem gaps_join {l b : List N} : (∀ n r, b = n :: r → n.depth ≤ 0) → (∀ n ∈ l, 0 ≤ n.depth) → Gaps l → Gaps b → Gaps (endSet true l ++ b) := by
  intro hb
  induction l with
  | nil => intro _ _ h; exact h
  | cons n r ih =>
    intro h0 hl hgb
    have h0r : ∀ m ∈ r, 0 ≤ m.depth := fun m hm => h0 m (by simp [hm])
    rw [endSet]
    split
    · rename_i hany
      refine ⟨?_, ih h0r hl.2 hgb⟩
      intro m r' e ho hd ha
      cases r with
      | nil => simp at hany
      | cons p q =>
        have hp := hl.1 p q rfl ho
        have : m.depth = p.depth ∧ m.kind = p.kind ∧ m.text = p.text ∧ m.before = p.before := by
          rw [endSet] at e
          by_cases c1 : (q.any fun m => decide (m.depth ≤ 0)) = true
          · rw [if_pos c1] at e
            injection (show p :: (endSet true q ++ b) = m :: r' from e) with e _
            rw [← e]; exact ⟨rfl, rfl, rfl, rfl⟩
          · rw [if_neg c1] at e
            by_cases c2 : p.depth ≤ 0
            · rw [if_pos c2] at e
              injection (show setAfter p true :: (q ++ b) = m :: r' from e) with e _
              rw [← e]; exact ⟨rfl, rfl, rfl, rfl⟩
            · rw [if_neg c2] at e
              injection (show p :: (q ++ b) = m :: r' from e) with e _
              rw [← e]; exact ⟨rfl, rfl, rfl, rfl⟩
        obtain ⟨e1, e2, e3, e4⟩ := this
        rw [e4]
        exact hp (by omega) (apart_texts (a := tOf n) (a' := tOf n) (b := tOf m) (b' := tOf p) rfl rfl e2 e3 ha)
    · rename_i hany
      have htail : ∀ m ∈ r, ¬ m.depth ≤ 0 := by
        intro m hm h
        exact hany (List.any_eq_true.2 ⟨m, hm, by simpa using h⟩)
      have hrest : ∀ (s : List N), (∀ m ∈ s, ¬ m.depth ≤ 0) → Gaps s → Gaps (s ++ b) := by
        intro s
        induction s with
        | nil => intro _ _; exact hgb
        | cons x s ih2 =>
          intro hx hs
          refine ⟨?_, ih2 (fun m hm => hx m (by simp [hm])) hs.2⟩
          intro m r' e ho hd ha
          cases s with
          | nil =>
            have h1 := hb m r' e
            have h2 := hx x (by simp)
            omega
          | cons y s =>
            injection (show y :: (s ++ b) = m :: r' from e) with e _
            exact hs.1 m s (by rw [e]) ho hd ha
      split
      · refine ⟨fun m r' e ho hd ha => by simp [setAfter], hrest r htail hl.2⟩
      · rename_i hn
        exact hrest (n :: r) (by intro m hm; rw [List.mem_cons] at hm; rcases hm with rfl | hm; exact hn; exact htail m hm) hl
theorem gaps_noBefore {l : List RN} (h : Gaps (l.map RN.cp)) : Gaps ((noBefore l).map RN.cp) := by
  cases l with
  | nil => exact h
  | cons n r => exact ⟨fun m r' e ho hd ha => h.1 m r' e ho hd (apart_texts rfl rfl rfl rfl ha), h.2⟩
theorem tree_nonneg {l : List N} : ∀ {m : Int}, Tree m l → ∀ n ∈ l, 0 ≤ n.depth := by
  induction l with
  | nil => intro m _ n hn; cases hn
  | cons a r ih =>
    intro m h n hn
    rw [List.mem_cons] at hn
    rcases hn with rfl | hn
    · exact h.1
    · exact ih h.2.2 n hn
theorem endSet_twice (x y : Bool) (l : List N) : endSet x (endSet y l) = endSet x l := by
  induction l with
  | nil => rfl
  | cons n r ih =>
    have hany : ∀ (l : List N), (endSet y l).any (fun m => decide (m.depth ≤ 0)) = l.any (fun m => decide (m.depth ≤ 0)) := by
      intro l
      induction l with
      | nil => rfl
      | cons n r ih =>
        rw [endSet]
        split
        · simp [ih]
        · split
          · simp [setAfter]
          · rfl
    rw [endSet]
    split
    · rename_i h
      rw [endSet, hany, if_pos h, ih, endSet, if_pos h]
    · rename_i h
      split
      · rename_i hn
        rw [endSet, if_neg h, if_pos (by exact hn), endSet, if_neg h, if_pos hn]; rfl
      · rfl
theorem head_noBefore (l : List RN) {us : List T} (h : Parse 0 ((noBefore l).map RN.cp) us []) : headBefore us = false := by
  cases us with
  | nil => rfl
  | cons u us =>
    obtain ⟨n, r, e, _, _, _, h3⟩ := parse_head h rfl
    show u.before = false
    rw [h3]
    cases l with
    | nil => simp [noBefore] at e
    | cons a s => simp only [noBefore, List.map_cons, List.cons.injEq] at e; rw [← e.1]; rfl
/-- THE PIECES: a print of the one, two blanks, a print of the other are a print of both. -/
theorem pieces {ascii : Bool} {A B : List RN} (hA : GoodTree ascii A) (hB : GoodTree ascii B) (hne : A ≠ []) {ta tb tz : List T} {ca cb cz : List Ch}
    (ha : Parse 0 ((endSetR false (setR false A)).map RN.cp) ta []) (hb : Parse 0 ((noBefore (setR false B)).map RN.cp) tb [])
    (hz : Parse 0 ((endSetR true (endSetR false (setR false A)) ++ noBefore (setR false B)).map RN.cp) tz [])
    (pa : Prints ascii ta (headBefore ta) ca) (pb : Prints ascii tb (headBefore tb) cb) (pz : Prints ascii tz (headBefore tz) cz) :
    OKl ascii tz ∧ ∃ c2, Prints ascii tz (headBefore tz) c2 ∧ flat c2 = flat ca ++ (32 :: 32 :: flat cb) := by
  have gA := hA.set false
  have gB := hB.set false
  have gz := ((gA.end false).end true).append gB.noBefore
  have hlow : ∀ n r, (noBefore (setR false B)).map RN.cp = n :: r → n.depth ≤ 0 := fun n r e => by have := gB.noBefore.tree; rw [e] at this; exact this.2.1
  have hgap : Gaps ((endSetR true (endSetR false (setR false A)) ++ noBefore (setR false B)).map RN.cp) := by
    rw [List.map_append, endSetR_cp, endSetR_cp, endSet_twice]
    exact gaps_join hlow (tree_nonneg gA.tree) (by rw [setR_cp]; exact gaps_set false _) (gaps_noBefore (by rw [setR_cp]; exact gaps_set false _))
  have hta : ta ≠ [] := by
    intro e
    subst e
    generalize hL : (endSetR false (setR false A)).map RN.cp = L at ha
    cases ha with
    | nil =>
      have h1 := congrArg List.length hL
      rw [List.length_map, endSetR_len, setR_len] at h1
      exact hne (List.eq_nil_of_length_eq_zero h1)
  have hz' : Parse 0 ((endSetR true (endSetR false (setR false A)) ++ noBefore (setR false B)).map RN.cp) (lastSet true ta ++ tb) [] := by
    rw [List.map_append]
    refine parse_append ?_ hb hlow
    rw [endSetR_cp]
    exact parse_endSet true ha ⟨0, (gA.end false).tree, Int.le_refl _⟩
  obtain ⟨rfl, _⟩ := parse_det hz hz'
  refine ⟨okl_parse hz gz.tree hgap gz.ok, ?_⟩
  have hl : lastA ta = false := by
    obtain ⟨t0, hp0⟩ : ∃ t0, Parse 0 ((setR false A).map RN.cp) t0 [] := by
      obtain ⟨t0, h0, _⟩ := items_parse gA.tree gA.unit; exact ⟨t0, h0⟩
    have h1 := parse_endSet false hp0 ⟨0, gA.tree, Int.le_refl _⟩
    rw [← endSetR_cp] at h1
    obtain ⟨e, _⟩ := parse_det ha h1
    cases t0 with
    | nil => exact absurd e (by simpa [lastSet] using hta)
    | cons t ts => rw [e]; exact lastA_set t ts false
  have hb0 := head_noBefore _ hb
  rw [hb0] at pb
  obtain ⟨c2, h1, h2⟩ := prints_join pa pb hb0 hl
  rw [joinA_eq] at h1
  refine ⟨c2, ?_, h2⟩
  have : headBefore (lastSet true ta ++ tb) = headBefore ta := by
    rw [← joinA_eq]
    cases ta with
    | nil => exact absurd rfl hta
    | cons t ts => exact joinA_head t ts tb
  rw [this]; exact h1
end Css
end Go.Proofs.YtkfdcbdlcipmfaaGreatFmt
/- PLAIN: the guards of the statements' trees, as they are reckoned. No program in sight. -/
namespace Go.Proofs.YtkfdcbdlcipmfaaGreatFmt
namespace Css
def treeGo : Int → List RN → Bool
  | _, [] => true
  | most, n :: l => !decide (n.depth < 0) && !decide (most < n.depth) && isNodeB n && treeGo (if opens n.kind then n.depth + 1 else n.depth) l
theorem treeGo_iff (l : List RN) : ∀ most, treeGo most l = true ↔ Tree most (l.map RN.cp) ∧ ∀ n ∈ l, isNodeB n = true := by
  induction l with
  | nil => intro most; simp [treeGo, Tree]
  | cons n l ih =>
    intro most
    simp only [treeGo, Bool.and_eq_true, Bool.not_eq_true', decide_eq_false_iff_not, ih, List.map_cons, Tree, List.mem_cons, forall_eq_or_imp]
    show _ ↔ (0 ≤ n.depth ∧ n.depth ≤ most ∧ Tree (if opens n.kind then n.depth + 1 else n.depth) (List.map RN.cp l)) ∧ _
    constructor
    · rintro ⟨⟨⟨h1, h2⟩, h3⟩, h4, h5⟩
      exact ⟨⟨by omega, by omega, h4⟩, h3, h5⟩
    · rintro ⟨⟨h1, h2, h3⟩, h4, h5⟩
      exact ⟨⟨⟨by omega, by omega⟩, h4⟩, h3, h5⟩
def sizeGo (ascii : Bool) : Nat → List RN → Bool
  | _, [] => true
  | s, n :: l => !decide (64 < n.depth) && !decide (1048576 < s + n.text.length) && lowB n.text ascii && sizeGo ascii (s + n.text.length) l
def texts (l : List RN) : Nat := (l.map fun n => n.text.length).sum
theorem sizeGo_iff (ascii : Bool) (l : List RN) : ∀ s, sizeGo ascii s l = true → (∀ n ∈ l, n.depth ≤ 64 ∧ lowB n.text ascii = true) ∧ (l ≠ [] → s + texts l ≤ 1048576) := by
  induction l with
  | nil => intro s _; exact ⟨fun n hn => by simp at hn, fun h => absurd rfl h⟩
  | cons n l ih =>
    intro s h
    simp only [sizeGo, Bool.and_eq_true, Bool.not_eq_true', decide_eq_false_iff_not] at h
    obtain ⟨⟨⟨h1, h2⟩, h3⟩, h4⟩ := h
    obtain ⟨i1, i2⟩ := ih _ h4
    refine ⟨fun m hm => ?_, fun _ => ?_⟩
    · rw [List.mem_cons] at hm
      rcases hm with rfl | hm
      · exact ⟨by omega, h3⟩
      · exact i1 m hm
    · cases l with
      | nil => simp [texts]; omega
      | cons m r => have := i2 (by simp); simp only [texts, List.map_cons, List.sum_cons] at this ⊢; omega
def treeOk (ascii : Bool) (l : List RN) : Bool := decide (l.length ≤ 1000) && (treeGo 0 l && sizeGo ascii 0 l)
structure InTree (ascii : Bool) (l : List RN) : Prop where
  good : GoodTree ascii l
  many : l.length ≤ 1000
  size : texts l ≤ 1048576
  deep : ∀ n ∈ l, n.depth ≤ 64
theorem treeOk_in {ascii : Bool} {l : List RN} (h : treeOk ascii l = true) : InTree ascii l := by
  simp only [treeOk, Bool.and_eq_true, decide_eq_true_eq] at h
  obtain ⟨h1, h2, h3⟩ := h
  obtain ⟨t1, t2⟩ := (treeGo_iff l 0).1 h2
  obtain ⟨s1, s2⟩ := sizeGo_iff ascii l 0 h3
  refine ⟨⟨t1, t2, fun n hn => (s1 n hn).2⟩, h1, ?_, fun n hn => (s1 n hn).1⟩
  cases l with
  | nil => decide
  | cons m r => have := s2 (by simp); omega
theorem texts_setR (all : Bool) (l : List RN) : texts (setR all l) = texts l := by
  induction l with
  | nil => rfl
  | cons n r ih => simp only [setR, texts, List.map_cons, List.sum_cons] at ih ⊢; rw [ih]
theorem InTree.set {ascii : Bool} {l : List RN} (h : InTree ascii l) (all : Bool) : InTree ascii (setR all l) := by
  refine ⟨h.good.set all, by rw [setR_len]; exact h.many, by rw [texts_setR]; exact h.size, fun x hx => ?_⟩
  obtain ⟨n, hn, a, rfl⟩ := setR_mem hx
  exact h.deep n hn
theorem dec_len_le (l : List UInt8) (h : okDec l = true) : (dec l).length ≤ l.length := by
  have := len_le_enc (dec l)
  rw [(okDec_val h).1] at this
  exact this
/-- How much is printed of a tree of the statements. -/
theorem in_cost {ascii : Bool} {l : List RN} (h : InTree ascii l) {d : Int} {ts : List T} {rest : List N} (hp : Parse d (l.map RN.cp) ts rest) : cost ts ≤ 134217728 := by
  have h1 := parse_cost hp
  have h2 : costN (l.map RN.cp) ≤ 16 * texts l + 8192 * l.length := by
    have hg := h.good.node
    clear h hp h1
    induction l with
    | nil => simp [costN, texts]
    | cons n r ih =>
      have := ih (fun m hm => hg m (by simp [hm]))
      have ho := (isNode_ok (ascii := false) (hg n (by simp)) rfl).2
      have hl := dec_len_le _ ho
      simp only [costN, texts, List.map_cons, List.sum_cons, List.length_cons] at this ⊢
      have e : n.cp.text.length = (dec n.text).length := rfl
      omega
  have := h.many
  have := h.size
  omega
end Css
end Go.Proofs.YtkfdcbdlcipmfaaGreatFmt
/- PLAIN: what is left of a text is a part at its end; the bytes of what is read. No program in sight. -/
namespace Go.Proofs.YtkfdcbdlcipmfaaGreatFmt
namespace Css
def Sx (a b : List Int) : Prop := ∃ X, b = X ++ a
theorem Sx.refl (a : List Int) : Sx a a := ⟨[], rfl⟩
theorem Sx.trans {a b c : List Int} (h : Sx a b) (k : Sx b c) : Sx a c := by
  obtain ⟨X, rfl⟩ := h; obtain ⟨Y, rfl⟩ := k; exact ⟨Y ++ X, by simp⟩
theorem sx_tail (a : List Int) : Sx a.tail a := by cases a with | nil => exact .refl _ | cons x t => exact ⟨[x], rfl⟩
theorem Sx.t {a b : List Int} (h : Sx a b.tail) : Sx a b := h.trans (sx_tail b)
theorem Sx.len {a b : List Int} (h : Sx a b) : a.length ≤ b.length := by obtain ⟨X, rfl⟩ := h; simp
theorem hexRun_sx (n : Nat) : ∀ (v : Int) (ds : List Int), Sx (hexRun n v ds).2 ds := by
  induction n with
  | zero => intro v ds; exact .refl _
  | succ n ih =>
    intro v ds
    unfold hexRun
    split
    · exact (ih _ _).t
    · exact .refl _
theorem newline_sx (ds : List Int) : Sx (newline ds) ds := by
  unfold newline; split
  · exact (sx_tail _).t
  · exact sx_tail _
theorem escape_sx (ds : List Int) : Sx (escape ds).2.2 ds := by
  unfold escape
  repeat' split
  · exact sx_tail _
  · exact sx_tail _
  · exact (newline_sx _).trans (hexRun_sx _ _ _)
  · exact (sx_tail _).trans (hexRun_sx _ _ _)
  · exact hexRun_sx _ _ _
theorem name_sx (ds : List Int) : Sx (name ds).2.2 ds := by
  fun_induction name ds with
  | case1 ds h ih => exact ih.t
  | case2 ds h h2 ih => exact (ih.trans (escape_sx _)).t
  | case3 => exact .refl _
theorem spaces_sx (ds : List Int) : Sx (spaces ds) ds := by
  induction ds with
  | nil => exact .refl _
  | cons d t ih =>
    unfold spaces; split
    · exact Sx.t (b := d :: t) ih
    · exact .refl _
theorem badURL_sx (ds : List Int) : Sx (badURL ds).2 ds := by
  fun_induction badURL ds with
  | case1 ds h => exact sx_tail _
  | case2 ds h h2 => exact sx_tail _
  | case3 ds h h2 h3 ih => exact (ih.trans (escape_sx _)).t
  | case4 ds h h2 h3 ih => exact ih.t
theorem url_sx (ds : List Int) : Sx (url ds).2.2.2 ds := by
  fun_induction url ds with
  | case1 ds h => exact sx_tail _
  | case2 ds h h2 => exact .refl _
  | case3 ds h h2 h3 h4 => exact (badURL_sx _).trans (spaces_sx _)
  | case4 ds h h2 h3 h4 ih => exact ih.trans (spaces_sx _)
  | case5 ds h h2 h3 h4 => exact badURL_sx _
  | case6 ds h h2 h3 h4 h5 r ih => exact (ih.trans (escape_sx _)).t
  | case7 ds h h2 h3 h4 h5 r ih => exact ih.t
theorem quotedRun_sx (q : Int) (ds : List Int) : Sx (quotedRun q ds).2.2.2 ds := by
  fun_induction quotedRun q ds with
  | case1 ds h => exact sx_tail _
  | case2 ds h h2 => exact .refl _
  | case3 ds h h2 h3 => exact .refl _
  | case4 ds h h2 h3 h4 ih => exact ih.t
  | case5 ds h h2 h3 h4 h5 ih => exact (ih.trans (newline_sx _)).t
  | case6 ds h h2 h3 h4 h5 h6 r ih => exact (ih.trans (escape_sx _)).t
  | case7 ds h h2 h3 h4 h5 h6 r ih => exact ih.t
theorem digits_sx (ds : List Int) : Sx (digits ds) ds := by
  induction ds with
  | nil => exact .refl _
  | cons d t ih =>
    unfold digits; split
    · exact Sx.t (b := d :: t) ih
    · exact .refl _
theorem numEnd_sx (ds : List Int) : Sx (numEnd ds).2 ds := by
  unfold numEnd
  simp only []
  have hS : Sx (numSign ds) ds := by unfold numSign; split; exact sx_tail _; exact .refl _
  have hD : Sx (digits (numSign ds)) ds := (digits_sx _).trans hS
  have hP : Sx (numDot (digits (numSign ds))) ds := by
    unfold numDot; split
    · exact ((digits_sx _).t).trans hD
    · exact hD
  unfold numExp; split
  · exact ((digits_sx _).t.t).trans hP
  · exact hP
theorem numeric_sx (ds : List Int) : Sx (numeric ds).2.2 ds := by
  unfold numeric
  simp only []
  repeat' split
  · exact (name_sx _).trans (numEnd_sx ds)
  · exact (sx_tail _).trans (numEnd_sx ds)
  · exact numEnd_sx ds
theorem named_sx (ds : List Int) : Sx (named ds).2.2 ds := by
  unfold named
  simp only []
  repeat' split
  · exact name_sx ds
  · exact (((url_sx _).trans (spaces_sx _)).t).trans (name_sx ds)
  · exact (sx_tail _).trans (name_sx ds)
theorem next_sx (ds : List Int) : Sx (next ds).2.2 ds := by
  unfold next
  split
  · exact .refl _
  split
  · exact spaces_sx ds
  split
  · exact (quotedRun_sx _ _).t
  split
  · exact (name_sx _).t
  split
  · exact numeric_sx ds
  split
  · exact (sx_tail _).t.t
  split
  · exact named_sx ds
  split
  · exact (sx_tail _).t.t.t
  split
  · exact (name_sx _).t
  · exact sx_tail _
theorem comEnd_sx (ds : List Int) : Sx (comEnd ds).2 ds := by
  induction ds with
  | nil => unfold comEnd; split; exact (sx_tail _).t; exact .refl _
  | cons d t ih =>
    unfold comEnd; split
    · exact (sx_tail _).t
    · exact Sx.t (b := d :: t) ih
theorem comments_sx (ds : List Int) : Sx (comments ds).2.2 ds := by
  fun_induction comments ds with
  | case1 ds h h2 => exact (comEnd_sx _).t.t
  | case2 ds h h2 ih => exact (ih.trans (comEnd_sx _)).t.t
  | case3 => exact .refl _
theorem tokens_sx (ds : List Int) : ∀ x ∈ (tokens ds).1, Sx x.2.1 ds ∧ Sx x.2.2 x.2.1 := by
  fun_induction tokens ds with
  | case1 => intro x hx; simp at hx
  | case2 ds h D ih =>
    intro x hx
    have hD : Sx D ds := comments_sx ds
    rw [List.mem_cons] at hx
    rcases hx with rfl | hx
    · exact ⟨hD, next_sx _⟩
    · obtain ⟨h1, h2⟩ := ih x hx
      exact ⟨(h1.trans (next_sx _)).trans hD, h2⟩
end Css
end Go.Proofs.YtkfdcbdlcipmfaaGreatFmt
/- PLAIN: what is read of a text, over bytes. No program in sight. -/
namespace Go.Proofs.YtkfdcbdlcipmfaaGreatFmt
namespace Css
theorem part_sx {a b : List Int} (h : Sx b a) : a = part a b ++ b := by
  obtain ⟨X, rfl⟩ := h
  rw [part_append]
theorem raw_bytes {s : ByteArray} {ds a b : List Int} (hs : s.data.toList = enc ds) (ha : Sx a ds) (hb : Sx b a) :
    (s.extract (s.size - bw a) (s.size - bw b)).data.toList = enc (part a b) ∧ s.size - bw a ≤ s.size - bw b := by
  obtain ⟨X, rfl⟩ := ha
  have e := part_sx hb
  generalize part a b = p at e ⊢
  subst e
  have hsz : s.size = (enc X).length + ((enc p).length + (enc b).length) := by
    have e : s.data.toList.length = s.size := rfl
    rw [← e, hs, enc_append, enc_append, List.length_append, List.length_append]
  have hb1 : bw (p ++ b) = (enc p).length + (enc b).length := by rw [bw_enc, enc_append, List.length_append]
  have hb2 : bw b = (enc b).length := bw_enc b
  rw [hb1, hb2, hsz]
  refine ⟨?_, by omega⟩
  have h1 : (enc X).length + ((enc p).length + (enc b).length) - ((enc p).length + (enc b).length) = (enc X).length := by omega
  have h2 : (enc X).length + ((enc p).length + (enc b).length) - (enc b).length = (enc X).length + (enc p).length := by omega
  rw [h1, h2]
  have h3 : (s.extract (enc X).length ((enc X).length + (enc p).length)).data.toList = (s.data.toList.take ((enc X).length + (enc p).length)).drop (enc X).length := by
    rw [ByteArray.data_extract, Array.toList_extract]
    simp only [List.extract_eq_drop_take]
    rw [List.drop_take]
  rw [h3, hs, enc_append, enc_append, ← List.append_assoc, List.take_append_of_le_length (by simp), ← List.length_append, List.take_length, List.drop_left]
/-- What is read, each with where it stands. -/
def rdP : List (Tk × List Int × List Int) → Bool → List ((Tk × List Int × List Int) × Bool)
  | [], _ => []
  | x :: l, sp => if x.1.kind = 38 then rdP l true else (x, sp) :: rdP l false
theorem rdP_map (l : List (Tk × List Int × List Int)) : ∀ sp, (rdP l sp).map (fun y => (y.1.1, part y.1.2.1 y.1.2.2, y.2)) = rd l sp := by
  induction l with
  | nil => intro sp; rfl
  | cons x l ih =>
    intro sp
    simp only [rdP, rd]
    split
    · exact ih true
    · rw [List.map_cons, ih]
theorem rdP_mem (l : List (Tk × List Int × List Int)) : ∀ sp, ∀ y ∈ rdP l sp, y.1 ∈ l := by
  induction l with
  | nil => intro sp y hy; cases hy
  | cons x l ih =>
    intro sp y hy
    simp only [rdP] at hy
    split at hy
    · exact List.mem_cons_of_mem _ (ih true y hy)
    · rw [List.mem_cons] at hy
      rcases hy with rfl | hy
      · exact List.mem_cons_self
      · exact List.mem_cons_of_mem _ (ih false y hy)
theorem rdP_len (l : List (Tk × List Int × List Int)) : ∀ sp, (rdP l sp).length ≤ l.length := by
  induction l with
  | nil => intro sp; simp [rdP]
  | cons x l ih =>
    intro sp
    simp only [rdP]
    split
    · have := ih true; simp; omega
    · have := ih false; simp; omega
/-- A token that was read is an item: what the walk of `is` sees. -/
structure IsB (k : Int) (u : Nat) (tx raw : List UInt8) (x : RIt) : Prop where
  kind : k = x.kind
  name : nameLikeK x.kind → tx = x.text
  dim : x.kind = 26 → (u : Int) = x.unit ∧ u ≤ raw.length ∧ u ≤ x.text.length ∧ raw.take u = x.text.take u ∧ enc (Css.name (dec (raw.drop u))).1 = x.text.drop u
  rest : ¬ nameLikeK x.kind → x.kind ≠ 26 → ¬ isClose x.kind → raw = x.text
theorem enc_take {cs : List Int} {u : Nat} (hu : u ≤ cs.length) (h : ∀ c ∈ cs.take u, c < 128) : (enc cs).take u = enc (cs.take u) ∧ (enc cs).drop u = enc (cs.drop u) ∧ u ≤ (enc cs).length := by
  have e : enc cs = enc (cs.take u) ++ enc (cs.drop u) := by rw [← enc_append, List.take_append_drop]
  have hl : (enc (cs.take u)).length = u := by rw [enc_ascii_len h, List.length_take]; omega
  rw [e]
  refine ⟨?_, ?_, ?_⟩
  · rw [List.take_append_of_le_length (by omega), List.take_of_length_le (by omega)]
  · rw [List.drop_append_of_le_length (by omega), List.drop_of_length_le (by omega), List.nil_append]
  · rw [List.length_append]; omega
theorem isIt_bytes {tk : Tk} {raw : List Int} {sp : Bool} {x : RIt} (h : IsIt (tk, raw, sp) x.cp) (hx : ItOk x) (hr : ∀ c ∈ raw, Valid c) : IsB tk.kind tk.unit (enc tk.text) (enc raw) x := by
  obtain ⟨h1, h2, h3, h4⟩ := h
  have hex : enc (dec x.text) = x.text := (okDec_val hx.ok).1
  refine ⟨h1, fun hn => ?_, fun h26 => ?_, fun n1 n2 n3 => ?_⟩
  · have := h2 hn
    rw [show tk.text = dec x.text from this]; exact hex
  · obtain ⟨a1, a2, a3, a4, a5⟩ := h3 h26
    have hu : x.cp.unit = x.unit := by show (if x.kind = 26 then x.unit else 0) = x.unit; rw [if_pos h26]
    rw [hu] at a1
    simp only [] at a1 a2 a3 a4 a5
    have a5' : tk.unit ≤ (dec x.text).length := a5
    have hut : x.unit.toNat = tk.unit := by omega
    have hlow := hx.low h26
    rw [hut] at hlow
    have e2 : raw.take tk.unit = (dec x.text).take tk.unit := a2
    obtain ⟨b1, b2, b3⟩ := enc_take a5' hlow
    obtain ⟨c1, c2, c3⟩ := enc_take a4 (by rw [e2]; exact hlow)
    rw [hex] at b1 b2 b3
    refine ⟨a1, c3, b3, ?_, ?_⟩
    · rw [c1, b1, e2]
    · rw [c2, dec_enc_v (fun c hc => hr c (List.mem_of_mem_drop hc)), a3, b2]; rfl
  · have := h4 (by
      show ¬ (x.kind = 29 ∨ x.kind = 27 ∨ x.kind = 1 ∨ x.kind = 28 ∨ x.kind = 36 ∨ x.kind = 26 ∨ x.kind = 8 ∨ x.kind = 7 ∨ x.kind = 6)
      unfold nameLikeK at n1; unfold isClose at n3; omega)
    rw [show raw = dec x.text from this]; exact hex
end Css
end Go.Proofs.YtkfdcbdlcipmfaaGreatFmt
/- Words for the walks: what is returned; flat nodes in memory. -/
set_option linter.unusedVariables false
set_option linter.unusedSimpArgs false
namespace Go.Proofs.YtkfdcbdlcipmfaaGreatFmt
open Go.RowKit Css
def RetBW (b : Bool) (w : World) (e : Ending) (w' : World) : Prop := e = .returned (.bool b) ∧ Below w.heap.size w w'
theorem RetBW.mk' {a b : Bool} {w w' : World} (h : a = b) (hb : Below w.heap.size w w') : RetBW b w (.returned (.bool a)) w' := ⟨retB_eq h, hb⟩
def RetVW (v : Value) (w : World) (e : Ending) (w' : World) : Prop := e = .returned v ∧ Below w.heap.size w w'
theorem RetVW.mk' {a b : Value} {w w' : World} (h : a = b) (hb : Below w.heap.size w w') : RetVW b w (.returned a) w' := ⟨by rw [h], hb⟩
theorem below_drewN {B : Nat} (w : World) (n : Nat) : Below B w (w.drewN n) := by
  cases n with
  | zero => exact ⟨rfl, rfl, rfl, Nat.le_refl _, fun _ _ => rfl⟩
  | succ n => exact ⟨rfl, rfl, rfl, Nat.le_refl _, fun _ _ => rfl⟩
def RetIW (i : Int) (w : World) (e : Ending) (w' : World) : Prop := e = .returned (.int .i64 i) ∧ Below w.heap.size w w'
theorem RetIW.mk' {a b : Int} {w w' : World} (h : a = b) (hb : Below w.heap.size w w') : RetIW b w (.returned (.int .i64 a)) w' := ⟨by rw [h], hb⟩
def nCells (n : RN) : List Value := [.int .i64 n.kind, .int .i64 n.unit, .int .i64 n.depth, .string ⟨⟨n.text⟩⟩, .bool n.before, .bool n.after]
def nRow (l : List RN) : List Value := l.flatMap nCells
theorem nRow_get {l : List RN} {i : Nat} {n : RN} (h : l[i]? = some n) (j : Nat) (hj : j < 6) : (nRow l)[i * 6 + j]? = (nCells n)[j]? := by
  induction l generalizing i with
  | nil => simp at h
  | cons a t ih =>
    have hl : (nCells a).length = 6 := rfl
    show (nCells a ++ nRow t)[i * 6 + j]? = _
    cases i with
    | zero =>
      simp at h
      subst h
      rw [List.getElem?_append_left (by omega)]; simp
    | succ i =>
      rw [List.getElem?_append_right (by omega), hl]
      have : (i + 1) * 6 + j - 6 = i * 6 + j := by omega
      rw [this]
      exact ih (by simpa using h)
/-- Nodes that lie in a slice. -/
structure NodesAt (v : Value) (l : List RN) (w : World) : Prop where
  form : l ≠ [] → ∃ q c, v = .slice (some ⟨q, 0, none⟩) l.length c ∧ q < w.heap.size ∧ ∀ i x, (nRow l)[i]? = some x → w.cell? ⟨q, i, none⟩ = some x
  empty : l = [] → v = .slice none 0 0 ∨ ∃ a c, v = .slice (some a) 0 c
theorem NodesAt.below {v : Value} {l : List RN} {w w' : World} (h : NodesAt v l w) (hb : Below w.heap.size w w') : NodesAt v l w' := by
  refine ⟨fun hl => ?_, h.empty⟩
  obtain ⟨q, c, e, hq, hc⟩ := h.form hl
  refine ⟨q, c, e, Nat.lt_of_lt_of_le hq hb.size, fun i x hx => ?_⟩
  rw [← hc i x hx]
  unfold World.cell?
  rw [hb.block q hq]
/-- A node's cells. -/
structure NodeC (w : World) (q o : Nat) (n : RN) : Prop where
  c0 : w.cell? ⟨q, o, none⟩ = some (.int .i64 n.kind)
  c1 : w.cell? ⟨q, o + 1, none⟩ = some (.int .i64 n.unit)
  c2 : w.cell? ⟨q, o + 2, none⟩ = some (.int .i64 n.depth)
  c3 : w.cell? ⟨q, o + 3, none⟩ = some (.string ⟨⟨n.text⟩⟩)
  c4 : w.cell? ⟨q, o + 4, none⟩ = some (.bool n.before)
  c5 : w.cell? ⟨q, o + 5, none⟩ = some (.bool n.after)
theorem NodesAt.slice {v : Value} {l : List RN} {w : World} (h : NodesAt v l w) : ∃ A c, v = .slice A l.length c := by
  cases l with
  | nil =>
    rcases h.empty rfl with e | ⟨a, c, e⟩
    · exact ⟨_, _, e⟩
    · exact ⟨_, _, e⟩
  | cons n r => obtain ⟨q, c, e, _⟩ := h.form (by simp); exact ⟨_, c, e⟩
theorem NodesAt.node {A : Option Addr} {k c : Nat} {l : List RN} {w : World} (h : NodesAt (.slice A k c) l w) {i : Nat} {n : RN} (hn : l[i]? = some n) : ∃ q, A = some ⟨q, 0, none⟩ ∧ q < w.heap.size ∧ NodeC w q (i * 6) n := by
  obtain ⟨q, c', e, hq, hc⟩ := h.form (by intro e; subst e; simp at hn)
  injection e with e _ _
  refine ⟨q, e, hq, ?_, ?_, ?_, ?_, ?_, ?_⟩
  · exact hc _ _ (by have := nRow_get hn 0 (by decide); simpa [nCells] using this)
  · exact hc _ _ (by have := nRow_get hn 1 (by decide); simpa [nCells] using this)
  · exact hc _ _ (by have := nRow_get hn 2 (by decide); simpa [nCells] using this)
  · exact hc _ _ (by have := nRow_get hn 3 (by decide); simpa [nCells] using this)
  · exact hc _ _ (by have := nRow_get hn 4 (by decide); simpa [nCells] using this)
  · exact hc _ _ (by have := nRow_get hn 5 (by decide); simpa [nCells] using this)
theorem NodesAt.none_len {A : Option Addr} {k c : Nat} {l : List RN} {w : World} (h : NodesAt (.slice A k c) l w) (hA : A = Option.none) : k = 0 ∧ c = 0 := by
  subst hA
  cases l with
  | nil =>
    rcases h.empty rfl with e | ⟨a, c', e⟩
    · injection e with _ e1 e2; exact ⟨e1, e2⟩
    · injection e with e _ _; cases e
  | cons n r =>
    obtain ⟨q, c', e, _⟩ := h.form (by simp)
    injection e with e _ _; cases e
theorem NodesAt.cellsOf {a : Addr} {k c : Nat} {l : List RN} {w : World} (h : NodesAt (.slice (some a) k c) l w) : ∀ j u, (nRow l)[j]? = some u → w.cell? (a.add j) = some u := by
  intro j u hj
  cases l with
  | nil => simp [nRow] at hj
  | cons n r =>
    obtain ⟨q, c', e, _, hc⟩ := h.form (by simp)
    injection e with e _ _
    injection e with e
    subst e
    have : (⟨q, 0, none⟩ : Addr).add j = ⟨q, j, none⟩ := by
      unfold Addr.add; split
      · rename_i h; subst h; rfl
      · simp
    rw [this]; exact hc j u hj
theorem nRow_len (l : List RN) : (nRow l).length = l.length * 6 := by
  induction l with
  | nil => rfl
  | cons n r ih => show (nCells n ++ nRow r).length = _; rw [List.length_append, ih]; simp [nCells]; omega
theorem nRow_set : ∀ (l : List RN) (i : Nat) (n : RN) (x : Bool), l[i]? = some n → (nRow l).set (i * 6 + 5) (.bool x) = nRow (l.set i { n with after := x })
  | [], i, n, x, h => by simp at h
  | a :: r, 0, n, x, h => by
    simp only [List.getElem?_cons_zero, Option.some.injEq] at h
    subst h
    rfl
  | a :: r, i + 1, n, x, h => by
    have ih := nRow_set r i n x (by simpa using h)
    show (nCells a ++ nRow r).set ((i + 1) * 6 + 5) (.bool x) = nCells a ++ nRow (r.set i { n with after := x })
    have hl : (nCells a).length = 6 := rfl
    rw [List.set_append_right _ _ (by omega), hl, ← ih]
    congr 2
    omega
theorem nRow_one (l : List RN) : ∀ u ∈ nRow l, u.oneCell' = true := by
  intro u hu
  obtain ⟨n, _, hn⟩ := List.mem_flatMap.1 hu
  simp only [nCells, List.mem_cons, List.not_mem_nil, or_false] at hn
  rcases hn with rfl | rfl | rfl | rfl | rfl | rfl <;> rfl
theorem NodeC.below {w w' : World} {q o : Nat} {n : RN} (h : NodeC w q o n) (hb : w'.heap[q]? = w.heap[q]?) : NodeC w' q o n := by
  have hc : ∀ o, w'.cell? ⟨q, o, none⟩ = w.cell? ⟨q, o, none⟩ := fun o => World.cell?_of_block (w := w) (a := ⟨q, o, none⟩) hb
  exact ⟨(hc _).trans h.c0, (hc _).trans h.c1, (hc _).trans h.c2, (hc _).trans h.c3, (hc _).trans h.c4, (hc _).trans h.c5⟩
abbrev rV (n : RN) : Value := .agg #[.int .i64 n.kind, .int .i64 n.unit, .int .i64 n.depth, .string ⟨⟨n.text⟩⟩, .bool n.before, .bool n.after]
theorem ba_size (l : List UInt8) : (⟨⟨l⟩⟩ : ByteArray).size = l.length := rfl
theorem box_below (o : Obj) (w : World) : Below w.heap.size w (w.alloc o) := (Below.refl _ _).alloc (Nat.le_refl _) _
theorem below_box {w0 wr w1 : World} {o : Obj} (h : Below w0.heap.size w0 wr) (h1 : Below (wr.alloc o).heap.size (wr.alloc o) w1) : Below w0.heap.size w0 w1 :=
  (h.alloc h.size o).trans (h1.mono (by have := h.size; show _ ≤ (wr.heap.push o).size; rw [Array.size_push]; omega))
end Go.Proofs.YtkfdcbdlcipmfaaGreatFmt
/- Words for the walks: rows that a call owns; one element more. -/
set_option linter.unusedVariables false
set_option linter.unusedSimpArgs false
namespace Go.Proofs.YtkfdcbdlcipmfaaGreatFmt
open Go.RowKit
theorem parts_of {i0 : Option TypeInfo} {z : Option Value} {a b : Nat} (h : i0.map (fun i => (i.zero, i.size, i.bytes)) = some (z, a, b)) : ∃ i, i0 = some i ∧ i.zero = z ∧ i.size = a ∧ i.bytes = b := by
  obtain ⟨i, hi, hz⟩ := Option.map_eq_some_iff.1 h
  simp only [Prod.mk.injEq] at hz
  exact ⟨i, hi, hz.1, hz.2.1, hz.2.2⟩
/-- A block of elements of a type. -/
def IsTy (T : TypeId) (o : Option Obj) : Prop := ∃ cs fr, o = some (.cells cs T fr)
section
variable {w w' : World}
theorem own_keep {base n : Nat} {e : TypeId} {size : Nat} {x : Value} {xs : List Value} (h : w.ownsRow base e size x n xs) (hk : ∀ q, x.ownBlock = some q → w'.heap[q]? = w.heap[q]?) : w'.ownsRow base e size x n xs := by
  obtain ⟨h1, h2⟩ := h
  refine ⟨h1, ?_⟩
  rcases h2 with h2 | ⟨q, cap, cur, hv, hq, hh, r⟩
  · exact Or.inl h2
  · exact Or.inr ⟨q, cap, cur, hv, hq, (hk q (by rw [hv]; rfl)).trans hh, r⟩
theorem own_lt {base n : Nat} {e : TypeId} {size : Nat} {x : Value} {xs : List Value} (h : w.ownsRow base e size x n xs) {q : Nat} (hq : x.ownBlock = some q) : q < w.heap.size ∧ base ≤ q ∧ IsTy e w.heap[q]? := by
  rcases h.2 with ⟨rfl, _⟩ | ⟨q', cap, cur, rfl, hb, hh, _⟩
  · simp [Value.ownBlock] at hq
  · have : q' = q := by simpa [Value.ownBlock] using hq
    subst this
    exact ⟨(Array.getElem?_eq_some_iff.1 hh).1, hb, cur, (0, 0), hh⟩
end
theorem addr_add0 (q j : Nat) : (⟨q, 0, none⟩ : Addr).add j = ⟨q, j, none⟩ := by
  unfold Addr.add; split
  · rename_i h; subst h; rfl
  · simp
section
variable {ops : Array Oper} {rest : List Oper} {o : Oper} {a : Act} {Q : Exit → Act → World → Prop}
/-- ONE ELEMENT MORE in a row of the call's own. -/
theorem wpList_app1 (hgd : o.guard = none) (s x : Operand) (ST ET : TypeId) (ho : o.op = .call { callee := .builtin .append, args := #[s, x], argTypes := #[ST, ST] }) (hST : Tryz.prog.underlying ST = some (.slice ET))
    {z : Value} {size bytes : Nat} (info : (Tryz.prog.info? ET).map (fun i => (i.zero, i.size, i.bytes)) = some (some z, size, bytes)) (hzs : z.cells.size = size) (hsz : 0 < size)
    {B n : Nat} {v : Value} {xs : List Value} {w : World} (H : w.ownsRow B ET size v n xs) (hB : B ≤ w.heap.size) (cs : Array Value) (hcs : cs.size = size) (h1 : ∀ u ∈ cs.toList, u.oneCell' = true)
    (hn : (n + 1) * bytes ≤ 140737488355328) (hn2 : n + 1 ≤ maxLen) (hs : a.eval s = v) (bk : Nat) (hbk : bk = w.heap.size) (hx : a.eval x = .slice (some ⟨bk, 0, none⟩) 1 1)
    (h : ∀ v' w', w'.ownsRow B ET size v' (n + 1) (xs ++ cs.toList) → (w.alloc (.cells cs ET)).grownBy w' v.ownBlock → Below B w w' → (v'.ownBlock = v.ownBlock ∨ v'.ownBlock = some (w.heap.size + 1)) → wpList Tryz.prog ops Q rest (a.put o.dst v') w') :
    wpList Tryz.prog ops Q (o :: rest) a (w.alloc (.cells cs ET)) := by
  subst hbk
  obtain ⟨i, hi, hz0, hz1, hz2⟩ := parts_of info
  have H1 : (w.alloc (.cells cs ET)).ownsRow B ET size v n xs := H.alloc _
  have hsize : (w.alloc (.cells cs ET)).heap.size = w.heap.size + 1 := by simp
  obtain ⟨v', w', hr, h2, h3, _, h5⟩ := run_append_own_at (P := Tryz.prog) (w.alloc (.cells cs ET)) B ST o.type ET i z size bytes hST hi hz0 hz1 hz2 hzs hsz v n xs H1 ⟨w.heap.size, 0, none⟩ 1 1 cs.toList (by simp [hcs]) (by
    intro j u hj
    rw [addr_add0, World.cell?_alloc_mark w _ _ _ j]
    simpa using hj) h1 hn2 hn (by omega)
  have hla : Below B w (w.alloc (.cells cs ET)) := (Below.refl _ _).alloc hB _
  refine wpList_plain hgd fun K hK => ?_
  unfold Oper.wp execOp
  simp only [ho, resolve, invoke, builtin, Sem.run_bind, Sem.run_pure, Result.andThen_ok, List.map_toArray, List.map_cons, List.map_nil, hs, hx, hr]
  refine hK _ _ (h v' w' h2 h3 (hla.grown h3 (by omega) fun k hk => (own_lt H hk).2.1) (by rw [hsize] at h5; exact h5))
/-- ELEMENTS OF ANOTHER SLICE behind a row of the call's own. -/
theorem wpList_appN (hgd : o.guard = none) (s x : Operand) (ST ET : TypeId) (ho : o.op = .call { callee := .builtin .append, args := #[s, x], argTypes := #[ST, ST] }) (hST : Tryz.prog.underlying ST = some (.slice ET))
    {z : Value} {size bytes : Nat} (info : (Tryz.prog.info? ET).map (fun i => (i.zero, i.size, i.bytes)) = some (some z, size, bytes)) (hzs : z.cells.size = size) (hsz : 0 < size)
    {B n : Nat} {v : Value} {xs : List Value} {w : World} (H : w.ownsRow B ET size v n xs) (hB : B ≤ w.heap.size) (A : Option Addr) (m c : Nat) (news : List Value) (hl : news.length = m * size) (hA : A = Option.none → m = 0 ∧ c = 0)
    (hnews : ∀ ad, A = some ad → ∀ j u, news[j]? = some u → w.cell? (ad.add j) = some u) (h1 : ∀ u ∈ news, u.oneCell' = true)
    (hn : (n + m) * bytes ≤ 140737488355328) (hn2 : n + m ≤ maxLen) (hs : a.eval s = v) (hx : a.eval x = .slice A m c)
    (h : ∀ v' w', w'.ownsRow B ET size v' (n + m) (xs ++ news) → w.grownBy w' v.ownBlock → Below B w w' → wpList Tryz.prog ops Q rest (a.put o.dst v') w') :
    wpList Tryz.prog ops Q (o :: rest) a w := by
  obtain ⟨i, hi, hz0, hz1, hz2⟩ := parts_of info
  cases A with
  | none =>
    obtain ⟨rfl, rfl⟩ := hA rfl
    have hnil : news = [] := List.eq_nil_of_length_eq_zero (by omega)
    subst hnil
    have hr := run_append_owned_none (P := Tryz.prog) (w := w) B ST o.type ET i size hST hi v n xs H
    refine wpList_plain hgd fun K hK => ?_
    unfold Oper.wp execOp
    simp only [ho, resolve, invoke, builtin, Sem.run_bind, Sem.run_pure, Result.andThen_ok, List.map_toArray, List.map_cons, List.map_nil, hs, hx, hr]
    exact hK _ _ (h v w (by simpa using H) (World.grownBy.refl _ _) (Below.refl _ _))
  | some ad =>
    obtain ⟨v', w', hr, h2, h3, _, h5⟩ := run_append_own_at (P := Tryz.prog) w B ST o.type ET i z size bytes hST hi hz0 hz1 hz2 hzs hsz v n xs H ad m c news hl (hnews ad rfl) h1 hn2 hn hB
    refine wpList_plain hgd fun K hK => ?_
    unfold Oper.wp execOp
    simp only [ho, resolve, invoke, builtin, Sem.run_bind, Sem.run_pure, Result.andThen_ok, List.map_toArray, List.map_cons, List.map_nil, hs, hx, hr]
    exact hK _ _ (h v' w' h2 h3 ((Below.refl _ _).grown h3 hB fun k hk => (own_lt H hk).2.1))
end
end Go.Proofs.YtkfdcbdlcipmfaaGreatFmt
