/- Walks: the statements: whether a token that was read is an item. Printed by genL5.py. -/
import Derived.Test.YtkfdcbdlcipmfaaGreatFmtH07
import Derived.BigQuiet
import Derived.Test.YtkfdcbdlcipmfaaGreatFmtH08
import Derived.Test.YtkfdcbdlcipmfaaGreatFmtH33
import Derived.Deep.RegionHeld3
import Derived.Test.YtkfdcbdlcipmfaaGreatFmtH35
import Derived.StillTailTactics
set_option linter.unusedVariables false
set_option linter.unusedSimpArgs false
namespace Go.Proofs.YtkfdcbdlcipmfaaGreatFmt
open Go.RowKit Css
abbrev rdV (k : Int) (st en u : Nat) (id : Bool) (t : ByteArray) (sp : Bool) : Value := .agg #[.int .i64 k, .int .i64 st, .int .i64 en, .int .i64 u, .bool id, .string t, .bool sp]
abbrev iV (k u : Int) (t : ByteArray) (sp : Int) : Value := .agg #[.int .i64 k, .int .i64 u, .string t, .int .i64 sp]
theorem is_below (a b : Obj) (w : World) : Hid (Below w.heap.size w ((w.alloc a).alloc b)) :=
  ((Below.refl _ _).alloc (Nat.le_refl _) _).alloc (by show _ ≤ (w.heap.push _).size; rw [Array.size_push]; omega) _
set_option maxHeartbeats 1600000 in
set_option maxRecDepth 100000 in
theorem is_k29 (s t : ByteArray) (st en u : Nat) (hse : st ≤ en) (hes : en ≤ s.size) (hs : s.size ≤ 2147483647) (id sp : Bool) (xu xs : Int) (w : World) :
    Calls Tryz.prog 32 #[.string s, rdV 29 st en u id t sp, iV 29 xu t xs] w (RetBW true w) := by
  have HB := is_below (.cells #[.int .i64 29, .int .i64 st, .int .i64 en, .int .i64 u, .bool id, .string t, .bool sp] 64) (.cells #[.int .i64 29, .int .i64 xu, .string t, .int .i64 xs] 34) w
  have h1 : (st : Int) ≤ (en : Int) := by omega
  have h2 : (en : Int) ≤ (s.size : Int) := by omega
  have h0 : (0 : Int) ≤ (st : Int) := by omega
  have h3 : (s.size : Int) ≤ 2147483647 := by omega
  clear hse hes hs
  go_enter Tryz.func32, Tryz.ntmps32
  go_wp2_with fail
  go_ret
  exact RetBW.mk' rfl HB.out
set_option maxHeartbeats 1600000 in
set_option maxRecDepth 100000 in
theorem is_k27 (s t : ByteArray) (st en u : Nat) (hse : st ≤ en) (hes : en ≤ s.size) (hs : s.size ≤ 2147483647) (id sp : Bool) (xu xs : Int) (w : World) :
    Calls Tryz.prog 32 #[.string s, rdV 27 st en u id t sp, iV 27 xu t xs] w (RetBW true w) := by
  have HB := is_below (.cells #[.int .i64 27, .int .i64 st, .int .i64 en, .int .i64 u, .bool id, .string t, .bool sp] 64) (.cells #[.int .i64 27, .int .i64 xu, .string t, .int .i64 xs] 34) w
  have h1 : (st : Int) ≤ (en : Int) := by omega
  have h2 : (en : Int) ≤ (s.size : Int) := by omega
  have h0 : (0 : Int) ≤ (st : Int) := by omega
  have h3 : (s.size : Int) ≤ 2147483647 := by omega
  clear hse hes hs
  go_enter Tryz.func32, Tryz.ntmps32
  go_wp2_with fail
  go_ret
  exact RetBW.mk' rfl HB.out
set_option maxHeartbeats 1600000 in
set_option maxRecDepth 100000 in
theorem is_k1 (s t : ByteArray) (st en u : Nat) (hse : st ≤ en) (hes : en ≤ s.size) (hs : s.size ≤ 2147483647) (id sp : Bool) (xu xs : Int) (w : World) :
    Calls Tryz.prog 32 #[.string s, rdV 1 st en u id t sp, iV 1 xu t xs] w (RetBW true w) := by
  have HB := is_below (.cells #[.int .i64 1, .int .i64 st, .int .i64 en, .int .i64 u, .bool id, .string t, .bool sp] 64) (.cells #[.int .i64 1, .int .i64 xu, .string t, .int .i64 xs] 34) w
  have h1 : (st : Int) ≤ (en : Int) := by omega
  have h2 : (en : Int) ≤ (s.size : Int) := by omega
  have h0 : (0 : Int) ≤ (st : Int) := by omega
  have h3 : (s.size : Int) ≤ 2147483647 := by omega
  clear hse hes hs
  go_enter Tryz.func32, Tryz.ntmps32
  go_wp2_with fail
  go_ret
  exact RetBW.mk' rfl HB.out
set_option maxHeartbeats 1600000 in
set_option maxRecDepth 100000 in
theorem is_k28 (s t : ByteArray) (st en u : Nat) (hse : st ≤ en) (hes : en ≤ s.size) (hs : s.size ≤ 2147483647) (id sp : Bool) (xu xs : Int) (w : World) :
    Calls Tryz.prog 32 #[.string s, rdV 28 st en u id t sp, iV 28 xu t xs] w (RetBW true w) := by
  have HB := is_below (.cells #[.int .i64 28, .int .i64 st, .int .i64 en, .int .i64 u, .bool id, .string t, .bool sp] 64) (.cells #[.int .i64 28, .int .i64 xu, .string t, .int .i64 xs] 34) w
  have h1 : (st : Int) ≤ (en : Int) := by omega
  have h2 : (en : Int) ≤ (s.size : Int) := by omega
  have h0 : (0 : Int) ≤ (st : Int) := by omega
  have h3 : (s.size : Int) ≤ 2147483647 := by omega
  clear hse hes hs
  go_enter Tryz.func32, Tryz.ntmps32
  go_wp2_with fail
  go_ret
  exact RetBW.mk' rfl HB.out
set_option maxHeartbeats 1600000 in
set_option maxRecDepth 100000 in
theorem is_k36 (s t : ByteArray) (st en u : Nat) (hse : st ≤ en) (hes : en ≤ s.size) (hs : s.size ≤ 2147483647) (id sp : Bool) (xu xs : Int) (w : World) :
    Calls Tryz.prog 32 #[.string s, rdV 36 st en u id t sp, iV 36 xu t xs] w (RetBW true w) := by
  have HB := is_below (.cells #[.int .i64 36, .int .i64 st, .int .i64 en, .int .i64 u, .bool id, .string t, .bool sp] 64) (.cells #[.int .i64 36, .int .i64 xu, .string t, .int .i64 xs] 34) w
  have h1 : (st : Int) ≤ (en : Int) := by omega
  have h2 : (en : Int) ≤ (s.size : Int) := by omega
  have h0 : (0 : Int) ≤ (st : Int) := by omega
  have h3 : (s.size : Int) ≤ 2147483647 := by omega
  clear hse hes hs
  go_enter Tryz.func32, Tryz.ntmps32
  go_wp2_with fail
  go_ret
  exact RetBW.mk' rfl HB.out
set_option maxHeartbeats 1600000 in
set_option maxRecDepth 100000 in
theorem is_k8 (s t t2 : ByteArray) (st en u : Nat) (hse : st ≤ en) (hes : en ≤ s.size) (hs : s.size ≤ 2147483647) (id sp : Bool) (xu xs : Int) (w : World) :
    Calls Tryz.prog 32 #[.string s, rdV 8 st en u id t sp, iV 8 xu t2 xs] w (RetBW true w) := by
  have HB := is_below (.cells #[.int .i64 8, .int .i64 st, .int .i64 en, .int .i64 u, .bool id, .string t, .bool sp] 64) (.cells #[.int .i64 8, .int .i64 xu, .string t2, .int .i64 xs] 34) w
  have h1 : (st : Int) ≤ (en : Int) := by omega
  have h2 : (en : Int) ≤ (s.size : Int) := by omega
  have h0 : (0 : Int) ≤ (st : Int) := by omega
  have h3 : (s.size : Int) ≤ 2147483647 := by omega
  clear hse hes hs
  go_enter Tryz.func32, Tryz.ntmps32
  go_wp2_with fail
  go_ret
  exact RetBW.mk' rfl HB.out
set_option maxHeartbeats 1600000 in
set_option maxRecDepth 100000 in
theorem is_k7 (s t t2 : ByteArray) (st en u : Nat) (hse : st ≤ en) (hes : en ≤ s.size) (hs : s.size ≤ 2147483647) (id sp : Bool) (xu xs : Int) (w : World) :
    Calls Tryz.prog 32 #[.string s, rdV 7 st en u id t sp, iV 7 xu t2 xs] w (RetBW true w) := by
  have HB := is_below (.cells #[.int .i64 7, .int .i64 st, .int .i64 en, .int .i64 u, .bool id, .string t, .bool sp] 64) (.cells #[.int .i64 7, .int .i64 xu, .string t2, .int .i64 xs] 34) w
  have h1 : (st : Int) ≤ (en : Int) := by omega
  have h2 : (en : Int) ≤ (s.size : Int) := by omega
  have h0 : (0 : Int) ≤ (st : Int) := by omega
  have h3 : (s.size : Int) ≤ 2147483647 := by omega
  clear hse hes hs
  go_enter Tryz.func32, Tryz.ntmps32
  go_wp2_with fail
  go_ret
  exact RetBW.mk' rfl HB.out
set_option maxHeartbeats 1600000 in
set_option maxRecDepth 100000 in
theorem is_k6 (s t t2 : ByteArray) (st en u : Nat) (hse : st ≤ en) (hes : en ≤ s.size) (hs : s.size ≤ 2147483647) (id sp : Bool) (xu xs : Int) (w : World) :
    Calls Tryz.prog 32 #[.string s, rdV 6 st en u id t sp, iV 6 xu t2 xs] w (RetBW true w) := by
  have HB := is_below (.cells #[.int .i64 6, .int .i64 st, .int .i64 en, .int .i64 u, .bool id, .string t, .bool sp] 64) (.cells #[.int .i64 6, .int .i64 xu, .string t2, .int .i64 xs] 34) w
  have h1 : (st : Int) ≤ (en : Int) := by omega
  have h2 : (en : Int) ≤ (s.size : Int) := by omega
  have h0 : (0 : Int) ≤ (st : Int) := by omega
  have h3 : (s.size : Int) ≤ 2147483647 := by omega
  clear hse hes hs
  go_enter Tryz.func32, Tryz.ntmps32
  go_wp2_with fail
  go_ret
  exact RetBW.mk' rfl HB.out
set_option maxHeartbeats 1600000 in
set_option maxRecDepth 100000 in
theorem is_rest (k : Int) (hk : ¬ nameLikeK k) (hk2 : k ≠ 26) (hk3 : ¬ isClose k) (s t t2 : ByteArray) (st en u : Nat) (hse : st ≤ en) (hes : en ≤ s.size) (hs : s.size ≤ 2147483647) (hraw : s.extract st en = t2) (id sp : Bool) (xu xs : Int) (w : World) :
    Calls Tryz.prog 32 #[.string s, rdV k st en u id t sp, iV k xu t2 xs] w (RetBW true w) := by
  have HB := is_below (.cells #[.int .i64 k, .int .i64 st, .int .i64 en, .int .i64 u, .bool id, .string t, .bool sp] 64) (.cells #[.int .i64 k, .int .i64 xu, .string t2, .int .i64 xs] 34) w
  have h1 : (st : Int) ≤ (en : Int) := by omega
  have h2 : (en : Int) ≤ (s.size : Int) := by omega
  have h0 : (0 : Int) ≤ (st : Int) := by omega
  have h3 : (s.size : Int) ≤ 2147483647 := by omega
  unfold nameLikeK at hk
  unfold isClose at hk3
  have q0 : (k == 29) = false := by simp; omega
  have q1 : (k == 27) = false := by simp; omega
  have q2 : (k == 1) = false := by simp; omega
  have q3 : (k == 28) = false := by simp; omega
  have q4 : (k == 36) = false := by simp; omega
  have q5 : (k == 26) = false := by simp; omega
  have q6 : (k == 8) = false := by simp; omega
  have q7 : (k == 7) = false := by simp; omega
  have q8 : (k == 6) = false := by simp; omega
  have HR := Lib.hid hraw
  clear hse hes hs hk hk2 hk3 hraw
  go_enter Tryz.func32, Tryz.ntmps32
  go_wp2_with fail
  go_ret
  exact RetBW.mk' (by rw [HR.out]; simp) HB.out
end Go.Proofs.YtkfdcbdlcipmfaaGreatFmt
namespace Go.Proofs.YtkfdcbdlcipmfaaGreatFmt
open Css
theorem ba_ext {a b : ByteArray} (h : a.data.toList = b.data.toList) : a = b := by
  cases a; cases b; congr; exact Array.ext' h
theorem ext_list (s : ByteArray) (a b : Nat) : (s.extract a b).data.toList = (s.data.toList.take b).drop a := by
  rw [ByteArray.data_extract, Array.toList_extract]
  simp only [List.extract_eq_take_drop]
  rw [List.drop_take]
theorem tokens_len (n : Nat) : ∀ ds : List Int, ds.length ≤ n → (tokens ds).1.length ≤ ds.length := by
  induction n with
  | zero =>
    intro ds h
    have : ds = [] := List.length_eq_zero_iff.1 (by omega)
    subst this
    have := reads_nil false
    have h2 : tokens [] = ([], 0, false) := by
      have hc : comments [] = (0, false, []) := comments_none (by simp)
      rw [tokens]; simp [hc]
    rw [h2]; simp
  | succ n ih =>
    intro ds h
    rw [tokens]
    split
    · simp
    · rename_i hd
      have h1 := next_lt hd
      have h2 := comments_len ds
      simp only [List.length_cons]
      have := ih (next (comments ds).2.2).2.2 (by omega)
      omega
theorem Css.All2.len {α β : Type} {R : α → β → Prop} {a : List α} {b : List β} (h : All2 R a b) : a.length = b.length := by
  induction h with
  | nil => rfl
  | cons _ _ ih => simp [ih]
theorem Css.All2.get {α β : Type} {R : α → β → Prop} {a : List α} {b : List β} (h : All2 R a b) : ∀ {i : Nat} {x : α} {y : β}, a[i]? = some x → b[i]? = some y → R x y := by
  induction h with
  | nil => intro i x y h; simp at h
  | cons h _ ih =>
    intro i x y hx hy
    cases i with
    | zero => simp at hx hy; subst hx; subst hy; exact h
    | succ i => exact ih (by simpa using hx) (by simpa using hy)
end Go.Proofs.YtkfdcbdlcipmfaaGreatFmt
namespace Go.Proofs.YtkfdcbdlcipmfaaGreatFmt
open Go.RowKit Css
set_option maxHeartbeats 1600000 in
set_option maxRecDepth 100000 in
theorem is_k26 (s t t2 r p d : ByteArray) (st en u : Nat) (hse : st ≤ en) (hes : en ≤ s.size) (hs : s.size ≤ 2147483647) (hr : s.extract st en = r) (hu1 : u ≤ r.size) (hu2 : u ≤ t2.size) (hrs : r.size ≤ 2147483647) (hts : t2.size ≤ 2147483647)
    (hp1 : r.extract 0 u = p) (hp2 : t2.extract 0 u = p) (hd1 : bsOf (enc (name (dec (r.extract u r.size).data.toList)).1) = d) (hd2 : t2.extract u t2.size = d) (id sp : Bool) (xs : Int) (w : World) :
    Calls Tryz.prog 32 #[.string s, rdV 26 st en u id t sp, iV 26 u t2 xs] w (RetBW true w) := by
  have HB := is_below (.cells #[.int .i64 26, .int .i64 st, .int .i64 en, .int .i64 u, .bool id, .string t, .bool sp] 64) (.cells #[.int .i64 26, .int .i64 u, .string t2, .int .i64 xs] 34) w
  have h1 : (st : Int) ≤ (en : Int) := by omega
  have h2 : (en : Int) ≤ (s.size : Int) := by omega
  have h0 : (0 : Int) ≤ (st : Int) := by omega
  have h3 : (s.size : Int) ≤ 2147483647 := by omega
  have h4 : (0 : Int) ≤ (u : Int) := by omega
  have h5 : (u : Int) ≤ (r.size : Int) := by omega
  have h6 : (u : Int) ≤ (t2.size : Int) := by omega
  have h7 : (r.size : Int) ≤ 2147483647 := by omega
  have h8 : (t2.size : Int) ≤ 2147483647 := by omega
  have HD := Lib.hid hd1
  have HX : Hid (((r.extract u r.size).size : Int) ≤ 140737488355328) := by
    show _ ≤ _
    rw [ByteArray.size_extract]; omega
  clear hse hes hs hu1 hu2 hrs hts hd1
  go_enter Tryz.func32, Tryz.ntmps32
  go_wp2_with fail
  go_region_held3 (fun w' => w'.cell? ⟨w.heap.size, 3, none⟩ = some (.int .i64 u) ∧ w'.cell? ⟨w.heap.size + 1, 1, none⟩ = some (.int .i64 u) ∧ w'.cell? ⟨w.heap.size + 1, 2, none⟩ = some (.string t2))
    (first
      | go_keep
      | (go_split_ands
         refine ⟨kc _ _ _ ?_, kc _ _ _ ?_, kc _ _ _ ?_⟩ <;> assumption))
    (first | (go_at_call 35; refine (decoded_any _ HX.out _).mono ?_; rintro e w1 ⟨rfl, hb1⟩; have kc : ∀ b o x, World.cell? _ ⟨b, o, none⟩ = some x → w1.cell? ⟨b, o, none⟩ = some x := fun b o x hx => below_cell hb1 hx; have HB1 := Lib.hid hb1; rw [HD.out]))
  go_wp2_with fail
  go_ret
  exact RetBW.mk' rfl (below_then HB.out.drew HB1.out)
theorem is_true (s t : ByteArray) (k : Int) (st en u : Nat) (hse : st ≤ en) (hes : en ≤ s.size) (hs : s.size ≤ 2147483647) (x : RIt) (hx : x.text.length ≤ 2147483647) (H : IsB k u t.data.toList (s.extract st en).data.toList x) (id sp : Bool) (w : World) :
    Calls Tryz.prog 32 #[.string s, rdV k st en u id t sp, iV x.kind x.unit ⟨⟨x.text⟩⟩ x.space] w (RetBW true w) := by
  have hk := H.kind
  subst hk
  by_cases hn : nameLikeK x.kind
  · have ht : (⟨⟨x.text⟩⟩ : ByteArray) = t := ba_ext (H.name hn).symm
    rw [ht]
    unfold nameLikeK at hn
    rcases hn with h | h | h | h | h <;> rw [h]
    · exact is_k29 s t st en u hse hes hs id sp _ _ w
    · exact is_k27 s t st en u hse hes hs id sp _ _ w
    · exact is_k1 s t st en u hse hes hs id sp _ _ w
    · exact is_k28 s t st en u hse hes hs id sp _ _ w
    · exact is_k36 s t st en u hse hes hs id sp _ _ w
  by_cases h26 : x.kind = 26
  · obtain ⟨a1, a2, a3, a4, a5⟩ := H.dim h26
    rw [h26, ← a1]
    have hl : (s.extract st en).data.toList.length = (s.extract st en).size := rfl
    refine is_k26 s t ⟨⟨x.text⟩⟩ (s.extract st en) ((s.extract st en).extract 0 u) (bsOf (enc (name (dec ((s.extract st en).extract u (s.extract st en).size).data.toList)).1)) st en u hse hes hs rfl (by omega) a3 (by rw [ByteArray.size_extract]; omega) hx rfl ?_ rfl ?_ id sp _ w
    · refine ba_ext ?_
      rw [ext_list, ext_list, List.drop_zero, List.drop_zero]
      exact a4.symm
    · refine ba_ext ?_
      rw [ext_list]
      show (x.text.take x.text.length).drop u = enc _
      rw [List.take_length, ← a5]
      have e : ((s.extract st en).extract u (s.extract st en).size).data.toList = (s.extract st en).data.toList.drop u := by
        rw [ext_list (s.extract st en), ← hl, List.take_length]
      rw [e]
  by_cases hc : isClose x.kind
  · unfold isClose at hc
    rcases hc with h | h | h <;> rw [h]
    · exact is_k8 s t _ st en u hse hes hs id sp _ _ w
    · exact is_k7 s t _ st en u hse hes hs id sp _ _ w
    · exact is_k6 s t _ st en u hse hes hs id sp _ _ w
  · exact is_rest x.kind hn h26 hc s t _ st en u hse hes hs (ba_ext (H.rest hn h26 hc)) id sp _ _ w
end Go.Proofs.YtkfdcbdlcipmfaaGreatFmt
namespace Go.Proofs.YtkfdcbdlcipmfaaGreatFmt
open Go.RowKit Css
def iCells (x : RIt) : List Value := [.int .i64 x.kind, .int .i64 x.unit, .string ⟨⟨x.text⟩⟩, .int .i64 x.space]
def iRow (l : List RIt) : List Value := l.flatMap iCells
theorem iRow_len (l : List RIt) : (iRow l).length = l.length * 4 := by
  induction l with
  | nil => rfl
  | cons n r ih => show (iCells n ++ iRow r).length = _; rw [List.length_append, ih]; simp [iCells]; omega
theorem iRow_snoc (l : List RIt) (x : RIt) : iRow (l ++ [x]) = iRow l ++ iCells x := by unfold iRow; simp
theorem iRow_append (l r : List RIt) : iRow (l ++ r) = iRow l ++ iRow r := by unfold iRow; simp
theorem iRow_one (l : List RIt) : ∀ u ∈ iRow l, u.oneCell' = true := by
  intro u hu
  obtain ⟨n, _, hn⟩ := List.mem_flatMap.1 hu
  simp only [iCells, List.mem_cons, List.not_mem_nil, or_false] at hn
  rcases hn with rfl | rfl | rfl | rfl <;> rfl
theorem iRow_get {l : List RIt} {i : Nat} {n : RIt} (h : l[i]? = some n) (j : Nat) (hj : j < 4) : (iRow l)[i * 4 + j]? = (iCells n)[j]? := by
  induction l generalizing i with
  | nil => simp at h
  | cons a t ih =>
    have hl : (iCells a).length = 4 := rfl
    show (iCells a ++ iRow t)[i * 4 + j]? = _
    cases i with
    | zero =>
      simp at h
      subst h
      rw [List.getElem?_append_left (by omega)]; simp
    | succ i =>
      rw [List.getElem?_append_right (by omega), hl]
      have : (i + 1) * 4 + j - 4 = i * 4 + j := by omega
      rw [this]
      exact ih (by simpa using h)
structure ItemsAt (v : Value) (l : List RIt) (w : World) : Prop where
  form : ∃ A c, v = .slice A l.length c ∧ (l ≠ [] → ∃ q, A = some ⟨q, 0, none⟩ ∧ q < w.heap.size ∧ ∀ i x, (iRow l)[i]? = some x → w.cell? ⟨q, i, none⟩ = some x)
theorem own_items {w : World} {B : Nat} {v : Value} {l : List RIt} (h : w.ownsRow B 34 4 v l.length (iRow l)) : ItemsAt v l w := by
  obtain ⟨A, c, e⟩ := own_slice h
  refine ⟨A, c, e, fun hl => ?_⟩
  obtain ⟨q, cap, hv, hq, hlt⟩ := h.form (List.length_pos_iff.2 hl)
  refine ⟨q, by rw [e] at hv; injection hv, (own_lt h (by rw [hv]; rfl)).1, fun i x hx => ?_⟩
  have := h.cells (g := q) (by rw [hv]; rfl) i x hx
  rw [addr_add0] at this; exact this
structure HoldOk (s : ByteArray) (spb : Bool) (y : (Tk × List Int × List Int) × Bool) (x : RIt) : Prop where
  isb : IsB y.1.1.kind y.1.1.unit (enc y.1.1.text) (s.extract (pos s y.1.2.1) (pos s y.1.2.2)).data.toList x
  le : pos s y.1.2.1 ≤ pos s y.1.2.2
  len : x.text.length ≤ 2147483647
  sp : spb = true → 0 ≤ x.space → (x.space == 1) = y.2
set_option maxHeartbeats 6400000 in
set_option maxRecDepth 100000 in
theorem holds_true (s : ByteArray) (hs : (s.size : Int) ≤ 2147483647) (hp : isPlainB s.data.toList = true) (hc : (tokens (dec s.data.toList)).2.1 = 0) (ho : (tokens (dec s.data.toList)).2.2 = false) (hlen : (tokens (dec s.data.toList)).1.length ≤ 2147483647)
    (xs : List RIt) (v : Value) (spb : Bool) (w : World) (hi : ItemsAt v xs w) (hl2 : (rdP (tokens (dec s.data.toList)).1 false).length = xs.length)
    (hall : ∀ (i : Nat) (y : (Tk × List Int × List Int) × Bool) (x : RIt), (rdP (tokens (dec s.data.toList)).1 false)[i]? = some y → xs[i]? = some x → HoldOk s spb y x) :
    Calls Tryz.prog 17 #[.string s, v, .bool spb] w (RetBW true w) := by
  have HR := Lib.hid (fun w => reads_true s hs hp hc ho hlen w)
  have HS := Lib.hid hs
  have hgl : (rdP (tokens (dec s.data.toList)).1 false).length ≤ 2147483647 := Nat.le_trans (rdP_len _ _) hlen
  unfold RetRd at HR
  generalize rdP (tokens (dec s.data.toList)).1 false = gl at HR hl2 hall hgl
  have HALL := Lib.hid hall
  have HI := Lib.hid hi
  obtain ⟨A2, c2, hv2, _⟩ := hi.form
  subst hv2
  clear hs hp hc ho hlen hall hi
  rename World => w0
  go_enter Tryz.func17, Tryz.ntmps17
  go_wp2_with fail
  refine (HR.out _).mono ?_
  rintro e w1 ⟨out, ys, rfl, hown, hrow, hb⟩
  have HB := Lib.hid hb
  have HROW := Lib.hid hrow
  obtain ⟨Ao, co, hout⟩ := own_slice hown
  subst hout
  have HOWN := Lib.hid hown
  clear hb hown hrow HR
  have hle2 : ((gl.length : Int) == (xs.length : Int)) = true := by rw [hl2]; simp
  go_wp2_with fail
  go_loopg [9, 27] gl.length (fun k p9 p27 wr => ∃ i : Nat, p27 = .int .i64 i ∧ i + k = gl.length ∧ Hid (Below w1.heap.size w1 wr))
  case atStart => exact ⟨0, rfl, by omega, Below.refl _ _⟩
  case round =>
    obtain ⟨i, rfl, hik, HB1⟩ := hrel
    have hi0 : (0 : Int) ≤ (i : Int) := by omega
    have hi1 : (i : Int) ≤ 2147483647 := by omega
    by_cases hlt : i < gl.length
    · have hlti : (i : Int) < (gl.length : Int) := by omega
      have hltx : (i : Int) < (xs.length : Int) := by omega
      obtain ⟨y, hy⟩ : ∃ y, gl[i]? = some y := ⟨gl[i], List.getElem?_eq_getElem hlt⟩
      obtain ⟨x, hx⟩ : ∃ x, xs[i]? = some x := ⟨xs[i]'(by omega), List.getElem?_eq_getElem (by omega)⟩
      have HOK := Lib.hid (HALL.out i y x hy hx)
      obtain ⟨id, hcells⟩ := HROW.out.get hy
      obtain ⟨q, cap, hv, _, _⟩ := HOWN.out.form (by omega)
      have hA : Ao = some ⟨q, 0, none⟩ := by injection hv
      subst hA
      have hq : q < w1.heap.size := (own_lt HOWN.out rfl).1
      have hcc : ∀ j z, (rdCells s y id)[j]? = some z → wr.cell? ⟨q, i * 7 + j, none⟩ = some z := fun j z hz => by
        have h1 := HOWN.out.cells (g := q) rfl _ z (hcells j z hz)
        rw [addr_add0] at h1
        rw [World.cell?_of_block (w := w1) (a := ⟨q, i * 7 + j, none⟩) (HB1.out.block q hq)]; exact h1
      obtain ⟨A3, c3, hv3, hf3⟩ := HI.out.form
      injection hv3 with e1 _ e3
      subst e1
      subst e3
      obtain ⟨q2, hA2, hq2, hc2⟩ := hf3 (by intro e; subst e; simp at hx)
      subst hA2
      have hxx : ∀ j z, j < 4 → (iCells x)[j]? = some z → wr.cell? ⟨q2, i * 4 + j, none⟩ = some z := fun j z hj hz => by
        have h1 := hc2 (i * 4 + j) z (by rw [iRow_get hx j hj]; exact hz)
        have h2 : q2 < w1.heap.size := Nat.lt_of_lt_of_le hq2 HB.out.size
        rw [World.cell?_of_block (w := w1) (a := ⟨q2, i * 4 + j, none⟩) (HB1.out.block q2 h2), World.cell?_of_block (w := w0) (a := ⟨q2, i * 4 + j, none⟩) (HB.out.block q2 hq2)]; exact h1
      have a0 : wr.cell? ⟨q, i * 7, none⟩ = some (.int .i64 y.1.1.kind) := hcc 0 _ rfl
      have a1 : wr.cell? ⟨q, i * 7 + 1, none⟩ = some (.int .i64 (pos s y.1.2.1 : Nat)) := hcc 1 _ rfl
      have a2 : wr.cell? ⟨q, i * 7 + 2, none⟩ = some (.int .i64 (pos s y.1.2.2 : Nat)) := hcc 2 _ rfl
      have a3 : wr.cell? ⟨q, i * 7 + 3, none⟩ = some (.int .i64 (y.1.1.unit : Nat)) := hcc 3 _ rfl
      have a4 : wr.cell? ⟨q, i * 7 + 4, none⟩ = some (.bool id) := hcc 4 _ rfl
      have a5 : wr.cell? ⟨q, i * 7 + 5, none⟩ = some (.string (bsOf (enc y.1.1.text))) := hcc 5 _ rfl
      have a6 : wr.cell? ⟨q, i * 7 + 6, none⟩ = some (.bool y.2) := hcc 6 _ rfl
      have x0 : wr.cell? ⟨q2, i * 4, none⟩ = some (.int .i64 x.kind) := hxx 0 _ (by decide) rfl
      have x1 : wr.cell? ⟨q2, i * 4 + 1, none⟩ = some (.int .i64 x.unit) := hxx 1 _ (by decide) rfl
      have x2 : wr.cell? ⟨q2, i * 4 + 2, none⟩ = some (.string ⟨⟨x.text⟩⟩) := hxx 2 _ (by decide) rfl
      have x3 : wr.cell? ⟨q2, i * 4 + 3, none⟩ = some (.int .i64 x.space) := hxx 3 _ (by decide) rfl
      have HB2 := Lib.hid (HB1.out.alloc HB1.out.size (.cells #[.int .i64 y.1.1.kind, .int .i64 (pos s y.1.2.1 : Nat), .int .i64 (pos s y.1.2.2 : Nat), .int .i64 (y.1.1.unit : Nat), .bool id, .string (bsOf (enc y.1.1.text)), .bool y.2] 64))
      have HCALL := Lib.hid (fun w => is_true s (bsOf (enc y.1.1.text)) y.1.1.kind (pos s y.1.2.1) (pos s y.1.2.2) y.1.1.unit HOK.out.le pos_le (by have := HS.out; omega) x HOK.out.len HOK.out.isb id y.2 w)
      have HSP := Lib.hid HOK.out.sp
      clear hcells hcc hxx hc2 hf3 hv hy hx HOK
      generalize y.1.1.kind = yk at *
      generalize pos s y.1.2.1 = ya at *
      generalize pos s y.1.2.2 = yb at *
      generalize y.1.1.unit = yu at *
      generalize bsOf (enc y.1.1.text) = yt at *
      generalize y.2 = ysp at *
      have hcase : spb = false ∨ (spb = true ∧ decide (0 ≤ x.space) = false) ∨ (spb = true ∧ 0 ≤ x.space ∧ (x.space == 1) = ysp) := by
        cases spb
        · exact .inl rfl
        · by_cases h0 : 0 ≤ x.space
          · exact .inr (.inr ⟨rfl, h0, HSP.out rfl h0⟩)
          · exact .inr (.inl ⟨rfl, by simpa using h0⟩)
      clear HSP
      rcases hcase with h | ⟨h, hd0⟩ | ⟨h, hd0, hd1⟩ <;> subst h
      all_goals
        go_wp2_with fail
        generalize hW : wr.alloc (.cells #[.int .i64 yk, .int .i64 ya, .int .i64 yb, .int .i64 yu, .bool id, .string yt, .bool ysp] 64) = W
        have hWB : Below wr.heap.size wr W := by rw [← hW]; exact box_below _ _
        have hWb : W.heap[wr.heap.size]? = some (.cells #[.int .i64 yk, .int .i64 ya, .int .i64 yb, .int .i64 yu, .bool id, .string yt, .bool ysp] 64) := by rw [← hW]; exact heap_alloc_new wr _
        rw [hW] at HB2
        obtain ⟨Ix, hne, f, hf1, hf2⟩ := below_class W
        have k0 : ∀ n, (f n).cell? ⟨wr.heap.size, 0, none⟩ = some (.int .i64 yk) := fun n => class_cell hf1 (cell_blk hWb 0) n
        have k1 : ∀ n, (f n).cell? ⟨wr.heap.size, 1, none⟩ = some (.int .i64 (ya : Nat)) := fun n => class_cell hf1 (cell_blk hWb 1) n
        have k2 : ∀ n, (f n).cell? ⟨wr.heap.size, 2, none⟩ = some (.int .i64 (yb : Nat)) := fun n => class_cell hf1 (cell_blk hWb 2) n
        have k3 : ∀ n, (f n).cell? ⟨wr.heap.size, 3, none⟩ = some (.int .i64 (yu : Nat)) := fun n => class_cell hf1 (cell_blk hWb 3) n
        have k4 : ∀ n, (f n).cell? ⟨wr.heap.size, 4, none⟩ = some (.bool id) := fun n => class_cell hf1 (cell_blk hWb 4) n
        have k5 : ∀ n, (f n).cell? ⟨wr.heap.size, 5, none⟩ = some (.string yt) := fun n => class_cell hf1 (cell_blk hWb 5) n
        have k6 : ∀ n, (f n).cell? ⟨wr.heap.size, 6, none⟩ = some (.bool ysp) := fun n => class_cell hf1 (cell_blk hWb 6) n
        have z0 : ∀ n, (f n).cell? ⟨q2, i * 4, none⟩ = some (.int .i64 x.kind) := fun n => class_cell hf1 (below_cell hWB x0) n
        have z1 : ∀ n, (f n).cell? ⟨q2, i * 4 + 1, none⟩ = some (.int .i64 x.unit) := fun n => class_cell hf1 (below_cell hWB x1) n
        have z2 : ∀ n, (f n).cell? ⟨q2, i * 4 + 2, none⟩ = some (.string ⟨⟨x.text⟩⟩) := fun n => class_cell hf1 (below_cell hWB x2) n
        have z3 : ∀ n, (f n).cell? ⟨q2, i * 4 + 3, none⟩ = some (.int .i64 x.space) := fun n => class_cell hf1 (below_cell hWB x3) n
        have HF1 := Lib.hid hf1
        have HF2 := Lib.hid hf2
        clear hWB hWb hf1 hf2 hW
        refine wp_region_class (f := f) (by kernel_rfl) (by kernel_rfl) HF2.out ?_
        repeat (go_big_quiet_step ((go_at_call 32; exact (HCALL.out _).mono fun e w' h => ⟨h.1, class_next HF1.out HF2.out h.2⟩)))
        refine wpQuiet_nil ?_
        intro w9 hw9
        obtain ⟨nq, hw9⟩ := hw9
        subst hw9
        clear k0 k1 k2 k3 k4 k5 k6 z0 z1 z2 z3
        go_wp2_with fail
        go_roundg (gl.length - (i + 1))
        case measure => omega
        case rel => exact ⟨i + 1, by go_num, by omega, HB2.out.trans ((HF1.out nq).mono HB2.out.size)⟩
    · have hle : (gl.length : Int) ≤ (i : Int) := by omega
      go_wp2_with fail
      go_ret
      exact RetBW.mk' rfl (below_then HB.out HB1.out)
end Go.Proofs.YtkfdcbdlcipmfaaGreatFmt
namespace Go.Proofs.YtkfdcbdlcipmfaaGreatFmt
open Go.RowKit Css Go.Maps
theorem info34 : (Tryz.prog.info? 34).map (fun i => (i.zero, i.size, i.bytes)) = some (some (.agg #[.int .i64 0, .int .i64 0, .string ⟨#[]⟩, .int .i64 0]), 4, 40) := by kernel_rfl
theorem info3 : (Tryz.prog.info? 3).map (fun i => (i.zero, i.size, i.bytes)) = some (some (.int .i64 0), 1, 8) := by kernel_rfl
theorem zero4 (w : World) : (zeroValue 4).run Tryz.prog w = .ok (.bool false) w := by kernel_rfl
def opRow (op : List Int) : List Value := op.reverse.map fun k => .int .i64 k
structure IS (B b5 b6 n5 n6 : Nat) (acc : List RIt) (op : List Int) (la fr : Int → Bool) (vo vp : Value) (w : World) : Prop where
  out : w.ownsRow B 34 4 vo acc.length (iRow acc)
  opn : w.ownsRow B 3 1 vp op.length (opRow op)
  m5 : BM Tryz.prog 3 4 b5 n5 la w
  m6 : BM Tryz.prog 3 4 b6 n6 fr w
  ne : b5 ≠ b6
  low : B ≤ b5 ∧ B ≤ b6
theorem own_ty_ne {w : World} {B B' n n' : Nat} {e e' : TypeId} {s s' : Nat} {v v' : Value} {xs xs' : List Value} (h : w.ownsRow B e s v n xs) (h' : w.ownsRow B' e' s' v' n' xs') (hne : e ≠ e') : ∀ q, v.ownBlock = some q → v'.ownBlock ≠ some q := by
  intro q hq hq'
  obtain ⟨c1, f1, h1⟩ := (own_lt h hq).2.2
  obtain ⟨c2, f2, h2⟩ := (own_lt h' hq').2.2
  rw [h1] at h2
  injection h2 with h2
  injection h2 with _ h2 _
  exact hne h2
theorem IS.same {B b5 b6 n5 n6 : Nat} {acc : List RIt} {op : List Int} {la fr : Int → Bool} {vo vp : Value} {w w' : World} (h : IS B b5 b6 n5 n6 acc op la fr vo vp w) (hb : ∀ q, q < w.heap.size → w'.heap[q]? = w.heap[q]?) : IS B b5 b6 n5 n6 acc op la fr vo vp w' :=
  ⟨own_keep h.out fun q hq => hb q (own_lt h.out hq).1, own_keep h.opn fun q hq => hb q (own_lt h.opn hq).1, h.m5.same (hb _ h.m5.lt), h.m6.same (hb _ h.m6.lt), h.ne, h.low⟩
theorem IS.alloc {B b5 b6 n5 n6 : Nat} {acc : List RIt} {op : List Int} {la fr : Int → Bool} {vo vp : Value} {w : World} (h : IS B b5 b6 n5 n6 acc op la fr vo vp w) (o : Obj) : IS B b5 b6 n5 n6 acc op la fr vo vp (w.alloc o) := h.same fun q hq => Below.heap_alloc w o q hq
theorem IS.item {B b5 b6 n5 n6 : Nat} {acc : List RIt} {op : List Int} {la fr : Int → Bool} {vo vp v' : Value} {w w' : World} {O : Obj} {x : RIt} (h : IS B b5 b6 n5 n6 acc op la fr vo vp w) (hr : w'.ownsRow B 34 4 v' (acc.length + 1) (iRow acc ++ iCells x)) (hg : (w.alloc O).grownBy w' vo.ownBlock) : IS B b5 b6 n5 n6 (acc ++ [x]) op la fr v' vp w' := by
  have ha := h.alloc O
  refine ⟨by rw [iRow_snoc, List.length_append]; exact hr, own_keep ha.opn fun q hq => hg.block q (own_lt ha.opn hq).1 fun e => own_ty_ne ha.opn ha.out (by decide) q hq e.symm, ha.m5.kept hg (ha.m5.ne_own ha.out), ha.m6.kept hg (ha.m6.ne_own ha.out), h.ne, h.low⟩
theorem opRow_cons (k : Int) (op : List Int) : opRow (k :: op) = opRow op ++ [.int .i64 k] := by simp [opRow]
theorem opRow_len (op : List Int) : (opRow op).length = op.length := by simp [opRow]
theorem IS.push {B b5 b6 n5 n6 : Nat} {acc : List RIt} {op : List Int} {la fr : Int → Bool} {vo vp v' : Value} {w w' : World} {O : Obj} {k : Int} (h : IS B b5 b6 n5 n6 acc op la fr vo vp w) (hr : w'.ownsRow B 3 1 v' (op.length + 1) (opRow op ++ [.int .i64 k])) (hg : (w.alloc O).grownBy w' vp.ownBlock) : IS B b5 b6 n5 n6 acc (k :: op) la fr vo v' w' := by
  have ha := h.alloc O
  refine ⟨own_keep ha.out fun q hq => hg.block q (own_lt ha.out hq).1 fun e => own_ty_ne ha.out ha.opn (by decide) q hq e.symm, by rw [opRow_cons, List.length_cons]; exact hr, ha.m5.kept hg (ha.m5.ne_own ha.opn), ha.m6.kept hg (ha.m6.ne_own ha.opn), h.ne, h.low⟩
theorem IS.pop {B b5 b6 n5 n6 : Nat} {acc : List RIt} {k : Int} {op : List Int} {la fr : Int → Bool} {vo : Value} {A : Option Addr} {n c : Nat} {w : World} (h : IS B b5 b6 n5 n6 acc (k :: op) la fr vo (.slice A n c) w) : IS B b5 b6 n5 n6 acc op la fr vo (.slice A op.length c) w := by
  refine ⟨h.out, ?_, h.m5, h.m6, h.ne, h.low⟩
  have h2 := h.opn
  rw [opRow_cons, List.length_cons] at h2
  obtain ⟨h1, h2⟩ := h2
  refine ⟨opRow_len op ▸ (by rw [Nat.mul_one]), ?_⟩
  rcases h2 with ⟨_, h2⟩ | ⟨g, cap, cur, hv, hb, hh, hnc, hcm, hcs, ht⟩
  · simp at h2
  · injection hv with e1 e2 e3
    subst e1
    subst e3
    refine .inr ⟨g, c, cur, rfl, hb, hh, by omega, hcm, hcs, ?_⟩
    have h3 : (opRow op ++ [Value.int .i64 k]).take (op.length * 1) = opRow op := by rw [Nat.mul_one, ← opRow_len op, List.take_left']; rfl
    rw [← h3, ← ht, List.take_take]
    congr 1
    omega
theorem BM.look_run {b n : Nat} {f : Int → Bool} {w : World} (hown : BM Tryz.prog 3 4 b n f w) (i : Int) (hw : (Lit.int .i64 i).wf = true) : (Instr.lookup 55 (.map (some b)) (.int .i64 i) false).run Tryz.prog w = .ok (.bool (f i)) w := by
  obtain ⟨D, h1, h2, h3⟩ := hown.own
  obtain ⟨v, ps, hrun, hv⟩ := h1.lookup (int_keyed Tryz.underlying3) Tryz.underlying55 (zero4 w) (plainElem_bool Tryz.underlying4 false) (keyOf_int_mk Tryz.underlying3 hw)
  rw [h3 i] at hv
  obtain ⟨c, rfl, hc⟩ := plainElem_bool_inv Tryz.underlying4 hv
  simp only [Prod.mk.injEq, DataW.lit.injEq, Lit.bool.injEq] at hc
  rw [← hc.1] at hrun
  exact hrun
theorem IS.map_keep {B b5 b6 n5 n6 : Nat} {acc : List RIt} {op : List Int} {la fr : Int → Bool} {vo vp : Value} {w w' : World} (h : IS B b5 b6 n5 n6 acc op la fr vo vp w) {b n n' : Nat} {f : Int → Bool} (hm : BM Tryz.prog 3 4 b n f w) (hg : w.grownBy w' (some b)) : w'.ownsRow B 34 4 vo acc.length (iRow acc) ∧ w'.ownsRow B 3 1 vp op.length (opRow op) :=
  ⟨own_keep h.out fun q hq => hg.block q (own_lt h.out hq).1 fun e => hm.ne_own h.out (by rw [← e, hq]), own_keep h.opn fun q hq => hg.block q (own_lt h.opn hq).1 fun e => hm.ne_own h.opn (by rw [← e, hq])⟩
theorem IS.mark6 {B b5 b6 n5 n6 : Nat} {acc : List RIt} {op : List Int} {la fr : Int → Bool} {vo vp : Value} {w : World} (h : IS B b5 b6 n5 n6 acc op la fr vo vp w) (hn : n6 < maxLen) (d : Int) (hw : (Lit.int .i64 d).wf = true) (x : Bool) :
    ∃ w2, (Instr.mapUpdate 55 (.map (some b6)) (.int .i64 d) (.bool x)).run Tryz.prog w = .ok () w2 ∧ IS B b5 b6 n5 (n6 + 1) acc op la (upd fr d x) vo vp w2 ∧ w.grownBy w2 (some b6) := by
  obtain ⟨w2, hr, hm, hg⟩ := h.m6.put_run (t := 55) Tryz.underlying3 Tryz.underlying55 Tryz.underlying4 hn d hw x
  obtain ⟨h1, h2⟩ := h.map_keep (n' := 0) h.m6 hg
  exact ⟨w2, hr, ⟨h1, h2, h.m5.kept hg (by have := h.ne; intro e; injection e; omega), hm, h.ne, h.low⟩, hg⟩
theorem IS.mark5 {B b5 b6 n5 n6 : Nat} {acc : List RIt} {op : List Int} {la fr : Int → Bool} {vo vp : Value} {w : World} (h : IS B b5 b6 n5 n6 acc op la fr vo vp w) (hn : n5 < maxLen) (d : Int) (hw : (Lit.int .i64 d).wf = true) (x : Bool) :
    ∃ w2, (Instr.mapUpdate 55 (.map (some b5)) (.int .i64 d) (.bool x)).run Tryz.prog w = .ok () w2 ∧ IS B b5 b6 (n5 + 1) n6 acc op (upd la d x) fr vo vp w2 ∧ w.grownBy w2 (some b5) := by
  obtain ⟨w2, hr, hm, hg⟩ := h.m5.put_run (t := 55) Tryz.underlying3 Tryz.underlying55 Tryz.underlying4 hn d hw x
  obtain ⟨h1, h2⟩ := h.map_keep (n' := 0) h.m5 hg
  exact ⟨w2, hr, ⟨h1, h2, hm, h.m6.kept hg (by have := h.ne; intro e; injection e; omega), h.ne, h.low⟩, hg⟩
theorem IS.put6 {B b5 b6 n5 n6 : Nat} {acc : List RIt} {op : List Int} {la fr : Int → Bool} {vo vp : Value} {w w2 : World} (h : IS B b5 b6 n5 n6 acc op la fr vo vp w) {d : Int} {x : Bool} (hm : BM Tryz.prog 3 4 b6 (n6 + 1) (upd fr d x) w2) (hg : w.grownBy w2 (some b6)) : IS B b5 b6 n5 (n6 + 1) acc op la (upd fr d x) vo vp w2 := by
  obtain ⟨h1, h2⟩ := h.map_keep (n' := 0) h.m6 hg
  exact ⟨h1, h2, h.m5.kept hg (by have := h.ne; intro e; injection e; omega), hm, h.ne, h.low⟩
theorem IS.mono {B b5 b6 n5 n6 m5 m6 : Nat} {acc : List RIt} {op : List Int} {la fr : Int → Bool} {vo vp : Value} {w : World} (h : IS B b5 b6 n5 n6 acc op la fr vo vp w) (h5 : n5 ≤ m5) (h6 : n6 ≤ m6) : IS B b5 b6 m5 m6 acc op la fr vo vp w :=
  ⟨h.out, h.opn, h.m5.ext rfl h5, h.m6.ext rfl h6, h.ne, h.low⟩
theorem IS.not_own {B b5 b6 n5 n6 : Nat} {acc : List RIt} {op : List Int} {la fr : Int → Bool} {vo vp : Value} {w : World} (h : IS B b5 b6 n5 n6 acc op la fr vo vp w) {b : Nat} {cs : Array Value} {f : Nat × Nat} (hb : w.heap[b]? = some (Obj.cells cs 50 f)) : some b ≠ vo.ownBlock ∧ some b ≠ vp.ownBlock := by
  constructor
  · intro e
    obtain ⟨c1, f1, h1⟩ := (own_lt h.out e.symm).2.2
    rw [hb] at h1
    injection h1 with h1
    injection h1 with _ h1 _
    exact absurd h1 (by decide)
  · intro e
    obtain ⟨c1, f1, h1⟩ := (own_lt h.opn e.symm).2.2
    rw [hb] at h1
    injection h1 with h1
    injection h1 with _ h1 _
    exact absurd h1 (by decide)
theorem IS.marks {B b5 b6 n5 n6 : Nat} {acc : List RIt} {op : List Int} {la fr : Int → Bool} {vo vp : Value} {w : World} (h : IS B b5 b6 n5 n6 acc op la fr vo vp w) (hB : B ≤ w.heap.size) (hn5 : n5 < maxLen) (hn6 : n6 < maxLen) (d : Int) (hw : (Lit.int .i64 d).wf = true) (x : Bool) :
    ∃ w2 w3, (Instr.mapUpdate 55 (.map (some b6)) (.int .i64 d) (.bool false)).run Tryz.prog w = .ok () w2 ∧ (Instr.mapUpdate 55 (.map (some b5)) (.int .i64 d) (.bool x)).run Tryz.prog w2 = .ok () w3 ∧ IS B b5 b6 (n5 + 1) (n6 + 1) acc op (upd la d x) (upd fr d false) vo vp w3 ∧ Below B w w3 ∧ w.heap.size ≤ w3.heap.size ∧
      (∀ (b : Nat) (cs : Array Value) (T : TypeId) (f : Nat × Nat), w.heap[b]? = some (Obj.cells cs T f) → w2.heap[b]? = some (Obj.cells cs T f) ∧ w3.heap[b]? = some (Obj.cells cs T f)) := by
  obtain ⟨w2, hr2, h2, hg2⟩ := h.mark6 hn6 d hw false
  obtain ⟨w3, hr3, h3, hg3⟩ := h2.mark5 hn5 d hw x
  have hb2 : Below B w w2 := (Below.refl _ _).grown hg2 hB (by intro k hk; injection hk with hk; subst hk; exact h.low.2)
  have hb3 : Below B w2 w3 := (Below.refl _ _).grown hg3 (Nat.le_trans hB hg2.size) (by intro k hk; injection hk with hk; subst hk; exact h.low.1)
  refine ⟨w2, w3, hr2, hr3, h3, hb2.trans hb3, Nat.le_trans hg2.size hg3.size, fun b cs T f hb => ?_⟩
  have hlt : b < w.heap.size := (Array.getElem?_eq_some_iff.1 hb).1
  have hne : ∀ {b' n : Nat} {g : Int → Bool} {W : World}, BM Tryz.prog 3 4 b' n g W → W.heap[b]? = some (Obj.cells cs T f) → some b ≠ some b' := by
    intro b' n g W hm hW e
    injection e with e
    subst e
    obtain ⟨D, ⟨es, clock, hb, _⟩, _, _⟩ := hm.own
    rw [hb] at hW
    injection hW with hW
    cases hW
  have e2 : w2.heap[b]? = some (Obj.cells cs T f) := by rw [hg2.block b hlt (hne h.m6 hb)]; exact hb
  exact ⟨e2, by rw [hg3.block b (Nat.lt_of_lt_of_le hlt hg2.size) (hne h2.m5 e2)]; exact e2⟩
theorem grown_keep {w w' : World} {O : Obj} {r : Option Nat} (hg : (w.alloc O).grownBy w' r) {b : Nat} (hb : b < w.heap.size) (hne : some b ≠ r) : w'.heap[b]? = w.heap[b]? := by
  rw [hg.block b (by simp; omega) hne]; exact Below.heap_alloc w O b hb
end Go.Proofs.YtkfdcbdlcipmfaaGreatFmt
