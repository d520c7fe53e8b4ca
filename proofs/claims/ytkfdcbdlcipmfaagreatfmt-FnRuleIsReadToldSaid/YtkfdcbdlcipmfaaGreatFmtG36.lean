/- Walks: the statements: the items of an at-rule. -/
import Derived.Test.YtkfdcbdlcipmfaaGreatFmtG35
import Derived.Test.YtkfdcbdlcipmfaaGreatFmtG34
import Derived.Test.YtkfdcbdlcipmfaaGreatFmtG32
set_option linter.unusedVariables false
set_option linter.unusedSimpArgs false
namespace Go.Proofs.YtkfdcbdlcipmfaaGreatFmt
open Go.RowKit Css
theorem own_none {w : World} {B n : Nat} {e : TypeId} {size : Nat} {A : Option Addr} {k c : Nat} {xs : List Value} (h : w.ownsRow B e size (.slice A k c) n xs) (hA : A = none) : k = 0 ∧ c = 0 := by
  subst hA
  rcases h.2 with ⟨h1, _⟩ | ⟨q, cap, cur, h1, _⟩
  · injection h1 with _ e1 e2; exact ⟨e1, e2⟩
  · injection h1 with h1 _ _; cases h1
theorem own_cells {w : World} {B n : Nat} {e : TypeId} {size : Nat} {A : Option Addr} {k c : Nat} {xs : List Value} (h : w.ownsRow B e size (.slice A k c) n xs) : ∀ ad, A = some ad → ∀ j u, xs[j]? = some u → w.cell? (ad.add j) = some u := by
  intro ad hA j u hj
  subst hA
  have hb : ∃ q, ad = ⟨q, 0, none⟩ := by
    rcases h.2 with ⟨h1, _⟩ | ⟨q, cap, cur, h1, _⟩
    · injection h1 with h1 _ _; cases h1
    · injection h1 with h1 _ _; injection h1 with h1; exact ⟨q, h1⟩
  obtain ⟨q, rfl⟩ := hb
  exact h.cells (g := q) rfl j u hj
set_option maxHeartbeats 1600000 in
set_option maxRecDepth 100000 in
theorem at_any (nm : ByteArray) (v : Value) (l : List RN) (hl : l.length ≤ 1000) (hd : ∀ n ∈ l, 0 ≤ n.depth ∧ n.depth ≤ 1000) (w : World) (h : NodesAt v l w) : Calls Tryz.prog 21 #[.string nm, v] w (RetIt (atR nm.data.toList l) w) := by
  have HN := Lib.hid h
  have HD := Lib.hid hd
  have HL := Lib.hid hl
  have hlit : (w.alloc (.cells #[.int .i64 1, .int .i64 0, .string nm, .int .i64 (-1)] 34)).ownsRow w.heap.size 34 4 (.slice (some ⟨w.heap.size, 0, none⟩) 1 1) 1 (iRow [nameR 1 nm.data.toList]) := World.ownsRow_lit w #[.int .i64 1, .int .i64 0, .string nm, .int .i64 (-1)] 1 (Nat.le_refl _) (by unfold maxLen; omega) rfl
  have HLIT := Lib.hid hlit
  have HB0 := Lib.hid (box_below (.cells #[.int .i64 1, .int .i64 0, .string nm, .int .i64 (-1)] 34) w)
  have hil := itemsR_len l
  have HIL : Hid ((itemsR l).length ≤ 2000) := by show _ ≤ _; omega
  rename World => w0
  clear h hd hl hlit hil
  go_enter Tryz.func21, Tryz.ntmps21
  go_wp2_with (first
    | (go_at_call 16; go_must (refine (nodes_any _ l (by have := HL.out; omega) _ (HN.out.below HB0.out)).mono ?_; rintro e w1 ⟨v1, rfl, ho1, hb1⟩; have HN1 := Lib.hid (own_nodes ho1); have HB1 := Lib.hid (below_then HB0.out hb1); have HO1 := Lib.hid (own_keep HLIT.out fun q hq => hb1.block q (own_lt HLIT.out hq).1); clear ho1 hb1))
    | (go_at_call 15; go_must (refine (items_any _ l HL.out HD.out _ HN1.out).mono ?_; rintro e w2 ⟨v2, rfl, ho2, hb2⟩; obtain ⟨A2, c2, rfl⟩ := own_slice ho2; have HI2 := Lib.hid ho2; have HB2 := Lib.hid (below_then HB1.out hb2); have HO2 := Lib.hid (own_keep HO1.out fun q hq => hb2.block q (own_lt HO1.out hq).1); clear ho2 hb2))
    | (at_builtin; go_must (first
        | (refine wpList_appN rfl _ _ 28 34 rfl Tryz.underlying28 info34 rfl (by decide) HO2.out HB2.out.size A2 (itemsR l).length c2 (iRow (itemsR l)) (iRow_len _) (own_none HI2.out) (own_cells HI2.out) (iRow_one _) (by have := HIL.out; omega) (by have := HIL.out; unfold maxLen; omega) rfl rfl ?_; intro v3 w3 ho3 _ hb3; have HO3 := Lib.hid ho3; have HB3 := Lib.hid (HB2.out.trans hb3); clear ho3 hb3)
        | (refine wpList_app1 rfl _ _ 28 34 rfl Tryz.underlying28 info34 rfl (by decide) HO3.out HB3.out.size #[.int .i64 35, .int .i64 0, .string ⟨#[59]⟩, .int .i64 (-1)] rfl (item_one _ _ _ _) (by have := HIL.out; omega) (by have := HIL.out; unfold maxLen; omega) rfl w3.heap.size rfl rfl ?_; intro v4 w4 ho4 _ hb4 _; have HO4 := Lib.hid ho4; have HB4 := Lib.hid (HB3.out.trans hb4); clear ho4 hb4))))
  go_ret
  have h4 := HO4.out
  refine ⟨v4, rfl, ?_, HB4.out⟩
  have e1 : iRow (atR nm.data.toList l) = iRow [nameR 1 nm.data.toList] ++ iRow (itemsR l) ++ iRow [signR 35 59] := by
    unfold atR
    rw [← iRow_append, ← iRow_append]; rfl
  have e2 : (atR nm.data.toList l).length = 1 + (itemsR l).length + 1 := by unfold atR; simp; omega
  rw [e1, e2]
  exact h4
end Go.Proofs.YtkfdcbdlcipmfaaGreatFmt
/- Walks: the statements: the items of a declaration. -/
namespace Go.Proofs.YtkfdcbdlcipmfaaGreatFmt
open Go.RowKit Css
set_option maxHeartbeats 1600000 in
set_option maxRecDepth 100000 in
theorem declItems_any (nm : ByteArray) (v : Value) (l : List RN) (hl : l.length ≤ 1000) (hd : ∀ n ∈ l, 0 ≤ n.depth ∧ n.depth ≤ 1000) (w : World) (h : NodesAt v l w) : Calls Tryz.prog 14 #[.string nm, v] w (RetIt (declR nm.data.toList l false true []) w) := by
  have HN := Lib.hid h
  have HD := Lib.hid hd
  have HL := Lib.hid hl
  have hlit : (w.alloc (.cells #[.int .i64 29, .int .i64 0, .string nm, .int .i64 (-1), .int .i64 9, .int .i64 0, .string ⟨#[58]⟩, .int .i64 (-1)] 34)).ownsRow w.heap.size 34 4 (.slice (some ⟨w.heap.size, 0, none⟩) 2 2) 2 (iRow [nameR 29 nm.data.toList, signR 9 58]) := World.ownsRow_lit w #[.int .i64 29, .int .i64 0, .string nm, .int .i64 (-1), .int .i64 9, .int .i64 0, .string ⟨#[58]⟩, .int .i64 (-1)] 2 (Nat.le_refl _) (by unfold maxLen; omega) rfl
  have HLIT := Lib.hid hlit
  have HB0 := Lib.hid (box_below (.cells #[.int .i64 29, .int .i64 0, .string nm, .int .i64 (-1), .int .i64 9, .int .i64 0, .string ⟨#[58]⟩, .int .i64 (-1)] 34) w)
  have hil := itemsR_len l
  have HIL : Hid ((itemsR l).length ≤ 2000) := by show _ ≤ _; omega
  rename World => w0
  clear h hd hl hlit hil
  go_enter Tryz.func14, Tryz.ntmps14
  go_wp2_with (first
    | (go_at_call 16; go_must (refine (nodes_any _ l (by have := HL.out; omega) _ (HN.out.below HB0.out)).mono ?_; rintro e w1 ⟨v1, rfl, ho1, hb1⟩; have HN1 := Lib.hid (own_nodes ho1); have HB1 := Lib.hid (below_then HB0.out hb1); have HO1 := Lib.hid (own_keep HLIT.out fun q hq => hb1.block q (own_lt HLIT.out hq).1); clear ho1 hb1))
    | (go_at_call 15; go_must (refine (items_any _ l HL.out HD.out _ HN1.out).mono ?_; rintro e w2 ⟨v2, rfl, ho2, hb2⟩; obtain ⟨A2, c2, rfl⟩ := own_slice ho2; have HI2 := Lib.hid ho2; have HB2 := Lib.hid (below_then HB1.out hb2); have HO2 := Lib.hid (own_keep HO1.out fun q hq => hb2.block q (own_lt HO1.out hq).1); clear ho2 hb2))
    | (at_builtin; go_must (first
        | (refine wpList_appN rfl _ _ 28 34 rfl Tryz.underlying28 info34 rfl (by decide) HO2.out HB2.out.size A2 (itemsR l).length c2 (iRow (itemsR l)) (iRow_len _) (own_none HI2.out) (own_cells HI2.out) (iRow_one _) (by have := HIL.out; omega) (by have := HIL.out; unfold maxLen; omega) rfl rfl ?_; intro v3 w3 ho3 _ hb3; have HO3 := Lib.hid ho3; have HB3 := Lib.hid (HB2.out.trans hb3); clear ho3 hb3)
        | (refine wpList_app1 rfl _ _ 28 34 rfl Tryz.underlying28 info34 rfl (by decide) HO3.out HB3.out.size #[.int .i64 35, .int .i64 0, .string ⟨#[59]⟩, .int .i64 (-1)] rfl (item_one _ _ _ _) (by have := HIL.out; omega) (by have := HIL.out; unfold maxLen; omega) rfl w3.heap.size rfl rfl ?_; intro v4 w4 ho4 _ hb4 _; have HO4 := Lib.hid ho4; have HB4 := Lib.hid (HB3.out.trans hb4); clear ho4 hb4))))
  go_ret
  have h4 := HO4.out
  refine ⟨v4, rfl, ?_, HB4.out⟩
  have e1 : iRow (declR nm.data.toList l false true []) = iRow [nameR 29 nm.data.toList, signR 9 58] ++ iRow (itemsR l) ++ iRow [signR 35 59] := by
    unfold declR
    rw [← iRow_append, ← iRow_append]; rfl
  have e2 : (declR nm.data.toList l false true []).length = 2 + (itemsR l).length + 1 := by unfold declR; simp; omega
  rw [e1, e2]
  exact h4
end Go.Proofs.YtkfdcbdlcipmfaaGreatFmt
/- Words for the statements: how long a declaration is; items behind a call. -/
namespace Go.Proofs.YtkfdcbdlcipmfaaGreatFmt
open Go.RowKit Css
theorem decl_len {asc mini sp imp semi : Bool} {cs : List Int} {ts : List T} {cl : List Ch} {s : ByteArray} (hv : AllV cs) (h1 : cs.length ≤ 1048576) (h2 : cost ts ≤ 134217728) (h3 : (enc (flat cl)).length ≤ cost ts + 1) (hs : s.data.toList = enc (flat (declCh asc cs cl sp imp semi (wsIf (!mini) [10])))) : s.size ≤ 2147483647 := by
  rw [size_enc hs, decl_bytes]
  have h4 := ident_len (asc := asc) (may := false) (m := 0) hv
  simp only [List.length_append]
  have h5 : (if sp = true then ([32] : List UInt8) else []).length ≤ 1 := by split <;> simp
  have h6 : (if imp = true then impB else ([] : List UInt8)).length ≤ 10 := by split <;> simp [impB]
  have h7 : (if semi = true then ([59] : List UInt8) else []).length ≤ 1 := by split <;> simp
  have h8 : (enc (flat (wsIf (!mini) [10]))).length ≤ 1 := by cases mini <;> simp [flat_wsT, flat_wsF, enc] <;> decide
  simp only [List.length_cons, List.length_nil]
  omega
theorem ItemsAt.below {v : Value} {l : List RIt} {w w' : World} (h : ItemsAt v l w) (hb : Below w.heap.size w w') : ItemsAt v l w' := by
  obtain ⟨A, c, e, hf⟩ := h.form
  refine ⟨A, c, e, fun hl => ?_⟩
  obtain ⟨q, hA, hq, hc⟩ := hf hl
  refine ⟨q, hA, Nat.lt_of_lt_of_le hq hb.size, fun i x hx => ?_⟩
  rw [World.cell?_of_block (w := w) (a := ⟨q, i, none⟩) (hb.block q hq)]; exact hc i x hx
end Go.Proofs.YtkfdcbdlcipmfaaGreatFmt
