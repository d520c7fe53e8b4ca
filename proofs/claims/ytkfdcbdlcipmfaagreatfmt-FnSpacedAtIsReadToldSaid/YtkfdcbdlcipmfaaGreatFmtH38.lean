/- Walks: the statements: the items of an at-rule. -/
import Derived.Test.YtkfdcbdlcipmfaaGreatFmtH37
import Derived.Test.YtkfdcbdlcipmfaaGreatFmtH36
set_option linter.unusedVariables false
set_option linter.unusedSimpArgs false
namespace Go.Proofs.YtkfdcbdlcipmfaaGreatFmt
open Go.RowKit Css
theorem own_none {w : World} {B n : Nat} {e : TypeId} {size : Nat} {A : Option Addr} {k c : Nat} {xs : List Value} (h : w.ownsRow B e size (.slice A k c) n xs) (hA : A = none) : k = 0 ∧ c = 0 := by
  subst hA
  rcases h.2 with ⟨h1, _⟩ | ⟨q, cap, cur, h1, _⟩
  · injection h1 with _ e1 e2; exact ⟨e1, e2⟩
  · injection h1 with h1 _ _; cases h1
theorem own_cells {w : World} {B n : Nat} {e : TypeId} {size : Nat} {A : Option Addr} {k c : Nat} {xs : List Value} (h : w.ownsRow B e size (.slice A k c) n xs) : ∀ ad, A = some ad → ∀ j u, xs[j]? = some u → w.cell? (ad.add j) = some u := by
  intro ad hA j u hj
  subst hA
  have hb : ∃ q, ad = ⟨q, 0, none⟩ := by
    rcases h.2 with ⟨h1, _⟩ | ⟨q, cap, cur, h1, _⟩
    · injection h1 with h1 _ _; cases h1
    · injection h1 with h1 _ _; injection h1 with h1; exact ⟨q, h1⟩
  obtain ⟨q, rfl⟩ := hb
  exact h.cells (g := q) rfl j u hj
set_option maxHeartbeats 1600000 in
set_option maxRecDepth 100000 in
theorem at_any (nm : ByteArray) (v : Value) (l : List RN) (hl : l.length ≤ 1000) (hd : ∀ n ∈ l, 0 ≤ n.depth ∧ n.depth ≤ 1000) (w : World) (h : NodesAt v l w) : Calls Tryz.prog 21 #[.string nm, v] w (RetIt (atR nm.data.toList l) w) := by
  have HN := Lib.hid h
  have HD := Lib.hid hd
  have HL := Lib.hid hl
  have hlit : (w.alloc (.cells #[.int .i64 1, .int .i64 0, .string nm, .int .i64 (-1)] 34)).ownsRow w.heap.size 34 4 (.slice (some ⟨w.heap.size, 0, none⟩) 1 1) 1 (iRow [nameR 1 nm.data.toList]) := World.ownsRow_lit w #[.int .i64 1, .int .i64 0, .string nm, .int .i64 (-1)] 1 (Nat.le_refl _) (by unfold maxLen; omega) rfl
  have HLIT := Lib.hid hlit
  have HB0 := Lib.hid (box_below (.cells #[.int .i64 1, .int .i64 0, .string nm, .int .i64 (-1)] 34) w)
  have hil := itemsR_len l
  have HIL : Hid ((itemsR l).length ≤ 2000) := by show _ ≤ _; omega
  rename World => w0
  clear h hd hl hlit hil
  go_enter Tryz.func21, Tryz.ntmps21
  go_wp2_with (first
    | (go_at_call 16; go_must (refine (nodes_any _ l (by have := HL.out; omega) _ (HN.out.below HB0.out)).mono ?_; rintro e w1 ⟨v1, rfl, ho1, hb1⟩; have HN1 := Lib.hid (own_nodes ho1); have HB1 := Lib.hid (below_then HB0.out hb1); have HO1 := Lib.hid (own_keep HLIT.out fun q hq => hb1.block q (own_lt HLIT.out hq).1); clear ho1 hb1))
    | (go_at_call 15; go_must (refine (items_any _ l HL.out HD.out _ HN1.out).mono ?_; rintro e w2 ⟨v2, rfl, ho2, hb2⟩; obtain ⟨A2, c2, rfl⟩ := own_slice ho2; have HI2 := Lib.hid ho2; have HB2 := Lib.hid (below_then HB1.out hb2); have HO2 := Lib.hid (own_keep HO1.out fun q hq => hb2.block q (own_lt HO1.out hq).1); clear ho2 hb2))
    | (at_builtin; go_must (first
        | (refine wpList_appN rfl _ _ 28 34 rfl Tryz.underlying28 info34 rfl (by decide) HO2.out HB2.out.size A2 (itemsR l).length c2 (iRow (itemsR l)) (iRow_len _) (own_none HI2.out) (own_cells HI2.out) (iRow_one _) (by have := HIL.out; omega) (by have := HIL.out; unfold maxLen; omega) rfl rfl ?_; intro v3 w3 ho3 _ hb3; have HO3 := Lib.hid ho3; have HB3 := Lib.hid (HB2.out.trans hb3); clear ho3 hb3)
        | (refine wpList_app1 rfl _ _ 28 34 rfl Tryz.underlying28 info34 rfl (by decide) HO3.out HB3.out.size #[.int .i64 35, .int .i64 0, .string ⟨#[59]⟩, .int .i64 (-1)] rfl (item_one _ _ _ _) (by have := HIL.out; omega) (by have := HIL.out; unfold maxLen; omega) rfl w3.heap.size rfl rfl ?_; intro v4 w4 ho4 _ hb4 _; have HO4 := Lib.hid ho4; have HB4 := Lib.hid (HB3.out.trans hb4); clear ho4 hb4))))
  go_ret
  have h4 := HO4.out
  refine ⟨v4, rfl, ?_, HB4.out⟩
  have e1 : iRow (atR nm.data.toList l) = iRow [nameR 1 nm.data.toList] ++ iRow (itemsR l) ++ iRow [signR 35 59] := by
    unfold atR
    rw [← iRow_append, ← iRow_append]; rfl
  have e2 : (atR nm.data.toList l).length = 1 + (itemsR l).length + 1 := by unfold atR; simp; omega
  rw [e1, e2]
  exact h4
end Go.Proofs.YtkfdcbdlcipmfaaGreatFmt
namespace Go.Proofs.YtkfdcbdlcipmfaaGreatFmt
open Go.RowKit Css
theorem holds_ready {asc : Bool} {s : ByteArray} {ds : List Int} {xs : List RIt} (h : s.data.toList = enc ds) (hsz : s.size ≤ 2147483647) (hr : ReadAs true ds (xs.map RIt.cp)) (hp : PlainTxt asc ds) (ho : ∀ x ∈ xs, ItOk x)
    (hxl : ∀ x ∈ xs, x.text.length ≤ 2147483647) (spb : Bool) (v : Value) (w : World) (hi : ItemsAt v xs w) : Calls Tryz.prog 17 #[.string s, v, .bool spb] w (RetBW true w) := by
  have hv : ∀ d ∈ ds, Valid d := fun d hd => (hp.1 d hd).1
  have hdec : dec s.data.toList = ds := by rw [h, dec_enc_v hv]
  have hpl : isPlainB s.data.toList = true := by
    unfold isPlainB okDec
    rw [hdec]
    simp only [Bool.and_eq_true, List.all_eq_true, Bool.not_eq_true', beq_eq_false_iff_ne, ne_eq]
    refine ⟨fun c hc => ?_, hp.2⟩
    have := hv c hc
    unfold Valid at this
    unfold okC
    simp only [Bool.and_eq_true, Bool.not_eq_true', beq_eq_false_iff_ne, ne_eq]
    omega
  obtain ⟨got, hg, hall⟩ := hr
  have hrd : rd (tokens ds).1 false = got ∧ (tokens ds).2.1 = 0 ∧ (tokens ds).2.2 = false := by
    unfold Css.reads at hg
    simp only [Prod.mk.injEq] at hg
    exact hg
  obtain ⟨g1, g2, g3⟩ := hrd
  have hmap := rdP_map (tokens ds).1 false
  rw [g1] at hmap
  have hlen : (tokens ds).1.length ≤ 2147483647 := by
    have h1 := tokens_len _ ds (Nat.le_refl _)
    have h2 := len_le_enc ds
    rw [← h] at h2
    have e : s.data.toList.length = s.size := rfl
    omega
  refine holds_true s (by omega) hpl (by rw [hdec]; exact g2) (by rw [hdec]; exact g3) (by rw [hdec]; exact hlen) xs v spb w hi ?_ ?_
  · rw [hdec]
    have h1 := hall.len
    rw [← hmap, List.length_map, List.length_map] at h1
    exact h1
  · intro i y x hy hx
    rw [hdec] at hy
    have hy2 : got[i]? = some (y.1.1, Css.part y.1.2.1 y.1.2.2, y.2) := by rw [← hmap, List.getElem?_map, hy]; rfl
    have hx2 : (xs.map RIt.cp)[i]? = some x.cp := by rw [List.getElem?_map, hx]; rfl
    obtain ⟨hit, hsp⟩ := hall.get hy2 hx2
    have hxm := List.mem_of_getElem? hx
    have hym := rdP_mem _ _ y (List.mem_of_getElem? hy)
    obtain ⟨s1, s2⟩ := tokens_sx ds y.1 hym
    obtain ⟨r1, r2⟩ := raw_bytes h s1 s2
    have hraw : ∀ c ∈ Css.part y.1.2.1 y.1.2.2, Valid c := by
      intro c hc
      obtain ⟨X, e⟩ := s1
      refine hv c ?_
      rw [e]
      exact List.mem_append_right _ (List.mem_of_mem_take hc)
    refine ⟨?_, r2, hxl x hxm, fun hb h0 => ?_⟩
    · show IsB _ _ _ (s.extract (s.size - bw y.1.2.1) (s.size - bw y.1.2.2)).data.toList x
      rw [r1]; exact isIt_bytes hit (ho x hxm) hraw
    · have := hsp rfl h0
      have h3 : y.2 = true ↔ x.space = 1 := this
      cases hy2 : y.2
      · simp only [beq_eq_false_iff_ne, ne_eq]; intro hs; rw [hy2] at h3; exact absurd (h3.2 hs) (by simp)
      · rw [hy2] at h3; simpa using h3.1 rfl
end Go.Proofs.YtkfdcbdlcipmfaaGreatFmt
