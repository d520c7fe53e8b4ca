/- Walks: the statements: the items of an at-rule. -/
import Derived.Test.YtkfdcbdlcipmfaaGreatFmtG20
import Derived.Test.YtkfdcbdlcipmfaaGreatFmtG03
set_option linter.unusedVariables false
set_option linter.unusedSimpArgs false
namespace Go.Proofs.YtkfdcbdlcipmfaaGreatFmt
open Go.RowKit Css
theorem own_none {w : World} {B n : Nat} {e : TypeId} {size : Nat} {A : Option Addr} {k c : Nat} {xs : List Value} (h : w.ownsRow B e size (.slice A k c) n xs) (hA : A = none) : k = 0 ∧ c = 0 := by
  subst hA
  rcases h.2 with ⟨h1, _⟩ | ⟨q, cap, cur, h1, _⟩
  · injection h1 with _ e1 e2; exact ⟨e1, e2⟩
  · injection h1 with h1 _ _; cases h1
theorem own_cells {w : World} {B n : Nat} {e : TypeId} {size : Nat} {A : Option Addr} {k c : Nat} {xs : List Value} (h : w.ownsRow B e size (.slice A k c) n xs) : ∀ ad, A = some ad → ∀ j u, xs[j]? = some u → w.cell? (ad.add j) = some u := by
  intro ad hA j u hj
  subst hA
  have hb : ∃ q, ad = ⟨q, 0, none⟩ := by
    rcases h.2 with ⟨h1, _⟩ | ⟨q, cap, cur, h1, _⟩
    · injection h1 with h1 _ _; cases h1
    · injection h1 with h1 _ _; injection h1 with h1; exact ⟨q, h1⟩
  obtain ⟨q, rfl⟩ := hb
  exact h.cells (g := q) rfl j u hj
set_option maxHeartbeats 1600000 in
set_option maxRecDepth 100000 in
theorem at_any (nm : ByteArray) (v : Value) (l : List RN) (hl : l.length ≤ 1000) (hd : ∀ n ∈ l, 0 ≤ n.depth ∧ n.depth ≤ 1000) (w : World) (h : NodesAt v l w) : Calls Tryz.prog 21 #[.string nm, v] w (RetIt (atR nm.data.toList l) w) := by
  have HN := Lib.hid h
  have HD := Lib.hid hd
  have HL := Lib.hid hl
  have hlit : (w.alloc (.cells #[.int .i64 1, .int .i64 0, .string nm, .int .i64 (-1)] 34)).ownsRow w.heap.size 34 4 (.slice (some ⟨w.heap.size, 0, none⟩) 1 1) 1 (iRow [nameR 1 nm.data.toList]) := World.ownsRow_lit w #[.int .i64 1, .int .i64 0, .string nm, .int .i64 (-1)] 1 (Nat.le_refl _) (by unfold maxLen; omega) rfl
  have HLIT := Lib.hid hlit
  have HB0 := Lib.hid (box_below (.cells #[.int .i64 1, .int .i64 0, .string nm, .int .i64 (-1)] 34) w)
  have hil := itemsR_len l
  have HIL : Hid ((itemsR l).length ≤ 2000) := by show _ ≤ _; omega
  rename World => w0
  clear h hd hl hlit hil
  go_enter Tryz.func21, Tryz.ntmps21
  go_wp2_with (first
    | (go_at_call 16; go_must (refine (nodes_any _ l (by have := HL.out; omega) _ (HN.out.below HB0.out)).mono ?_; rintro e w1 ⟨v1, rfl, ho1, hb1⟩; have HN1 := Lib.hid (own_nodes ho1); have HB1 := Lib.hid (below_then HB0.out hb1); have HO1 := Lib.hid (own_keep HLIT.out fun q hq => hb1.block q (own_lt HLIT.out hq).1); clear ho1 hb1))
    | (go_at_call 15; go_must (refine (items_any _ l HL.out HD.out _ HN1.out).mono ?_; rintro e w2 ⟨v2, rfl, ho2, hb2⟩; obtain ⟨A2, c2, rfl⟩ := own_slice ho2; have HI2 := Lib.hid ho2; have HB2 := Lib.hid (below_then HB1.out hb2); have HO2 := Lib.hid (own_keep HO1.out fun q hq => hb2.block q (own_lt HO1.out hq).1); clear ho2 hb2))
    | (at_builtin; go_must (first
        | (refine wpList_appN rfl _ _ 28 34 rfl Tryz.underlying28 info34 rfl (by decide) HO2.out HB2.out.size A2 (itemsR l).length c2 (iRow (itemsR l)) (iRow_len _) (own_none HI2.out) (own_cells HI2.out) (iRow_one _) (by have := HIL.out; omega) (by have := HIL.out; unfold maxLen; omega) rfl rfl ?_; intro v3 w3 ho3 _ hb3; have HO3 := Lib.hid ho3; have HB3 := Lib.hid (HB2.out.trans hb3); clear ho3 hb3)
        | (refine wpList_app1 rfl _ _ 28 34 rfl Tryz.underlying28 info34 rfl (by decide) HO3.out HB3.out.size #[.int .i64 35, .int .i64 0, .string ⟨#[59]⟩, .int .i64 (-1)] rfl (item_one _ _ _ _) (by have := HIL.out; omega) (by have := HIL.out; unfold maxLen; omega) rfl w3.heap.size rfl rfl ?_; intro v4 w4 ho4 _ hb4 _; have HO4 := Lib.hid ho4; have HB4 := Lib.hid (HB3.out.trans hb4); clear ho4 hb4))))
  go_ret
  have h4 := HO4.out
  refine ⟨v4, rfl, ?_, HB4.out⟩
  have e1 : iRow (atR nm.data.toList l) = iRow [nameR 1 nm.data.toList] ++ iRow (itemsR l) ++ iRow [signR 35 59] := by
    unfold atR
    rw [← iRow_append, ← iRow_append]; rfl
  have e2 : (atR nm.data.toList l).length = 1 + (itemsR l).length + 1 := by unfold atR; simp; omega
  rw [e1, e2]
  exact h4
end Go.Proofs.YtkfdcbdlcipmfaaGreatFmt
/- Words for the statements: what is printed is held to be what it should be. -/
set_option linter.unusedVariables false
namespace Go.Proofs.YtkfdcbdlcipmfaaGreatFmt
open Go.RowKit Css
theorem tokens_len (n : Nat) : ∀ ds : List Int, ds.length ≤ n → (tokens ds).1.length ≤ ds.length := by
  induction n with
  | zero =>
    intro ds h
    have : ds = [] := List.length_eq_zero_iff.1 (by omega)
    subst this
    have := reads_nil false
    have h2 : tokens [] = ([], 0, false) := by
      have hc : comments [] = (0, false, []) := comments_none (by simp)
      rw [tokens]; simp [hc]
    rw [h2]; simp
  | succ n ih =>
    intro ds h
    rw [tokens]
    split
    · simp
    · rename_i hd
      have h1 := next_lt hd
      have h2 := comments_len ds
      simp only [List.length_cons]
      have := ih (next (comments ds).2.2).2.2 (by omega)
      omega
theorem Css.All2.len {α β : Type} {R : α → β → Prop} {a : List α} {b : List β} (h : All2 R a b) : a.length = b.length := by
  induction h with
  | nil => rfl
  | cons _ _ ih => simp [ih]
theorem Css.All2.get {α β : Type} {R : α → β → Prop} {a : List α} {b : List β} (h : All2 R a b) : ∀ {i : Nat} {x : α} {y : β}, a[i]? = some x → b[i]? = some y → R x y := by
  induction h with
  | nil => intro i x y h; simp at h
  | cons h _ ih =>
    intro i x y hx hy
    cases i with
    | zero => simp at hx hy; subst hx; subst hy; exact h
    | succ i => exact ih (by simpa using hx) (by simpa using hy)
/-- What has been printed is read by the walk of holds. -/
theorem holds_ready {asc : Bool} {s : ByteArray} {ds : List Int} {xs : List RIt} (h : s.data.toList = enc ds) (hsz : s.size ≤ 2147483647) (hr : ReadAs true ds (xs.map RIt.cp)) (hp : PlainTxt asc ds) (ho : ∀ x ∈ xs, ItOk x)
    (hxl : ∀ x ∈ xs, x.text.length ≤ 2147483647) (spb : Bool) (v : Value) (w : World) (hi : ItemsAt v xs w) : Calls Tryz.prog 17 #[.string s, v, .bool spb] w (RetBW true w) := by
  have hv : ∀ d ∈ ds, Valid d := fun d hd => (hp.1 d hd).1
  have hdec : dec s.data.toList = ds := by rw [h, dec_enc_v hv]
  have hpl : isPlainB s.data.toList = true := by
    unfold isPlainB okDec
    rw [hdec]
    simp only [Bool.and_eq_true, List.all_eq_true, Bool.not_eq_true', beq_eq_false_iff_ne, ne_eq]
    refine ⟨fun c hc => ?_, hp.2⟩
    have := hv c hc
    unfold Valid at this
    unfold okC
    simp only [Bool.and_eq_true, Bool.not_eq_true', beq_eq_false_iff_ne, ne_eq]
    omega
  obtain ⟨got, hg, hall⟩ := hr
  have hrd : rd (tokens ds).1 false = got ∧ (tokens ds).2.1 = 0 ∧ (tokens ds).2.2 = false := by
    unfold Css.reads at hg
    simp only [Prod.mk.injEq] at hg
    exact hg
  obtain ⟨g1, g2, g3⟩ := hrd
  have hmap := rdP_map (tokens ds).1 false
  rw [g1] at hmap
  have hlen : (tokens ds).1.length ≤ 2147483647 := by
    have h1 := tokens_len _ ds (Nat.le_refl _)
    have h2 := len_le_enc ds
    rw [← h] at h2
    have e : s.data.toList.length = s.size := rfl
    omega
  refine holds_true s (by omega) hpl (by rw [hdec]; exact g2) (by rw [hdec]; exact g3) (by rw [hdec]; exact hlen) xs v spb w hi ?_ ?_
  · rw [hdec]
    have h1 := hall.len
    rw [← hmap, List.length_map, List.length_map] at h1
    exact h1
  · intro i y x hy hx
    rw [hdec] at hy
    have hy2 : got[i]? = some (y.1.1, Css.part y.1.2.1 y.1.2.2, y.2) := by rw [← hmap, List.getElem?_map, hy]; rfl
    have hx2 : (xs.map RIt.cp)[i]? = some x.cp := by rw [List.getElem?_map, hx]; rfl
    obtain ⟨hit, hsp⟩ := hall.get hy2 hx2
    have hxm := List.mem_of_getElem? hx
    have hym := rdP_mem _ _ y (List.mem_of_getElem? hy)
    obtain ⟨s1, s2⟩ := tokens_sx ds y.1 hym
    obtain ⟨r1, r2⟩ := raw_bytes h s1 s2
    have hraw : ∀ c ∈ Css.part y.1.2.1 y.1.2.2, Valid c := by
      intro c hc
      obtain ⟨X, e⟩ := s1
      refine hv c ?_
      rw [e]
      exact List.mem_append_right _ (List.mem_of_mem_take hc)
    refine ⟨?_, r2, hxl x hxm, fun hb h0 => ?_⟩
    · show IsB _ _ _ (s.extract (s.size - bw y.1.2.1) (s.size - bw y.1.2.2)).data.toList x
      rw [r1]; exact isIt_bytes hit (ho x hxm) hraw
    · have := hsp rfl h0
      have h3 : y.2 = true ↔ x.space = 1 := this
      cases hy2 : y.2
      · simp only [beq_eq_false_iff_ne, ne_eq]; intro hs; rw [hy2] at h3; exact absurd (h3.2 hs) (by simp)
      · rw [hy2] at h3; simpa using h3.1 rfl
end Go.Proofs.YtkfdcbdlcipmfaaGreatFmt
/- Walks: the law on an at-rule with whitespace behind each token. -/
set_option linter.unusedVariables false
set_option linter.unusedSimpArgs false
namespace Go.Proofs.YtkfdcbdlcipmfaaGreatFmt
open Go.RowKit Css
variable {F : Go.Stop.Interp} {W0 w w' : World}
theorem nodeK_of {asc : Bool} {l : List RN} (h : InTree asc l) : ∀ n ∈ l, NodeK n := by
  intro n hn
  have h1 := h.good.node n hn
  have h2 := h.good.low n hn
  obtain ⟨h3, _⟩ := isNode_item h1 h2
  obtain ⟨_, k0, k1, _⟩ := ok_kinds (isNode_ok h1 h2).1
  have hk : (tOf n.cp).kind = n.kind := rfl
  refine ⟨⟨by rw [← hk]; exact k0, by rw [← hk]; omega⟩, fun h26 => ?_, (okDec_val h3).1, ?_⟩
  · have hu : isNodeB n = true := h1
    unfold isNodeB at hu
    have h4 : ¬ nameKind n.kind := by unfold nameKind; omega
    rw [if_neg h4, if_neg (by omega), if_neg (by omega), if_neg (by omega), if_pos h26] at hu
    simp only [Bool.and_eq_true, decide_eq_true_eq] at hu
    omega
  · have h5 := h.deep n hn
    have h6 : 0 ≤ n.depth := by
      have : ∀ (l : List N) (m : Int), Tree m l → ∀ x ∈ l, 0 ≤ x.depth := by
        intro l
        induction l with
        | nil => intro m _ x hx; cases hx
        | cons a r ih =>
          intro m ht x hx
          rcases List.mem_cons.1 hx with rfl | hx
          · exact ht.1
          · exact ih _ ht.2.2 x hx
      exact this _ 0 h.good.tree n.cp (List.mem_map.2 ⟨n, hn, rfl⟩)
    omega
theorem le_texts (l : List RN) : ∀ n ∈ l, n.text.length ≤ texts l := by
  induction l with
  | nil => intro n hn; cases hn
  | cons a r ih =>
    intro n hn
    simp only [texts, List.map_cons, List.sum_cons] at ih ⊢
    rcases List.mem_cons.1 hn with rfl | hn
    · omega
    · have := ih n hn; omega
theorem items_text {l : List RN} {x : RIt} (hx : x ∈ itemsR l) : x.text.length ≤ texts l := by
  have hm := le_texts l
  rcases itemsRGo_mem l _ _ _ (by simp) x hx with ⟨k, _, rfl⟩ | ⟨n, hn, _, _, e⟩
  · exact Nat.zero_le _
  · rw [e]; exact hm n hn
theorem at_len {asc mini : Bool} {cs : List Int} {ts : List T} {cl : List Ch} {s : ByteArray} (hv : AllV cs) (h1 : cs.length ≤ 1048576) (h2 : cost ts ≤ 134217728) (h3 : (enc (flat cl)).length ≤ cost ts + 1) (hs : s.data.toList = enc (flat (atCh asc mini cs ts cl))) : s.size ≤ 2147483647 := by
  rw [size_enc hs, at_bytes]
  have h4 := ident_len (asc := asc) (may := !ts.isEmpty) (m := 0) hv
  simp only [List.length_append]
  have h5 : (if ts.isEmpty = true then ([] : List UInt8) else [32]).length ≤ 1 := by split <;> simp
  have h6 : (if mini = true then ([] : List UInt8) else [10]).length ≤ 1 := by split <;> simp
  simp only [List.length_cons, List.length_nil]
  omega
set_option maxHeartbeats 16000000 in
set_option maxRecDepth 100000 in
theorem law5_any (nm : ByteArray) (hnm : nm.size ≤ maxLen) (v : Value) (l : List RN) (hm : ∀ n ∈ l, n.text.length ≤ maxLen) (hml : l.length ≤ maxLen) (mini asc : Bool) (w : World) (hE : Env F W0 w) (hn : NodesS v l w) : Calls Tryz.prog 5 #[.string nm, v, .bool mini, .bool asc] w (RetBW true w) := by
  obtain ⟨A, c, rfl, _⟩ := hn.form
  have HE := Lib.hid hE
  have HN := Lib.hid hn
  have HM := Lib.hid hm
  have HML := Lib.hid hml
  have hb0 : (nm.size : Int) ≤ 9223372036854775807 := by unfold maxLen at hnm; omega
  have hb1 : (l.length : Int) ≤ 9223372036854775807 := by unfold maxLen at hml; omega
  have HWK : Hid (∀ w1, Below w.heap.size w w1 → Calls Tryz.prog 13 #[] w1 (RetBW true w1)) := fun w1 hb => wakes_any (F := F) (W0 := W0) w1 (HE.out.below hb)
  clear hE hn hm hml hnm
  rename World => w0
  by_cases hz : (2147483647 : Int) < (nm.size : Int)
  · go_enter Tryz.func5, Tryz.ntmps5
    go_wp2_with fail
    go_ret
    exact RetBW.mk' rfl (Below.refl _ _)
  · have hz2 : (nm.size : Int) ≤ 2147483647 := by omega
    clear hz
    cases hf : fitsB l
    · have HF := Lib.hid hf
      clear hf
      go_enter Tryz.func5, Tryz.ntmps5
      go_wp2_with (go_at_call 10; go_must (refine (fits1_off _ l HM.out HML.out _ HN.out).mono ?_; rw [HF.out]; rintro e w1 ⟨rfl, hb⟩; have HB1 := Lib.hid hb; clear hb))
      go_ret
      exact RetBW.mk' rfl HB1.out
    · have HF := Lib.hid hf
      have HLT : Hid (l.length ≤ 2147483647 ∧ ∀ n ∈ l, n.text.length ≤ 2147483647) := by
        unfold fitsB at hf
        simp only [Bool.and_eq_true, decide_eq_true_eq, List.all_eq_true] at hf
        refine ⟨hf.1, fun n hn => ?_⟩
        have := hf.2 n hn
        unfold fitB at this
        simpa using this
      clear hf
      cases hnb : namedB nm.data.toList asc
      · have HNB := Lib.hid hnb
        clear hnb
        go_enter Tryz.func5, Tryz.ntmps5
        go_wp2_with (first | (go_at_call 10; go_must (refine (fits1_off _ l HM.out HML.out _ HN.out).mono ?_; rw [HF.out]; rintro e w1 ⟨rfl, hb⟩; have HB1 := Lib.hid hb; clear hb)) | (go_at_call 11; go_must (refine (tree_off true asc _ l HLT.out.1 HLT.out.2 (fun hl v w h => set_all v l hl w h) _ (HN.out.below HB1.out)).mono ?_; rintro e w2 ⟨hb2, ⟨hok, v2, rfl, ho2⟩ | ⟨hok, rfl⟩⟩ <;> (have HB2 := Lib.hid (below_then HB1.out hb2); have HOK := Lib.hid hok; clear hb2 hok); (try (have HO2 := Lib.hid ho2; obtain ⟨A2, c2, hv2⟩ := own_slice ho2; subst hv2; clear ho2)))) | (go_at_call 12; go_must (refine (named2_any nm hz2 asc _).mono ?_; rw [HNB.out]; rintro e w3 ⟨rfl, rfl⟩)) | (go_at_call 13; go_must (refine (HWK.out _ HB2.out).mono ?_; rintro e w9 ⟨hr9, hb9⟩; have hr9' := hr9; subst hr9'; have HB9 := Lib.hid (below_then HB2.out hb9); clear hb9 hr9)))
        all_goals
          go_ret
          exact RetBW.mk' rfl HB9.out
      · have HNB := Lib.hid hnb
        have HNM : Hid (nm.data.toList.length ≤ 1048576 ∧ isNameB nm.data.toList = true ∧ lowB nm.data.toList asc = true) := by
          unfold namedB at hnb
          simp only [Bool.and_eq_true, decide_eq_true_eq] at hnb
          exact ⟨hnb.1.1, hnb.1.2, hnb.2⟩
        clear hnb
        go_enter Tryz.func5, Tryz.ntmps5
        go_upto_region 6 with (first | (go_at_call 10; go_must (refine (fits1_off _ l HM.out HML.out _ HN.out).mono ?_; rw [HF.out]; rintro e w1 ⟨rfl, hb⟩; have HB1 := Lib.hid hb; clear hb)) | (go_at_call 11; go_must (refine (tree_off true asc _ l HLT.out.1 HLT.out.2 (fun hl v w h => set_all v l hl w h) _ (HN.out.below HB1.out)).mono ?_; rintro e w2 ⟨hb2, ⟨hok, v2, rfl, ho2⟩ | ⟨hok, rfl⟩⟩ <;> (have HB2 := Lib.hid (below_then HB1.out hb2); have HOK := Lib.hid hok; clear hb2 hok); (try (have HO2 := Lib.hid ho2; obtain ⟨A2, c2, hv2⟩ := own_slice ho2; subst hv2; clear ho2)))) | (go_at_call 12; go_must (refine (named2_any nm hz2 asc _).mono ?_; rw [HNB.out]; rintro e w3 ⟨rfl, rfl⟩)) | (go_at_call 13; go_must (refine (HWK.out _ HB2.out).mono ?_; rintro e w9 ⟨hr9, hb9⟩; have hr9' := hr9; subst hr9'; have HB9 := Lib.hid (below_then HB2.out hb9); clear hb9 hr9)))
        · have HIT := Lib.hid (treeOk_in HOK.out)
          have HIS := Lib.hid ((treeOk_in HOK.out).set true)
          have hoL : w2.ownsRow w1.heap.size 45 6 (.slice A2 l.length c2) (setR true l).length (nRow (setR true l)) := by rw [setR_len]; exact HO2.out
          have HNA := Lib.hid (own_nodes hoL)
          have hcap : ∀ A k c, (Value.slice A2 l.length c2) = .slice A k c → k ≤ c := by
            intro A k c e
            injection e with e1 e2 e3
            subst e2
            subst e3
            rcases HO2.out.2 with ⟨h0, h1⟩ | ⟨q, cap, cur, hv, _, _, hlt, _⟩
            · omega
            · injection hv with _ _ e4
              omega
          have HNS := Lib.hid ((own_nodes hoL).toS hcap)
          have HNK := Lib.hid (nodeK_of HIS.out)
          have HL := Lib.hid (show (setR true l).length ≤ 1000 from HIS.out.many)
          have HD : Hid (∀ n ∈ setR true l, 0 ≤ n.depth ∧ n.depth ≤ 1000) := fun n hn => ⟨(HNK.out n hn).depth.1, by have := HIS.out.deep n hn; omega⟩
          have HDN := Lib.hid (dec_nil_iff HNM.out.2.1)
          have HGD := Lib.hid (low_good HDN.out.2 HNM.out.2.2)
          have HCS : Hid ((dec nm.data.toList).length ≤ 1048576) := by
            have := dec_len_le nm.data.toList HDN.out.2
            exact Nat.le_trans this HNM.out.1
          have HOKT : Hid (∀ ts, Parse 0 ((setR true l).map RN.cp) ts [] → OKl asc ts ∧ cost ts ≤ 134217728) := fun ts hp => ⟨set_okl HIT.out.good hp, in_cost HIS.out hp⟩
          have HITL : Hid (∀ x ∈ atR nm.data.toList (setR true l), x.text.length ≤ 2147483647) := by
            intro x hx
            simp only [atR, List.mem_cons, List.mem_append, List.not_mem_nil, or_false] at hx
            rcases hx with rfl | hx | rfl
            · have := HNM.out.1; show nm.data.toList.length ≤ _; omega
            · have h1 := items_text hx
              have h2 := HIS.out.size
              omega
            · decide
          clear hoL hcap
          go_wp2_with (first
            | (go_at_call 19; go_must (refine (At_any (F := F) (W0 := W0) mini asc nm (dec nm.data.toList) (okDec_val HDN.out.2).1.symm (good_v HGD.out) (good_l HGD.out) (by omega) (setR true l) _ HL.out HNK.out HOKT.out _ (HE.out.below HB2.out) HNS.out).mono ?_; rintro e w3 ⟨s, ts, cl, rfl, hp, hpr, hcl, hs, hb3⟩; have HS3 : Hid (Parse 0 ((setR true l).map RN.cp) ts [] ∧ Prints asc ts (headBefore ts) cl ∧ (enc (flat cl)).length ≤ cost ts + 1 ∧ s.data.toList = enc (flat (atCh asc mini (dec nm.data.toList) ts cl))) := ⟨hp, hpr, hcl, hs⟩; have HB3 := Lib.hid (below_then HB2.out hb3); have HNA3 := Lib.hid (HNA.out.below hb3); clear hp hpr hcl hs hb3))
            | (go_at_call 21; go_must (refine (at_any nm _ (setR true l) HL.out HD.out _ HNA3.out).mono ?_; rintro e w4 ⟨v4, rfl, ho4, hb4⟩; have HI4 := Lib.hid (own_items ho4); have HB4 := Lib.hid (below_then HB3.out hb4); clear ho4 hb4))
            | (go_at_call 17; go_must (refine (holds_ready HS3.out.2.2.2 (at_len (good_v HGD.out) HCS.out (HOKT.out ts HS3.out.1).2 HS3.out.2.2.1 HS3.out.2.2.2) (at_final HIT.out.good HNM.out.2.1 HNM.out.2.2 HS3.out.1 HS3.out.2.1).1 (at_final (mini := mini) HIT.out.good HNM.out.2.1 HNM.out.2.2 HS3.out.1 HS3.out.2.1).2.1 (at_final (mini := mini) HIT.out.good HNM.out.2.1 HNM.out.2.2 HS3.out.1 HS3.out.2.1).2.2 HITL.out false _ _ HI4.out).mono ?_; rintro e w5 ⟨hr5, hb5⟩; have hr5' := hr5; subst hr5'; have HB5 := Lib.hid (below_then HB4.out hb5); clear hb5 hr5))
            | (go_at_call 13; go_must (refine (HWK.out _ HB5.out).mono ?_; rintro e w9 ⟨hr9, hb9⟩; have hr9' := hr9; subst hr9'; have HB9 := Lib.hid (below_then HB5.out hb9); clear hb9 hr9)))
          go_ret
          exact RetBW.mk' rfl HB9.out
        · go_ret
          exact RetBW.mk' rfl HB9.out
end Go.Proofs.YtkfdcbdlcipmfaaGreatFmt
