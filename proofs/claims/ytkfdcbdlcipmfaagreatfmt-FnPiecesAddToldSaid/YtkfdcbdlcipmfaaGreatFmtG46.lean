/- Walks: Declaration. -/
import Derived.Test.YtkfdcbdlcipmfaaGreatFmtG39
import Derived.Test.YtkfdcbdlcipmfaaGreatFmtG45
import Derived.Test.YtkfdcbdlcipmfaaGreatFmtG44
import Derived.Test.YtkfdcbdlcipmfaaGreatFmtG43
import Derived.Test.YtkfdcbdlcipmfaaGreatFmtG41
set_option linter.unusedVariables false
set_option linter.unusedSimpArgs false
namespace Go.Proofs.YtkfdcbdlcipmfaaGreatFmt
open Go.RowKit Css
variable {F : Go.Stop.Interp} {W0 w w' : World}
def DeclT (asc mini : Bool) (cs : List Int) (l : List RN) (imp : Bool) (s : ByteArray) : Prop :=
  ∃ (ts : List T) (cl : List Ch) (sp : Bool), Parse 0 (l.map RN.cp) ts [] ∧ Prints asc ts (headBefore ts) cl ∧ (enc (flat cl)).length ≤ cost ts + 1 ∧ (imp = false → sp = false) ∧ s.data.toList = enc (flat (declCh asc cs cl sp imp true (wsIf (!mini) [10])))
theorem decl_out (asc mini : Bool) (cs : List Int) (cl : List Ch) (sp imp : Bool) : ([] : List UInt8) ++ (if mini then [] else List.replicate (2 * 0) 32) ++ enc (flat (declCh asc cs cl sp imp (!false) [])) ++ (if mini then [] else [10]) = enc (flat (declCh asc cs cl sp imp true (wsIf (!mini) [10]))) := by
  rw [decl_bytes, decl_bytes]
  cases mini <;> simp [flat_wsT, flat_wsF, enc] <;> rfl
set_option maxHeartbeats 8000000 in
set_option maxRecDepth 100000 in
theorem Declaration_any (imp mini asc : Bool) (nm : ByteArray) (cs : List Int) (h : nm.data.toList = enc cs) (hv : AllV cs) (hlow : asc = true → ∀ c ∈ cs, c < 1048576) (hss : nm.size ≤ 2147483647) (l : List RN) (v : Value) (hl : l.length ≤ 1000) (hk : ∀ n ∈ l, NodeK n)
    (hok : ∀ ts, Parse 0 (l.map RN.cp) ts [] → OKl asc ts ∧ cost ts ≤ 134217728) (w : World) (hE : Env F W0 w) (hn : NodesS v l w) : Calls Tryz.prog 22 #[.string nm, v, .bool imp, .bool mini, .bool asc] w (fun e w' => ∃ s, e = .returned (.string s) ∧ DeclT asc mini cs l imp s ∧ Below w.heap.size w w') := by
  have HC := Lib.hid (tokens_rec (l.length + 1) l 0 v w (by omega) hl (by omega) (by omega) hk hn)
  have HP : Hid (∀ k ts, Parse 0 (l.map RN.cp) ts ((l.drop k).map RN.cp) → Parse 0 (l.map RN.cp) ts []) := fun k ts => parse_all fun n hn => (hk n hn).depth.1
  have HE := Lib.hid hE
  have HH := Lib.hid h
  have HV := Lib.hid hv
  have HLOW := Lib.hid hlow
  have HSS := Lib.hid hss
  have HOK := Lib.hid hok
  have HCS : Hid (cs.length ≤ 2147483647) := by
    have h1 := len_le_enc cs
    rw [← h] at h1
    have e : nm.data.toList.length = nm.size := rfl
    show _ ≤ _; omega
  clear hk hE h hv hlow hss hok hl hn
  go_enter Tryz.func22, Tryz.ntmps22
  go_wp2_with (first
    | (go_at_call 33; go_must (refine HC.out.mono ?_; rintro e w1 ⟨ts, k, v', hk', rfl, hp, htk, hb1⟩; have HPA := Lib.hid (HP.out k ts hp); obtain ⟨A', c', hv', htk2⟩ := htk; subst hv'; have htk : TksAt w1 (fun b => w.heap.size ≤ b ∧ b < w1.heap.size) (.slice A' ts.length c') ts := ⟨A', c', rfl, htk2⟩; have HTK := Lib.hid htk; have HB1 := Lib.hid hb1; clear hk' hp htk htk2 hb1))
    | (go_at_call 34; go_must (refine (printed_any mini asc w1.heap.size 69 _ ((HE.out.below HB1.out).below (box_below _ _)).rebase (fun out => ∃ cl sp, Prints asc ts (headBefore ts) cl ∧ (enc (flat cl)).length ≤ cost ts + 1 ∧ (imp = false → sp = false) ∧ out = enc (flat (declCh asc cs cl sp imp true (wsIf (!mini) [10])))) ?hx ?hr).mono ?_; (case hx => rintro out ⟨cl, sp, _, _, _, rfl⟩; rw [decl_bytes]; simp); (case hr =>
        intro Wp hbp g W' hlow2 hE2 hst2
        have hbw : Below w1.heap.size w1 Wp := below_then (box_below _ w1) hbp
        have hsame : ∀ b, b < w1.heap.size → W'.heap[b]? = w1.heap[b]? := fun b hb => (hlow2 b (Nat.lt_of_lt_of_le hb hbw.size)).trans (hbw.block b hb)
        have h1 := blk_below hbp (heap_alloc_new w1 _)
        have hrb := h1
        rw [← hlow2 _ (Array.getElem?_eq_some_iff.1 h1).1] at hrb
        have hrl : w1.heap.size < Wp.heap.size := by
          have := hbp.size
          simp at this; omega
        obtain ⟨ho1, ho2⟩ := HOK.out ts HPA.out
        refine (printRule_decl (F := F) (W0 := Wp) g w1.heap.size mini asc cs HV.out HLOW.out nm HH.out HSS.out ts (.slice A' ts.length c') imp false 0 (by decide) W' [] ho2 ho1 (HTK.out.keep fun b hb => ⟨Nat.lt_of_lt_of_le hb.2 hbw.size, hsame b hb.2⟩) hE2 hst2 (by have := HCS.out; simp; omega) hrl _ _ hrb rfl rfl rfl).mono ?_
        rintro e' w4 ⟨rfl, cl, sp, c1, c2, c3, c4⟩
        rw [decl_out] at c4
        exact ⟨rfl, _, ⟨cl, sp, c1, c2, c3, rfl⟩, c4⟩); rintro e w3 ⟨s, rfl, ⟨cl, sp, c1, c2, c3, c4⟩, hb3⟩; have HR : Hid (Prints asc ts (headBefore ts) cl ∧ (enc (flat cl)).length ≤ cost ts + 1 ∧ (imp = false → sp = false) ∧ s.data.toList = enc (flat (declCh asc cs cl sp imp true (wsIf (!mini) [10])))) := ⟨c1, c2, c3, c4⟩; have HB3 := Lib.hid hb3; clear c1 c2 c3 c4 hb3)))
  go_ret
  exact ⟨s, rfl, ⟨ts, cl, sp, HPA.out, HR.out.1, HR.out.2.1, HR.out.2.2.1, HR.out.2.2.2⟩, below_then (below_then HB1.out (box_below _ _)) HB3.out⟩
end Go.Proofs.YtkfdcbdlcipmfaaGreatFmt
namespace Go.Proofs.YtkfdcbdlcipmfaaGreatFmt
open Go.RowKit Css
variable {F : Go.Stop.Interp} {W0 w w' : World}
def ValT (asc : Bool) (l : List RN) (s : ByteArray) : Prop :=
  ∃ (ts : List T) (cl : List Ch), Parse 0 (l.map RN.cp) ts [] ∧ Prints asc ts (headBefore ts) cl ∧ (enc (flat cl)).length ≤ cost ts + 1 ∧ s.data.toList = enc (flat cl)
theorem k_bytes (asc mini : Bool) (cl : List Ch) : enc (flat (declCh asc [107] cl false false true (wsIf (!mini) [10]))) = [107, 58] ++ enc (flat cl) ++ (if mini then [59] else [59, 10]) := by
  have e : enc (ident asc false 0 [107]) = [107] := by cases asc <;> decide
  rw [decl_bytes, e]
  cases mini <;> simp [flat_wsT, flat_wsF, enc] <;> rfl
theorem ext_mid {s : ByteArray} {a b c : List UInt8} (h : s.data.toList = a ++ b ++ c) : (s.extract 0 a.length).data.toList = a ∧ (s.extract a.length (a.length + b.length)).data.toList = b ∧ (s.extract (a.length + b.length) (a.length + b.length + c.length)).data.toList = c ∧ s.size = a.length + b.length + c.length := by
  have hs : s.size = a.length + b.length + c.length := by rw [size_enc h]; simp [Nat.add_assoc]
  refine ⟨?_, ?_, ?_, hs⟩
  · rw [ByteArray.data_extract, Array.toList_extract, h]; simp
  · rw [ByteArray.data_extract, Array.toList_extract, h]; simp
  · rw [ByteArray.data_extract, Array.toList_extract, h]; simp
set_option maxHeartbeats 1600000 in
set_option maxRecDepth 100000 in
theorem value_any (mini asc : Bool) (l : List RN) (v : Value) (hl : l.length ≤ 1000) (hk : ∀ n ∈ l, NodeK n)
    (hok : ∀ ts, Parse 0 (l.map RN.cp) ts [] → OKl asc ts ∧ cost ts ≤ 134217728) (w : World) (hE : Env F W0 w) (hn : NodesS v l w) : Calls Tryz.prog 23 #[v, .bool mini, .bool asc] w (fun e w' => ∃ s, e = .returned (.string s) ∧ ValT asc l s ∧ Below w.heap.size w w') := by
  have HD : Hid (Calls Tryz.prog 22 #[.string ⟨#[107]⟩, v, .bool false, .bool mini, .bool asc] w (fun e w' => ∃ s, e = .returned (.string s) ∧ DeclT asc mini [107] l false s ∧ Below w.heap.size w w')) :=
    Declaration_any (F := F) (W0 := W0) false mini asc ⟨#[107]⟩ [107] (by decide) (by intro c hc; simp at hc; subst hc; exact ⟨by decide, by decide⟩) (by intro _ c hc; simp at hc; subst hc; decide) (by decide) l v hl hk hok w hE hn
  have HOK := Lib.hid hok
  have HCUT : Hid (∀ (s t : ByteArray) (w1 : World), DeclT asc mini [107] l false s → t.data.toList = (if mini then [59] else [59, 10]) → Calls Tryz.prog 36 #[.string s, .string ⟨#[107, 58]⟩, .string t] w1 (fun e w' => ∃ s', e = .returned (.string s') ∧ ValT asc l s' ∧ Below w1.heap.size w1 w')) := by
    rintro s t w1 ⟨ts, cl, sp, hp, hpr, hcl, hsp, hs⟩ ht
    have e := hsp rfl
    subst e
    rw [k_bytes] at hs
    obtain ⟨x1, x2, x3, x4⟩ := ext_mid hs
    have hc := (HOK.out ts hp).2
    have hts : t.size = (if mini then [59] else [59, 10] : List UInt8).length := by rw [size_enc ht]
    have htl : (if mini then [59] else [59, 10] : List UInt8).length ≤ 2 := by cases mini <;> decide
    refine (between_any s ⟨#[107, 58]⟩ t s.size 2 t.size rfl rfl rfl (by rw [x4, hts]; simp <;> omega) (by rw [x4]; simp <;> omega) ?_ ?_ w1).mono ?_
    · exact ByteArray.ext (Array.toList_inj.1 x1)
    · refine ByteArray.ext (Array.toList_inj.1 ?_)
      rw [ht, ← x3, x4, hts]
      congr 3 <;> simp
    · rintro e w2 ⟨rfl, hb⟩
      refine ⟨_, rfl, ⟨ts, cl, hp, hpr, hcl, ?_⟩, hb⟩
      rw [← x2, x4, hts]
      congr 3
      simp
  clear hl hk hok hn hE
  cases mini <;>
  · go_enter Tryz.func23, Tryz.ntmps23
    go_wp2_with (first
      | (go_at_call 22; go_must (refine HD.out.mono ?_; rintro e w1 ⟨s, rfl, hd, hb⟩; have HS := Lib.hid hd; have HB := Lib.hid hb; clear hd hb))
      | (go_at_call 36; go_must (refine (HCUT.out s _ _ HS.out rfl).mono ?_; rintro e w2 ⟨s', rfl, hv, hb2⟩; have HV := Lib.hid hv; have HB2 := Lib.hid (below_then HB.out hb2); clear hv hb2)))
    go_ret
    exact ⟨s', rfl, HV.out, HB2.out⟩
end Go.Proofs.YtkfdcbdlcipmfaaGreatFmt
namespace Go.Proofs.YtkfdcbdlcipmfaaGreatFmt
open Go.RowKit Css
theorem k_bytes2 (asc : Bool) (cl : List Ch) : enc (flat (declCh asc [107] cl false false true [])) = [107, 58] ++ enc (flat cl) ++ [59] := by
  have e : enc (ident asc false 0 [107]) = [107] := by cases asc <;> decide
  rw [decl_bytes, e]
  simp [enc]
theorem pieces_ready {asc : Bool} {ts : List T} {cl1 cl2 : List Ch} {s t : ByteArray} (h1 : Prints asc ts (headBefore ts) cl1) (h2 : Prints asc ts (headBefore ts) cl2) (hok : OKl asc ts)
    (hs : s.data.toList = [107, 58] ++ enc (flat cl1) ++ [59]) (ht : t.data.toList = [107, 58] ++ enc (flat cl2) ++ [59]) (hs2 : s.size ≤ 2147483647) (ht2 : t.size ≤ 2147483647) (w : World) : Calls Tryz.prog 20 #[.string s, .string t] w (RetBW true w) := by
  have HNM : ([107] : List Int) ≠ [] := by simp
  have hg : Css.Good asc [107] := by intro c hc; simp at hc; subst hc; exact ⟨⟨by decide, by decide⟩, fun _ => by decide⟩
  obtain ⟨x, y, e1, e2, e3⟩ := decl_same h1 h2 hok (nm := [107]) (by simp) hg
  rw [← k_bytes2 asc] at hs ht
  exact same_ready (readT hs hs2 (⟨decl_plain _ _ _ hg h1 hok (by simp), decl_no_bom _ _ _ HNM⟩) e1) (readT ht ht2 (⟨decl_plain _ _ _ hg h2 hok (by simp), decl_no_bom _ _ _ HNM⟩) e2) e3 w
theorem pieces_call {asc : Bool} {A B : List RN} (hA : GoodTree asc A) (hB : GoodTree asc B) (hne : A ≠ []) {x y z : ByteArray} (hx : ValT asc (endSetR false (setR false A)) x) (hy : ValT asc (noBefore (setR false B)) y) (hz : ValT asc (endSetR true (endSetR false (setR false A)) ++ noBefore (setR false B)) z) {s t : ByteArray}
    (hs : s.data.toList = [107, 58] ++ z.data.toList ++ [59]) (ht : t.data.toList = [107, 58] ++ x.data.toList ++ [32, 32] ++ y.data.toList ++ [59]) (hs2 : s.size ≤ 2147483647) (ht2 : t.size ≤ 2147483647) (w : World) : Calls Tryz.prog 20 #[.string s, .string t] w (RetBW true w) := by
  obtain ⟨ta, ca, a1, a2, _, a4⟩ := hx
  obtain ⟨tb, cb, b1, b2, _, b4⟩ := hy
  obtain ⟨tz, cz, z1, z2, _, z4⟩ := hz
  obtain ⟨hok, c2, p1, p2⟩ := pieces hA hB hne a1 b1 z1 a2 b2 z2
  refine pieces_ready z2 p1 hok (by rw [hs, z4]) ?_ hs2 ht2 w
  rw [ht, p2, a4, b4, enc_append, enc_cons, enc_cons]
  have e : enc1 32 = [32] := by decide
  simp [e]
end Go.Proofs.YtkfdcbdlcipmfaaGreatFmt
namespace Go.Proofs.YtkfdcbdlcipmfaaGreatFmt
open Go.RowKit Css
variable {F : Go.Stop.Interp} {W0 w w' : World}
theorem k_txt1 (z : ByteArray) : ((⟨#[107, 58]⟩ : ByteArray) ++ z ++ (⟨#[59]⟩ : ByteArray)).data.toList = [107, 58] ++ z.data.toList ++ [59] := by simp
theorem k_txt2 (x y : ByteArray) : ((⟨#[107, 58]⟩ : ByteArray) ++ x ++ (⟨#[32, 32]⟩ : ByteArray) ++ y ++ (⟨#[59]⟩ : ByteArray)).data.toList = [107, 58] ++ x.data.toList ++ [32, 32] ++ y.data.toList ++ [59] := by simp
theorem k_size1 {z : ByteArray} (h : (z.size : Int) ≤ 134217729) : ((⟨#[107, 58]⟩ : ByteArray) ++ z ++ (⟨#[59]⟩ : ByteArray)).size ≤ 2147483647 := by
  have h1 : (⟨#[107, 58]⟩ : ByteArray).size = 2 := rfl
  have h2 : (⟨#[59]⟩ : ByteArray).size = 1 := rfl
  rw [ByteArray.size_append, ByteArray.size_append, h1, h2]; omega
theorem k_size2 {x y : ByteArray} (h : (x.size : Int) ≤ 134217729) (h' : (y.size : Int) ≤ 134217729) : ((⟨#[107, 58]⟩ : ByteArray) ++ x ++ (⟨#[32, 32]⟩ : ByteArray) ++ y ++ (⟨#[59]⟩ : ByteArray)).size ≤ 2147483647 := by
  have h1 : (⟨#[107, 58]⟩ : ByteArray).size = 2 := rfl
  have h2 : (⟨#[59]⟩ : ByteArray).size = 1 := rfl
  have h3 : (⟨#[32, 32]⟩ : ByteArray).size = 2 := rfl
  rw [ByteArray.size_append, ByteArray.size_append, ByteArray.size_append, ByteArray.size_append, h1, h2, h3]; omega
theorem valT_size {asc : Bool} {l : List RN} {s : ByteArray} (h : ValT asc l s) (hok : ∀ ts, Parse 0 (l.map RN.cp) ts [] → OKl asc ts ∧ cost ts ≤ 134217728) : (s.size : Int) ≤ 134217729 := by
  obtain ⟨ts, cl, hp, _, hc, hs⟩ := h
  have := (hok ts hp).2
  rw [size_enc hs]; omega
set_option maxHeartbeats 16000000 in
set_option maxRecDepth 100000 in
theorem law9_any (v v' : Value) (l u : List RN) (hm : ∀ n ∈ l, n.text.length ≤ maxLen) (hml : l.length ≤ maxLen) (hmu : ∀ n ∈ u, n.text.length ≤ maxLen) (hmlu : u.length ≤ maxLen) (mini asc : Bool) (w : World) (hE : Env F W0 w) (hn : NodesS v l w) (hu : NodesS v' u w) : Calls Tryz.prog 9 #[v, v', .bool mini, .bool asc] w (RetBW true w) := by
  obtain ⟨A, c, rfl, _⟩ := hn.form
  obtain ⟨A', c', rfl, _⟩ := hu.form
  have HE := Lib.hid hE
  have HN := Lib.hid hn
  have HU := Lib.hid hu
  have HM := Lib.hid hm
  have HML := Lib.hid hml
  have HMU := Lib.hid hmu
  have HMLU := Lib.hid hmlu
  have hb1 : (l.length : Int) ≤ 9223372036854775807 := by unfold maxLen at hml; omega
  have hb2 : (u.length : Int) ≤ 9223372036854775807 := by unfold maxLen at hmlu; omega
  have HWK : Hid (∀ w1, Below w.heap.size w w1 → Calls Tryz.prog 13 #[] w1 (RetBW true w1)) := fun w1 hb => wakes_any (F := F) (W0 := W0) w1 (HE.out.below hb)
  clear hE hn hm hml hu hmu hmlu
  rename World => w0
  cases hf : fitsB l
  · have HF := Lib.hid hf
    clear hf
    go_enter Tryz.func9, Tryz.ntmps9
    go_wp2_with (go_at_call 10; go_must (refine (fits1_off _ l HM.out HML.out _ HN.out).mono ?_; rw [HF.out]; rintro e w1 ⟨rfl, hb⟩; have HB1 := Lib.hid hb; have HU1 := Lib.hid (NodesS.below HU.out hb); have HN1 := Lib.hid (NodesS.below HN.out hb); clear hb))
    go_ret
    exact RetBW.mk' rfl HB1.out
  · have HF := Lib.hid hf
    have HLT := Lib.hid (fits_parts hf)
    clear hf
    cases hf : fitsB u
    · have HFU := Lib.hid hf
      clear hf
      go_enter Tryz.func9, Tryz.ntmps9
      go_wp2_with (first
    | (go_at_call 10; have hx := HU1.out; clear hx; go_must (refine (fits1_off _ u HMU.out HMLU.out _ HU1.out).mono ?_; rw [HFU.out]; rintro e w2 ⟨rfl, hb⟩; have HB2 := Lib.hid (below_then HB1.out hb); have HU2 := Lib.hid (NodesS.below HU1.out hb); have HN2 := Lib.hid (NodesS.below HN1.out hb); clear hb))
    | (go_at_call 10; go_must (refine (fits1_off _ l HM.out HML.out _ HN.out).mono ?_; rw [HF.out]; rintro e w1 ⟨rfl, hb⟩; have HB1 := Lib.hid hb; have HU1 := Lib.hid (NodesS.below HU.out hb); have HN1 := Lib.hid (NodesS.below HN.out hb); clear hb)))
      go_ret
      exact RetBW.mk' rfl HB2.out
    · have HFU := Lib.hid hf
      have HLU := Lib.hid (fits_parts hf)
      clear hf
      go_enter Tryz.func9, Tryz.ntmps9
      go_upto_region 3 with (first
    | (go_at_call 10; have hx := HU1.out; clear hx; go_must (refine (fits1_off _ u HMU.out HMLU.out _ HU1.out).mono ?_; rw [HFU.out]; rintro e w2 ⟨rfl, hb⟩; have HB2 := Lib.hid (below_then HB1.out hb); have HU2 := Lib.hid (NodesS.below HU1.out hb); have HN2 := Lib.hid (NodesS.below HN1.out hb); clear hb))
    | (go_at_call 10; go_must (refine (fits1_off _ l HM.out HML.out _ HN.out).mono ?_; rw [HF.out]; rintro e w1 ⟨rfl, hb⟩; have HB1 := Lib.hid hb; have HU1 := Lib.hid (NodesS.below HU.out hb); have HN1 := Lib.hid (NodesS.below HN.out hb); clear hb)))
      go_upto_region 4 with (go_at_call 11; go_must (refine (tree_off false asc _ l HLT.out.1 HLT.out.2 (fun hl hok v w h => set_must asc v l hl (fun n hn => ⟨(treeOk_in hok).good.node n hn, (treeOk_in hok).good.low n hn⟩) w h) _ HN2.out).mono ?_; rintro e w3 ⟨hb2, ⟨hok, v2, rfl, ho2⟩ | ⟨hok, rfl⟩⟩ <;> (have HB3 := Lib.hid (below_then HB2.out hb2); have HOK3 := Lib.hid hok; clear hok; (try (have HO3 := Lib.hid ho2; obtain ⟨A3, c3, hv2⟩ := own_slice ho2; subst hv2; clear ho2)); (try have HU3 := Lib.hid (NodesS.below HU2.out hb2)); (try have HBD := Lib.hid hb2); clear hb2)))
      all_goals go_upto_region 5 with (go_at_call 11; have hx := HU3.out; clear hx; go_must (refine (tree_off false asc _ u HLU.out.1 HLU.out.2 (fun hl hok v w h => set_must asc v u hl (fun n hn => ⟨(treeOk_in hok).good.node n hn, (treeOk_in hok).good.low n hn⟩) w h) _ HU3.out).mono ?_; rintro e w4 ⟨hb2, ⟨hok, v2, rfl, ho2⟩ | ⟨hok, rfl⟩⟩ <;> (have HB4 := Lib.hid (below_then HB3.out hb2); have HOK4 := Lib.hid hok; clear hok; (try (have HO4 := Lib.hid ho2; obtain ⟨A4, c4, hv2⟩ := own_slice ho2; subst hv2; clear ho2)); (try have HU3 := Lib.hid (NodesS.below HU2.out hb2)); (try have HBD := Lib.hid hb2); clear hb2)))
      rotate_left
      · go_wp2_with (go_at_call 13; go_must (refine (HWK.out _ HB4.out).mono ?_; rintro e w9 ⟨hr9, hb9⟩; have hr9' := hr9; subst hr9'; have HB9 := Lib.hid (below_then HB4.out hb9); clear hb9 hr9))
        go_ret
        exact RetBW.mk' rfl HB9.out
      · go_wp2_with (go_at_call 13; go_must (refine (HWK.out _ HB4.out).mono ?_; rintro e w9 ⟨hr9, hb9⟩; have hr9' := hr9; subst hr9'; have HB9 := Lib.hid (below_then HB4.out hb9); clear hb9 hr9))
        go_ret
        exact RetBW.mk' rfl HB9.out
      · go_wp2_with (go_at_call 13; go_must (refine (HWK.out _ HB4.out).mono ?_; rintro e w9 ⟨hr9, hb9⟩; have hr9' := hr9; subst hr9'; have HB9 := Lib.hid (below_then HB4.out hb9); clear hb9 hr9))
        go_ret
        exact RetBW.mk' rfl HB9.out
      by_cases z1 : l = []
      · go_wp2_with (go_at_call 13; go_must (refine (HWK.out _ HB4.out).mono ?_; rintro e w9 ⟨hr9, hb9⟩; have hr9' := hr9; subst hr9'; have HB9 := Lib.hid (below_then HB4.out hb9); clear hb9 hr9))
        go_ret
        exact RetBW.mk' rfl HB9.out
      by_cases z2 : u = []
      · go_wp2_with (go_at_call 13; go_must (refine (HWK.out _ HB4.out).mono ?_; rintro e w9 ⟨hr9, hb9⟩; have hr9' := hr9; subst hr9'; have HB9 := Lib.hid (below_then HB4.out hb9); clear hb9 hr9))
        go_ret
        exact RetBW.mk' rfl HB9.out
      have hs0 := HLT.out.1
      have hs1 := HLU.out.1
      have z4 : IntKind.i64.wrap ((l.length : Int) + (u.length : Int)) = (l.length : Int) + (u.length : Int) := by
        simp [IntKind.wrap, IntKind.bits, IntKind.signed]; omega
      by_cases z3 : (1000 : Int) < (l.length : Int) + (u.length : Int)
      · go_wp2_with (go_at_call 13; go_must (refine (HWK.out _ HB4.out).mono ?_; rintro e w9 ⟨hr9, hb9⟩; have hr9' := hr9; subst hr9'; have HB9 := Lib.hid (below_then HB4.out hb9); clear hb9 hr9))
        go_ret
        exact RetBW.mk' rfl HB9.out
      have y1 : ((l.length : Int) == 0) = false := by simp [z1]
      have y2 : ((u.length : Int) == 0) = false := by simp [z2]
      go_upto_region 7 with fail
      have hn0 : l.length ≠ 0 := fun h => z1 (List.eq_nil_of_length_eq_zero h)
      have hn0' : u.length ≠ 0 := fun h => z2 (List.eq_nil_of_length_eq_zero h)
      obtain ⟨q3, e3, hq3, _, hr3⟩ := NRow.of (own_keep HO3.out (fun q hq => HBD.out.block q (own_lt HO3.out hq).1)) (setR_len false l) hn0
      subst e3
      have hq3' : q3 < w3.heap.size := (own_lt HO3.out rfl).1
      obtain ⟨q4, e4, hq4, _, hr4⟩ := NRow.of HO4.out (setR_len false u) hn0'
      subst e4
      have HNE : Hid (q4 ≠ q3) := by show _ ≠ _; omega
      have HR3 := Lib.hid hr3
      have HR4 := Lib.hid hr4
      have HIA := Lib.hid (treeOk_in HOK3.out)
      have HIB := Lib.hid (treeOk_in HOK4.out)
      have HAL := Lib.hid z1
      have HSUM : Hid (l.length + u.length ≤ 1000) := by show _ ≤ _; omega
      have hlu : (l.length : Int) ≤ 1000 := by omega
      have huu : (u.length : Int) ≤ 1000 := by omega
      have hu1 : (0 : Int) < (u.length : Int) := by omega
      obtain ⟨m, hm⟩ : ∃ m : Nat, l.length = m + 1 := ⟨l.length - 1, by omega⟩
      have hm1 : (l.length : Int) - 1 = (m : Int) := by omega
      have HM1 := Lib.hid hm
      clear y1 y2 z1 z2 z3 z4 hs0 hs1 hq3 hq3' hq4 hr3 hr4 hn0 hn0' hm HO3 HO4 HBD
      go_wp2_with fail
      go_loopg [11] m (fun k p11 wr => ∃ j : Nat, p11 = .int .i64 j ∧ j = k ∧ j ≤ m ∧ w4 = wr ∧ Hid (∀ i r, j < i → (setR false l)[i]? = some r → 0 < r.depth))
      case atStart =>
        refine ⟨m, rfl, rfl, Nat.le_refl _, rfl, fun i r hi hr => ?_⟩
        have h1 := (List.getElem?_eq_some_iff.1 hr).1
        rw [setR_len] at h1
        have := HM1.out
        omega
      case round =>
        obtain ⟨j, rfl, hjk, hjm, hw, HJ⟩ := hrel
        subst hjk
        subst hw
        have hjl : j < (setR false l).length := by rw [setR_len]; have := HM1.out; omega
        obtain ⟨n, hn⟩ : ∃ n, (setR false l)[j]? = some n := ⟨(setR false l)[j], List.getElem?_eq_getElem hjl⟩
        have hj0 : (0 : Int) ≤ (j : Int) := by omega
        have hj1 : (j : Int) < (l.length : Int) := by have := HM1.out; omega
        have hj2 : (j : Int) ≤ 1000 := by omega
        have hc := HR3.out.node hn
        have HN9 := Lib.hid hn
        have hc0 := hc.c0
        have hc1 := hc.c1
        have hc2 := hc.c2
        have hc3 := hc.c3
        have hc4 := hc.c4
        have hc5 := hc.c5
        by_cases hd : (0 : Int) < n.depth
        · obtain ⟨i, hi⟩ : ∃ i, j = i + 1 := by
            cases j with
            | zero => exact absurd (tree_first (HIA.out.good.set false) hn) (by omega)
            | succ i => exact ⟨i, rfl⟩
          have hji : (j : Int) - 1 = (i : Int) := by omega
          have HI := Lib.hid hi
          have HD := Lib.hid hd
          clear hc hn hjl hi
          go_wp2_with fail
          go_roundg i
          case measure => have := HI.out; omega
          case rel =>
            refine ⟨i, by go_num, rfl, by have := HI.out; omega, rfl, fun i' r hi' hr => ?_⟩
            by_cases he : i' = j
            · subst he
              have h1 := HN9.out
              rw [hr] at h1
              injection h1 with h1
              subst h1
              have := HD.out
              omega
            · exact HJ.out i' r (by have := HI.out; omega) hr
        · have HD : Hid (n.depth ≤ 0) := by show _ ≤ _; omega
          clear hc hn hjl hc0 hc1 hc3 hc4
          go_upto_region 10 with fail
          have hjn := HN9.out
          have hs1 := HR3.out.after false hjn
          have hrb0 := HR4.out.keep (hs1.2.2 q4 HNE.out)
          obtain ⟨n0, hn0⟩ : ∃ n0, (setR false u)[0]? = some n0 := ⟨(setR false u)[0]'(by rw [setR_len]; omega), List.getElem?_eq_getElem _⟩
          have hs2 := hrb0.before false hn0
          have hb4 : (w4.setCell ⟨q3, j * 6 + 5, none⟩ (.bool false)).cell? ⟨q4, 4, none⟩ = some (.bool n0.before) := (hrb0.node hn0).c4
          have hg4 : w4.cell? ⟨q4, 4, none⟩ = some (.bool n0.before) := (HR4.out.node hn0).c4
          have hf5 : w4.frozen? ⟨q3, j * 6 + 5, none⟩ = false := HR3.out.own.frozenAt _
          have hf4 : w4.frozen? ⟨q4, 4, none⟩ = false := HR4.out.own.frozenAt _
          have HS := Lib.hid (pieces_rows HR3.out HR4.out HNE.out hjn HD.out (fun i r hi hr => by have := HJ.out i r hi hr; omega) hn0)
          have HJN := Lib.hid hjn
          clear hs1 hs2 hrb0 hjn
          go_upto_region 11 with fail
          clear hb4 hg4 hf5 hf4 hc2 hc5 hd hn0
          generalize (w4.setCell ⟨q3, j * 6 + 5, none⟩ (.bool false)).setCell ⟨q4, 4, none⟩ (.bool false) = w6 at HS ⊢
          have HRA := Lib.hid HS.out.1
          have HRB := Lib.hid HS.out.2.1
          have HB6 := Lib.hid (HB4.out.trans (HS.out.2.2 w0.heap.size HB2.out.size HB3.out.size))
          clear HS
          obtain ⟨N, hN⟩ : ∃ N : Nat, l.length + u.length = N := ⟨_, rfl⟩
          have hjN : (j : Int) < (N : Int) := by omega
          have hN2 : (N : Int) ≤ 1000 := by have := HSUM.out; omega
          have HNN := Lib.hid hN
          clear hN
          go_upto_region 12 with (at_builtin; go_must (first
            | (have hx := HO7.out; clear hx; refine wpList_appN rfl _ _ 22 45 rfl Tryz.underlying22 info45 rfl (by decide) HO7.out HB67.out.size (some ⟨q4, 0, none⟩) u.length c4 (nRow (noBefore (setR false u))) (by rw [nRow_len, noBefore_len, setR_len]) (own_none HRB7.out.own) (own_cells HRB7.out.own) (nRow_one _) (by have := HSUM.out; omega) (by have := HSUM.out; unfold maxLen; omega) rfl rfl ?_; intro v8 w8 ho8 _ hb8; rw [HNN.out, ← nRow_append] at ho8; obtain ⟨A8, c8, rfl⟩ := own_slice ho8; have HO8 := Lib.hid ho8; have HB68 := Lib.hid (HB67.out.trans hb8); clear ho8 hb8)
            | (refine wpList_appN rfl _ _ 22 45 rfl Tryz.underlying22 info45 rfl (by decide) (World.ownsRow_nil w6 w6.heap.size 45 6) (Nat.le_refl _) (some ⟨q3, 0, none⟩) l.length c3 (nRow (endSetR false (setR false l))) (by rw [nRow_len, endSetR_len, setR_len]) (own_none HRA.out.own) (own_cells HRA.out.own) (nRow_one _) (by have := HSUM.out; omega) (by have := HSUM.out; unfold maxLen; omega) rfl rfl ?_; intro v7 w7 ho7 _ hb7; rw [Nat.zero_add, List.nil_append] at ho7; have HO7 := Lib.hid ho7; have HB67 := Lib.hid hb7; have HRB7 := Lib.hid (HRB.out.below hb7); clear ho7 hb7)))
          obtain ⟨q8, e8, hq8, _, hr8⟩ := NRow.of HO8.out (by rw [List.length_append, endSetR_len, setR_len, noBefore_len, setR_len]; exact HNN.out) (by have := HNN.out; have := HM1.out; omega)
          subst e8
          have HP := Lib.hid (pieces_last hr8 HJN.out HD.out (fun i r hi hr => by have := HJ.out i r hi hr; omega))
          have hc9 := HP.out.1
          have hf9 : w8.frozen? ⟨q8, j * 6 + 5, none⟩ = false := hr8.own.frozenAt _
          have HN3 : Hid (q3 ≠ q8) := by show _ ≠ _; have := HRA.out.lt.1; omega
          have HN4 : Hid (q4 ≠ q8) := by show _ ≠ _; have := HRB.out.lt.1; omega
          have HRA8 := Lib.hid (HRA.out.below HB68.out)
          have HRB8 := Lib.hid (HRB.out.below HB68.out)
          clear hr8 hq8 HO8 HRA HRB
          go_upto_region 13 with fail
          generalize w8.setCell ⟨q8, j * 6 + 5, none⟩ (.bool true) = w9 at HP ⊢
          have HNA := Lib.hid (HRA8.out.keep (HP.out.2.2.2 q3 HN3.out)).toS
          have HNB := Lib.hid (HRB8.out.keep (HP.out.2.2.2 q4 HN4.out)).toS
          have HNC := Lib.hid HP.out.2.1.toS
          have HB9 := Lib.hid (HB6.out.trans ((HB68.out.trans HP.out.2.2.1).mono HB6.out.size))
          clear HP hc9 hf9 HRA8 HRB8
          have HLA : Hid ((endSetR false (setR false l)).length ≤ 1000) := by show _ ≤ _; rw [endSetR_len, setR_len]; have := HSUM.out; omega
          have HLB : Hid ((noBefore (setR false u)).length ≤ 1000) := by show _ ≤ _; rw [noBefore_len, setR_len]; have := HSUM.out; omega
          have HLC : Hid ((endSetR true (endSetR false (setR false l)) ++ noBefore (setR false u)).length ≤ 1000) := by show _ ≤ _; rw [List.length_append, endSetR_len, endSetR_len, setR_len, noBefore_len, setR_len]; exact HSUM.out
          have HKA := Lib.hid (nodeK_of ((HIA.out.set false).end false))
          have HKB := Lib.hid (nodeK_of (HIB.out.set false).noBefore)
          have HKC : Hid (∀ n ∈ endSetR true (endSetR false (setR false l)) ++ noBefore (setR false u), NodeK n) := fun n hn => (List.mem_append.1 hn).elim (nodeK_of (((HIA.out.set false).end false).end true) n) (HKB.out n)
          have HOA := Lib.hid (okl_one HIA.out)
          have HOB := Lib.hid (okl_two HIB.out)
          have HOC := Lib.hid (okl_both HIA.out HIB.out HSUM.out)
          clear HN1 HN2 HU1 HU2 HU3 HN HU HB1 HB2 HB3 HB4 HB6 HB67 HB68 HRB7 HO7 HR3 HR4 hjN hN2 hm1 hj0 hj1 hj2 hjm hlu huu hu1
          go_upto_region 14 with (first
            | (go_at_call 23; have hx := HV2.out; clear hx; go_must (refine (value_any (F := F) (W0 := W0) mini asc _ _ HLC.out HKC.out HOC.out _ (HE.out.below HB11.out) HNC11.out).mono ?_; rintro e w12 ⟨z, rfl, hz, hb⟩; have HV3 := Lib.hid hz; have HB12 := Lib.hid (below_then HB11.out hb); clear hz hb))
            | (go_at_call 23; have hx := HV1.out; clear hx; go_must (refine (value_any (F := F) (W0 := W0) mini asc _ _ HLB.out HKB.out HOB.out _ (HE.out.below HB10.out) HNB10.out).mono ?_; rintro e w11 ⟨y, rfl, hy, hb⟩; have HV2 := Lib.hid hy; have HB11 := Lib.hid (below_then HB10.out hb); have HNC11 := Lib.hid (HNC10.out.below hb); clear hy hb))
            | (go_at_call 23; go_must (refine (value_any (F := F) (W0 := W0) mini asc _ _ HLA.out HKA.out HOA.out _ (HE.out.below HB9.out) HNA.out).mono ?_; rintro e w10 ⟨x, rfl, hx, hb⟩; have HV1 := Lib.hid hx; have HB10 := Lib.hid (below_then HB9.out hb); have HNB10 := Lib.hid (HNB.out.below hb); have HNC10 := Lib.hid (HNC.out.below hb); clear hx hb)))
          have hx1 := valT_size HV1.out HOA.out
          have hy1 := valT_size HV2.out HOB.out
          have hz1 := valT_size HV3.out HOC.out
          have HX1 := Lib.hid hx1
          have HY1 := Lib.hid hy1
          have HZ1 := Lib.hid hz1
          go_wp2_with (first
            | (go_at_call 20; go_must (refine (pieces_call HIA.out.good HIB.out.good HAL.out HV1.out HV2.out HV3.out (k_txt1 z) (k_txt2 x y) (k_size1 HZ1.out) (k_size2 HX1.out HY1.out) _).mono ?_; rintro e w13 ⟨hr13, hb13⟩; have hr13' := hr13; subst hr13'; have HB13 := Lib.hid (below_then HB12.out hb13); clear hb13 hr13))
            | (go_at_call 13; go_must (refine (HWK.out _ HB13.out).mono ?_; rintro e w14 ⟨hr14, hb14⟩; have hr14' := hr14; subst hr14'; have HB14 := Lib.hid (below_then HB13.out hb14); clear hb14 hr14)))
          go_ret
          exact RetBW.mk' rfl HB14.out
end Go.Proofs.YtkfdcbdlcipmfaaGreatFmt
