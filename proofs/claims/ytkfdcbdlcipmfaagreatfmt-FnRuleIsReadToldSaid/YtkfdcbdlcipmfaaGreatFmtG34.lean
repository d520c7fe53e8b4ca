/- Walks: Declaration. -/
import Derived.Test.YtkfdcbdlcipmfaaGreatFmtG32
import Derived.Test.YtkfdcbdlcipmfaaGreatFmtG33
import Derived.Test.YtkfdcbdlcipmfaaGreatFmtG06
import Derived.BigQuiet
import Derived.Test.YtkfdcbdlcipmfaaGreatFmtG07
import Derived.Test.YtkfdcbdlcipmfaaGreatFmtG30
import Derived.Deep.RegionHeld3
import Derived.Test.YtkfdcbdlcipmfaaGreatFmtG31
import Derived.StillTailTactics
set_option linter.unusedVariables false
set_option linter.unusedSimpArgs false
namespace Go.Proofs.YtkfdcbdlcipmfaaGreatFmt
open Go.RowKit Css
variable {F : Go.Stop.Interp} {W0 w w' : World}
/-- A text is a declaration as it is printed. -/
def DeclT (asc mini : Bool) (cs : List Int) (l : List RN) (imp : Bool) (s : ByteArray) : Prop :=
  ∃ (ts : List T) (cl : List Ch) (sp : Bool), Parse 0 (l.map RN.cp) ts [] ∧ Prints asc ts (headBefore ts) cl ∧ (enc (flat cl)).length ≤ cost ts + 1 ∧ (imp = false → sp = false) ∧ s.data.toList = enc (flat (declCh asc cs cl sp imp true (wsIf (!mini) [10])))
theorem decl_out (asc mini : Bool) (cs : List Int) (cl : List Ch) (sp imp : Bool) : ([] : List UInt8) ++ (if mini then [] else List.replicate (2 * 0) 32) ++ enc (flat (declCh asc cs cl sp imp (!false) [])) ++ (if mini then [] else [10]) = enc (flat (declCh asc cs cl sp imp true (wsIf (!mini) [10]))) := by
  rw [decl_bytes, decl_bytes]
  cases mini <;> simp [flat_wsT, flat_wsF, enc] <;> rfl
set_option maxHeartbeats 8000000 in
set_option maxRecDepth 100000 in
theorem Declaration_any (imp mini asc : Bool) (nm : ByteArray) (cs : List Int) (h : nm.data.toList = enc cs) (hv : AllV cs) (hlow : asc = true → ∀ c ∈ cs, c < 1048576) (hss : nm.size ≤ 2147483647) (l : List RN) (v : Value) (hl : l.length ≤ 1000) (hk : ∀ n ∈ l, NodeK n)
    (hok : ∀ ts, Parse 0 (l.map RN.cp) ts [] → OKl asc ts ∧ cost ts ≤ 134217728) (w : World) (hE : Env F W0 w) (hn : NodesS v l w) : Calls Tryz.prog 22 #[.string nm, v, .bool imp, .bool mini, .bool asc] w (fun e w' => ∃ s, e = .returned (.string s) ∧ DeclT asc mini cs l imp s ∧ Below w.heap.size w w') := by
  have HC := Lib.hid (tokens_rec (l.length + 1) l 0 v w (by omega) hl (by omega) (by omega) hk hn)
  have HP : Hid (∀ k ts, Parse 0 (l.map RN.cp) ts ((l.drop k).map RN.cp) → Parse 0 (l.map RN.cp) ts []) := fun k ts => parse_all fun n hn => (hk n hn).depth.1
  have HE := Lib.hid hE
  have HH := Lib.hid h
  have HV := Lib.hid hv
  have HLOW := Lib.hid hlow
  have HSS := Lib.hid hss
  have HOK := Lib.hid hok
  have HCS : Hid (cs.length ≤ 2147483647) := by
    have h1 := len_le_enc cs
    rw [← h] at h1
    have e : nm.data.toList.length = nm.size := rfl
    show _ ≤ _; omega
  clear hk hE h hv hlow hss hok hl hn
  go_enter Tryz.func22, Tryz.ntmps22
  go_wp2_with (first
    | (go_at_call 33; go_must (refine HC.out.mono ?_; rintro e w1 ⟨ts, k, v', hk', rfl, hp, htk, hb1⟩; have HPA := Lib.hid (HP.out k ts hp); obtain ⟨A', c', hv', htk2⟩ := htk; subst hv'; have htk : TksAt w1 (fun b => w.heap.size ≤ b ∧ b < w1.heap.size) (.slice A' ts.length c') ts := ⟨A', c', rfl, htk2⟩; have HTK := Lib.hid htk; have HB1 := Lib.hid hb1; clear hk' hp htk htk2 hb1))
    | (go_at_call 34; go_must (refine (printed_any mini asc w1.heap.size 69 _ ((HE.out.below HB1.out).below (box_below _ _)).rebase (fun out => ∃ cl sp, Prints asc ts (headBefore ts) cl ∧ (enc (flat cl)).length ≤ cost ts + 1 ∧ (imp = false → sp = false) ∧ out = enc (flat (declCh asc cs cl sp imp true (wsIf (!mini) [10])))) ?hx ?hr).mono ?_; (case hx => rintro out ⟨cl, sp, _, _, _, rfl⟩; rw [decl_bytes]; simp); (case hr =>
        intro Wp hbp g W' hlow2 hE2 hst2
        have hbw : Below w1.heap.size w1 Wp := below_then (box_below _ w1) hbp
        have hsame : ∀ b, b < w1.heap.size → W'.heap[b]? = w1.heap[b]? := fun b hb => (hlow2 b (Nat.lt_of_lt_of_le hb hbw.size)).trans (hbw.block b hb)
        have h1 := blk_below hbp (heap_alloc_new w1 _)
        have hrb := h1
        rw [← hlow2 _ (Array.getElem?_eq_some_iff.1 h1).1] at hrb
        have hrl : w1.heap.size < Wp.heap.size := by
          have := hbp.size
          simp at this; omega
        obtain ⟨ho1, ho2⟩ := HOK.out ts HPA.out
        refine (printRule_decl (F := F) (W0 := Wp) g w1.heap.size mini asc cs HV.out HLOW.out nm HH.out HSS.out ts (.slice A' ts.length c') imp false 0 (by decide) W' [] ho2 ho1 (HTK.out.keep fun b hb => ⟨Nat.lt_of_lt_of_le hb.2 hbw.size, hsame b hb.2⟩) hE2 hst2 (by have := HCS.out; simp; omega) hrl _ _ hrb rfl rfl rfl).mono ?_
        rintro e' w4 ⟨rfl, cl, sp, c1, c2, c3, c4⟩
        rw [decl_out] at c4
        exact ⟨rfl, _, ⟨cl, sp, c1, c2, c3, rfl⟩, c4⟩); rintro e w3 ⟨s, rfl, ⟨cl, sp, c1, c2, c3, c4⟩, hb3⟩; have HR : Hid (Prints asc ts (headBefore ts) cl ∧ (enc (flat cl)).length ≤ cost ts + 1 ∧ (imp = false → sp = false) ∧ s.data.toList = enc (flat (declCh asc cs cl sp imp true (wsIf (!mini) [10])))) := ⟨c1, c2, c3, c4⟩; have HB3 := Lib.hid hb3; clear c1 c2 c3 c4 hb3)))
  go_ret
  exact ⟨s, rfl, ⟨ts, cl, sp, HPA.out, HR.out.1, HR.out.2.1, HR.out.2.2.1, HR.out.2.2.2⟩, below_then (below_then HB1.out (box_below _ _)) HB3.out⟩
end Go.Proofs.YtkfdcbdlcipmfaaGreatFmt
/- Walks: the statements: whether a token that was read is an item. Printed by genL5.py. -/
namespace Go.Proofs.YtkfdcbdlcipmfaaGreatFmt
open Go.RowKit Css
abbrev rdV (k : Int) (st en u : Nat) (id : Bool) (t : ByteArray) (sp : Bool) : Value := .agg #[.int .i64 k, .int .i64 st, .int .i64 en, .int .i64 u, .bool id, .string t, .bool sp]
abbrev iV (k u : Int) (t : ByteArray) (sp : Int) : Value := .agg #[.int .i64 k, .int .i64 u, .string t, .int .i64 sp]
theorem is_below (a b : Obj) (w : World) : Hid (Below w.heap.size w ((w.alloc a).alloc b)) :=
  ((Below.refl _ _).alloc (Nat.le_refl _) _).alloc (by show _ ≤ (w.heap.push _).size; rw [Array.size_push]; omega) _

set_option maxHeartbeats 1600000 in
set_option maxRecDepth 100000 in
theorem is_k29 (s t : ByteArray) (st en u : Nat) (hse : st ≤ en) (hes : en ≤ s.size) (hs : s.size ≤ 2147483647) (id sp : Bool) (xu xs : Int) (w : World) :
    Calls Tryz.prog 32 #[.string s, rdV 29 st en u id t sp, iV 29 xu t xs] w (RetBW true w) := by
  have HB := is_below (.cells #[.int .i64 29, .int .i64 st, .int .i64 en, .int .i64 u, .bool id, .string t, .bool sp] 64) (.cells #[.int .i64 29, .int .i64 xu, .string t, .int .i64 xs] 34) w
  have h1 : (st : Int) ≤ (en : Int) := by omega
  have h2 : (en : Int) ≤ (s.size : Int) := by omega
  have h0 : (0 : Int) ≤ (st : Int) := by omega
  have h3 : (s.size : Int) ≤ 2147483647 := by omega
  clear hse hes hs
  go_enter Tryz.func32, Tryz.ntmps32
  go_wp2_with fail
  go_ret
  exact RetBW.mk' rfl HB.out

set_option maxHeartbeats 1600000 in
set_option maxRecDepth 100000 in
theorem is_k27 (s t : ByteArray) (st en u : Nat) (hse : st ≤ en) (hes : en ≤ s.size) (hs : s.size ≤ 2147483647) (id sp : Bool) (xu xs : Int) (w : World) :
    Calls Tryz.prog 32 #[.string s, rdV 27 st en u id t sp, iV 27 xu t xs] w (RetBW true w) := by
  have HB := is_below (.cells #[.int .i64 27, .int .i64 st, .int .i64 en, .int .i64 u, .bool id, .string t, .bool sp] 64) (.cells #[.int .i64 27, .int .i64 xu, .string t, .int .i64 xs] 34) w
  have h1 : (st : Int) ≤ (en : Int) := by omega
  have h2 : (en : Int) ≤ (s.size : Int) := by omega
  have h0 : (0 : Int) ≤ (st : Int) := by omega
  have h3 : (s.size : Int) ≤ 2147483647 := by omega
  clear hse hes hs
  go_enter Tryz.func32, Tryz.ntmps32
  go_wp2_with fail
  go_ret
  exact RetBW.mk' rfl HB.out

set_option maxHeartbeats 1600000 in
set_option maxRecDepth 100000 in
theorem is_k1 (s t : ByteArray) (st en u : Nat) (hse : st ≤ en) (hes : en ≤ s.size) (hs : s.size ≤ 2147483647) (id sp : Bool) (xu xs : Int) (w : World) :
    Calls Tryz.prog 32 #[.string s, rdV 1 st en u id t sp, iV 1 xu t xs] w (RetBW true w) := by
  have HB := is_below (.cells #[.int .i64 1, .int .i64 st, .int .i64 en, .int .i64 u, .bool id, .string t, .bool sp] 64) (.cells #[.int .i64 1, .int .i64 xu, .string t, .int .i64 xs] 34) w
  have h1 : (st : Int) ≤ (en : Int) := by omega
  have h2 : (en : Int) ≤ (s.size : Int) := by omega
  have h0 : (0 : Int) ≤ (st : Int) := by omega
  have h3 : (s.size : Int) ≤ 2147483647 := by omega
  clear hse hes hs
  go_enter Tryz.func32, Tryz.ntmps32
  go_wp2_with fail
  go_ret
  exact RetBW.mk' rfl HB.out

set_option maxHeartbeats 1600000 in
set_option maxRecDepth 100000 in
theorem is_k28 (s t : ByteArray) (st en u : Nat) (hse : st ≤ en) (hes : en ≤ s.size) (hs : s.size ≤ 2147483647) (id sp : Bool) (xu xs : Int) (w : World) :
    Calls Tryz.prog 32 #[.string s, rdV 28 st en u id t sp, iV 28 xu t xs] w (RetBW true w) := by
  have HB := is_below (.cells #[.int .i64 28, .int .i64 st, .int .i64 en, .int .i64 u, .bool id, .string t, .bool sp] 64) (.cells #[.int .i64 28, .int .i64 xu, .string t, .int .i64 xs] 34) w
  have h1 : (st : Int) ≤ (en : Int) := by omega
  have h2 : (en : Int) ≤ (s.size : Int) := by omega
  have h0 : (0 : Int) ≤ (st : Int) := by omega
  have h3 : (s.size : Int) ≤ 2147483647 := by omega
  clear hse hes hs
  go_enter Tryz.func32, Tryz.ntmps32
  go_wp2_with fail
  go_ret
  exact RetBW.mk' rfl HB.out

set_option maxHeartbeats 1600000 in
set_option maxRecDepth 100000 in
theorem is_k36 (s t : ByteArray) (st en u : Nat) (hse : st ≤ en) (hes : en ≤ s.size) (hs : s.size ≤ 2147483647) (id sp : Bool) (xu xs : Int) (w : World) :
    Calls Tryz.prog 32 #[.string s, rdV 36 st en u id t sp, iV 36 xu t xs] w (RetBW true w) := by
  have HB := is_below (.cells #[.int .i64 36, .int .i64 st, .int .i64 en, .int .i64 u, .bool id, .string t, .bool sp] 64) (.cells #[.int .i64 36, .int .i64 xu, .string t, .int .i64 xs] 34) w
  have h1 : (st : Int) ≤ (en : Int) := by omega
  have h2 : (en : Int) ≤ (s.size : Int) := by omega
  have h0 : (0 : Int) ≤ (st : Int) := by omega
  have h3 : (s.size : Int) ≤ 2147483647 := by omega
  clear hse hes hs
  go_enter Tryz.func32, Tryz.ntmps32
  go_wp2_with fail
  go_ret
  exact RetBW.mk' rfl HB.out

set_option maxHeartbeats 1600000 in
set_option maxRecDepth 100000 in
theorem is_k8 (s t t2 : ByteArray) (st en u : Nat) (hse : st ≤ en) (hes : en ≤ s.size) (hs : s.size ≤ 2147483647) (id sp : Bool) (xu xs : Int) (w : World) :
    Calls Tryz.prog 32 #[.string s, rdV 8 st en u id t sp, iV 8 xu t2 xs] w (RetBW true w) := by
  have HB := is_below (.cells #[.int .i64 8, .int .i64 st, .int .i64 en, .int .i64 u, .bool id, .string t, .bool sp] 64) (.cells #[.int .i64 8, .int .i64 xu, .string t2, .int .i64 xs] 34) w
  have h1 : (st : Int) ≤ (en : Int) := by omega
  have h2 : (en : Int) ≤ (s.size : Int) := by omega
  have h0 : (0 : Int) ≤ (st : Int) := by omega
  have h3 : (s.size : Int) ≤ 2147483647 := by omega
  clear hse hes hs
  go_enter Tryz.func32, Tryz.ntmps32
  go_wp2_with fail
  go_ret
  exact RetBW.mk' rfl HB.out

set_option maxHeartbeats 1600000 in
set_option maxRecDepth 100000 in
theorem is_k7 (s t t2 : ByteArray) (st en u : Nat) (hse : st ≤ en) (hes : en ≤ s.size) (hs : s.size ≤ 2147483647) (id sp : Bool) (xu xs : Int) (w : World) :
    Calls Tryz.prog 32 #[.string s, rdV 7 st en u id t sp, iV 7 xu t2 xs] w (RetBW true w) := by
  have HB := is_below (.cells #[.int .i64 7, .int .i64 st, .int .i64 en, .int .i64 u, .bool id, .string t, .bool sp] 64) (.cells #[.int .i64 7, .int .i64 xu, .string t2, .int .i64 xs] 34) w
  have h1 : (st : Int) ≤ (en : Int) := by omega
  have h2 : (en : Int) ≤ (s.size : Int) := by omega
  have h0 : (0 : Int) ≤ (st : Int) := by omega
  have h3 : (s.size : Int) ≤ 2147483647 := by omega
  clear hse hes hs
  go_enter Tryz.func32, Tryz.ntmps32
  go_wp2_with fail
  go_ret
  exact RetBW.mk' rfl HB.out

set_option maxHeartbeats 1600000 in
set_option maxRecDepth 100000 in
theorem is_k6 (s t t2 : ByteArray) (st en u : Nat) (hse : st ≤ en) (hes : en ≤ s.size) (hs : s.size ≤ 2147483647) (id sp : Bool) (xu xs : Int) (w : World) :
    Calls Tryz.prog 32 #[.string s, rdV 6 st en u id t sp, iV 6 xu t2 xs] w (RetBW true w) := by
  have HB := is_below (.cells #[.int .i64 6, .int .i64 st, .int .i64 en, .int .i64 u, .bool id, .string t, .bool sp] 64) (.cells #[.int .i64 6, .int .i64 xu, .string t2, .int .i64 xs] 34) w
  have h1 : (st : Int) ≤ (en : Int) := by omega
  have h2 : (en : Int) ≤ (s.size : Int) := by omega
  have h0 : (0 : Int) ≤ (st : Int) := by omega
  have h3 : (s.size : Int) ≤ 2147483647 := by omega
  clear hse hes hs
  go_enter Tryz.func32, Tryz.ntmps32
  go_wp2_with fail
  go_ret
  exact RetBW.mk' rfl HB.out

set_option maxHeartbeats 1600000 in
set_option maxRecDepth 100000 in
theorem is_rest (k : Int) (hk : ¬ nameLikeK k) (hk2 : k ≠ 26) (hk3 : ¬ isClose k) (s t t2 : ByteArray) (st en u : Nat) (hse : st ≤ en) (hes : en ≤ s.size) (hs : s.size ≤ 2147483647) (hraw : s.extract st en = t2) (id sp : Bool) (xu xs : Int) (w : World) :
    Calls Tryz.prog 32 #[.string s, rdV k st en u id t sp, iV k xu t2 xs] w (RetBW true w) := by
  have HB := is_below (.cells #[.int .i64 k, .int .i64 st, .int .i64 en, .int .i64 u, .bool id, .string t, .bool sp] 64) (.cells #[.int .i64 k, .int .i64 xu, .string t2, .int .i64 xs] 34) w
  have h1 : (st : Int) ≤ (en : Int) := by omega
  have h2 : (en : Int) ≤ (s.size : Int) := by omega
  have h0 : (0 : Int) ≤ (st : Int) := by omega
  have h3 : (s.size : Int) ≤ 2147483647 := by omega
  unfold nameLikeK at hk
  unfold isClose at hk3
  have q0 : (k == 29) = false := by simp; omega
  have q1 : (k == 27) = false := by simp; omega
  have q2 : (k == 1) = false := by simp; omega
  have q3 : (k == 28) = false := by simp; omega
  have q4 : (k == 36) = false := by simp; omega
  have q5 : (k == 26) = false := by simp; omega
  have q6 : (k == 8) = false := by simp; omega
  have q7 : (k == 7) = false := by simp; omega
  have q8 : (k == 6) = false := by simp; omega
  have HR := Lib.hid hraw
  clear hse hes hs hk hk2 hk3 hraw
  go_enter Tryz.func32, Tryz.ntmps32
  go_wp2_with fail
  go_ret
  exact RetBW.mk' (by rw [HR.out]; simp) HB.out
end Go.Proofs.YtkfdcbdlcipmfaaGreatFmt
/- Walks: the statements: whether a token that was read is a dimension that is an item. -/
namespace Go.Proofs.YtkfdcbdlcipmfaaGreatFmt
open Go.RowKit Css
set_option maxHeartbeats 1600000 in
set_option maxRecDepth 100000 in
theorem is_k26 (s t t2 r p d : ByteArray) (st en u : Nat) (hse : st ≤ en) (hes : en ≤ s.size) (hs : s.size ≤ 2147483647) (hr : s.extract st en = r) (hu1 : u ≤ r.size) (hu2 : u ≤ t2.size) (hrs : r.size ≤ 2147483647) (hts : t2.size ≤ 2147483647)
    (hp1 : r.extract 0 u = p) (hp2 : t2.extract 0 u = p) (hd1 : bsOf (enc (name (dec (r.extract u r.size).data.toList)).1) = d) (hd2 : t2.extract u t2.size = d) (id sp : Bool) (xs : Int) (w : World) :
    Calls Tryz.prog 32 #[.string s, rdV 26 st en u id t sp, iV 26 u t2 xs] w (RetBW true w) := by
  have HB := is_below (.cells #[.int .i64 26, .int .i64 st, .int .i64 en, .int .i64 u, .bool id, .string t, .bool sp] 64) (.cells #[.int .i64 26, .int .i64 u, .string t2, .int .i64 xs] 34) w
  have h1 : (st : Int) ≤ (en : Int) := by omega
  have h2 : (en : Int) ≤ (s.size : Int) := by omega
  have h0 : (0 : Int) ≤ (st : Int) := by omega
  have h3 : (s.size : Int) ≤ 2147483647 := by omega
  have h4 : (0 : Int) ≤ (u : Int) := by omega
  have h5 : (u : Int) ≤ (r.size : Int) := by omega
  have h6 : (u : Int) ≤ (t2.size : Int) := by omega
  have h7 : (r.size : Int) ≤ 2147483647 := by omega
  have h8 : (t2.size : Int) ≤ 2147483647 := by omega
  have HD := Lib.hid hd1
  have HX : Hid (((r.extract u r.size).size : Int) ≤ 140737488355328) := by
    show _ ≤ _
    rw [ByteArray.size_extract]; omega
  clear hse hes hs hu1 hu2 hrs hts hd1
  go_enter Tryz.func32, Tryz.ntmps32
  go_wp2_with fail
  go_region_held3 (fun w' => w'.cell? ⟨w.heap.size, 3, none⟩ = some (.int .i64 u) ∧ w'.cell? ⟨w.heap.size + 1, 1, none⟩ = some (.int .i64 u) ∧ w'.cell? ⟨w.heap.size + 1, 2, none⟩ = some (.string t2))
    (first
      | go_keep
      | (go_split_ands
         refine ⟨kc _ _ _ ?_, kc _ _ _ ?_, kc _ _ _ ?_⟩ <;> assumption))
    (first | (go_at_call 35; refine (decoded_any _ HX.out _).mono ?_; rintro e w1 ⟨rfl, hb1⟩; have kc : ∀ b o x, World.cell? _ ⟨b, o, none⟩ = some x → w1.cell? ⟨b, o, none⟩ = some x := fun b o x hx => below_cell hb1 hx; have HB1 := Lib.hid hb1; rw [HD.out]))
  go_wp2_with fail
  go_ret
  exact RetBW.mk' rfl (below_then HB.out.drew HB1.out)
theorem ba_ext {a b : ByteArray} (h : a.data.toList = b.data.toList) : a = b := by
  cases a; cases b; congr; exact Array.ext' h
theorem ext_list (s : ByteArray) (a b : Nat) : (s.extract a b).data.toList = (s.data.toList.take b).drop a := by
  rw [ByteArray.data_extract, Array.toList_extract]
  simp only [List.extract_eq_take_drop]
  rw [List.drop_take]
/-- A token that was read is an item. -/
theorem is_true (s t : ByteArray) (k : Int) (st en u : Nat) (hse : st ≤ en) (hes : en ≤ s.size) (hs : s.size ≤ 2147483647) (x : RIt) (hx : x.text.length ≤ 2147483647) (H : IsB k u t.data.toList (s.extract st en).data.toList x) (id sp : Bool) (w : World) :
    Calls Tryz.prog 32 #[.string s, rdV k st en u id t sp, iV x.kind x.unit ⟨⟨x.text⟩⟩ x.space] w (RetBW true w) := by
  have hk := H.kind
  subst hk
  by_cases hn : nameLikeK x.kind
  · have ht : (⟨⟨x.text⟩⟩ : ByteArray) = t := ba_ext (H.name hn).symm
    rw [ht]
    unfold nameLikeK at hn
    rcases hn with h | h | h | h | h <;> rw [h]
    · exact is_k29 s t st en u hse hes hs id sp _ _ w
    · exact is_k27 s t st en u hse hes hs id sp _ _ w
    · exact is_k1 s t st en u hse hes hs id sp _ _ w
    · exact is_k28 s t st en u hse hes hs id sp _ _ w
    · exact is_k36 s t st en u hse hes hs id sp _ _ w
  by_cases h26 : x.kind = 26
  · obtain ⟨a1, a2, a3, a4, a5⟩ := H.dim h26
    rw [h26, ← a1]
    have hl : (s.extract st en).data.toList.length = (s.extract st en).size := rfl
    refine is_k26 s t ⟨⟨x.text⟩⟩ (s.extract st en) ((s.extract st en).extract 0 u) (bsOf (enc (name (dec ((s.extract st en).extract u (s.extract st en).size).data.toList)).1)) st en u hse hes hs rfl (by omega) a3 (by rw [ByteArray.size_extract]; omega) hx rfl ?_ rfl ?_ id sp _ w
    · refine ba_ext ?_
      rw [ext_list, ext_list, List.drop_zero, List.drop_zero]
      exact a4.symm
    · refine ba_ext ?_
      rw [ext_list]
      show (x.text.take x.text.length).drop u = enc _
      rw [List.take_length, ← a5]
      have e : ((s.extract st en).extract u (s.extract st en).size).data.toList = (s.extract st en).data.toList.drop u := by
        rw [ext_list (s.extract st en), ← hl, List.take_length]
      rw [e]
  by_cases hc : isClose x.kind
  · unfold isClose at hc
    rcases hc with h | h | h <;> rw [h]
    · exact is_k8 s t _ st en u hse hes hs id sp _ _ w
    · exact is_k7 s t _ st en u hse hes hs id sp _ _ w
    · exact is_k6 s t _ st en u hse hes hs id sp _ _ w
  · exact is_rest x.kind hn h26 hc s t _ st en u hse hes hs (ba_ext (H.rest hn h26 hc)) id sp _ _ w
end Go.Proofs.YtkfdcbdlcipmfaaGreatFmt
/- Walks: the statements: what is read of a text. -/
namespace Go.Proofs.YtkfdcbdlcipmfaaGreatFmt
open Go.RowKit Css
theorem info64 : (Tryz.prog.info? 64).map (fun i => (i.zero, i.size, i.bytes)) = some (some (.agg #[.int .i64 0, .int .i64 0, .int .i64 0, .int .i64 0, .bool false, .string ⟨#[]⟩, .bool false]), 7, 64) := by kernel_rfl
theorem TkRow.len {s : ByteArray} {l : List (Tk × List Int × List Int)} {xs : List Value} (h : TkRow s l xs) : xs.length = l.length * 6 := by
  induction h with
  | nil => rfl
  | snoc l xs x id h ih => rw [List.length_append, List.length_append, ih]; simp [tkCells]; omega
theorem TkRow.get {s : ByteArray} {l : List (Tk × List Int × List Int)} {xs : List Value} (h : TkRow s l xs) {i : Nat} {x : Tk × List Int × List Int} (hi : l[i]? = some x) : ∃ id, ∀ j y, (tkCells s x id)[j]? = some y → xs[i * 6 + j]? = some y := by
  induction h with
  | nil => simp at hi
  | snoc l xs y id h ih =>
    have hl := h.len
    by_cases hlt : i < l.length
    · rw [List.getElem?_append_left hlt] at hi
      obtain ⟨id', h'⟩ := ih hi
      refine ⟨id', fun j z hz => ?_⟩
      have hj : j < 6 := (List.getElem?_eq_some_iff.1 hz).1
      rw [List.getElem?_append_left (by omega)]
      exact h' j z hz
    · have hlt2 := (List.getElem?_eq_some_iff.1 hi).1
      rw [List.length_append] at hlt2
      simp only [List.length_cons, List.length_nil] at hlt2
      have e : i = l.length := by omega
      subst e
      simp at hi
      subst hi
      refine ⟨id, fun j z hz => ?_⟩
      rw [List.getElem?_append_right (by omega)]
      have e : l.length * 6 + j - xs.length = j := by omega
      rw [e]; exact hz
theorem keep_box {w w9 : World} {O O2 : Obj} {r : Option Nat} (hg : ((w.alloc O).alloc O2).grownBy w9 r) (hne : some w.heap.size ≠ r) : w9.heap[w.heap.size]? = some O := by
  rw [hg.block w.heap.size (by show _ < ((w.heap.push O).push O2).size; simp; omega) hne]
  show ((w.heap.push O).push O2)[w.heap.size]? = _
  rw [Array.getElem?_push, if_neg (by simp), Array.getElem?_push_size]
def rdCells (s : ByteArray) (y : (Tk × List Int × List Int) × Bool) (id : Bool) : List Value := tkCells s y.1 id ++ [.bool y.2]
inductive RdRow (s : ByteArray) : List ((Tk × List Int × List Int) × Bool) → List Value → Prop
  | nil : RdRow s [] []
  | snoc (l : List ((Tk × List Int × List Int) × Bool)) (xs : List Value) (y : (Tk × List Int × List Int) × Bool) (id : Bool) : RdRow s l xs → RdRow s (l ++ [y]) (xs ++ rdCells s y id)
theorem RdRow.len {s : ByteArray} {l : List ((Tk × List Int × List Int) × Bool)} {xs : List Value} (h : RdRow s l xs) : xs.length = l.length * 7 := by
  induction h with
  | nil => rfl
  | snoc l xs x id h ih => rw [List.length_append, List.length_append, ih]; simp [rdCells, tkCells]; omega
theorem RdRow.get {s : ByteArray} {l : List ((Tk × List Int × List Int) × Bool)} {xs : List Value} (h : RdRow s l xs) {i : Nat} {x : (Tk × List Int × List Int) × Bool} (hi : l[i]? = some x) : ∃ id, ∀ j y, (rdCells s x id)[j]? = some y → xs[i * 7 + j]? = some y := by
  induction h with
  | nil => simp at hi
  | snoc l xs y id h ih =>
    have hl := h.len
    by_cases hlt : i < l.length
    · rw [List.getElem?_append_left hlt] at hi
      obtain ⟨id', h'⟩ := ih hi
      refine ⟨id', fun j z hz => ?_⟩
      have hj : j < 7 := (List.getElem?_eq_some_iff.1 hz).1
      rw [List.getElem?_append_left (by omega)]
      exact h' j z hz
    · have hlt2 := (List.getElem?_eq_some_iff.1 hi).1
      rw [List.length_append] at hlt2
      simp only [List.length_cons, List.length_nil] at hlt2
      have e : i = l.length := by omega
      subst e
      simp at hi
      subst hi
      refine ⟨id, fun j z hz => ?_⟩
      rw [List.getElem?_append_right (by omega)]
      have e : l.length * 7 + j - xs.length = j := by omega
      rw [e]; exact hz
theorem rd_one (s : ByteArray) (y : (Tk × List Int × List Int) × Bool) (id : Bool) : ∀ u ∈ (#[Value.int .i64 y.1.1.kind, .int .i64 (pos s y.1.2.1 : Nat), .int .i64 (pos s y.1.2.2 : Nat), .int .i64 (y.1.1.unit : Nat), .bool id, .string (bsOf (enc y.1.1.text)), .bool y.2] : Array Value).toList, u.oneCell' = true := by simp [Value.oneCell']
/-- What is returned: what is read of a text that is read to its end. -/
def RetRd (s : ByteArray) (w : World) (e : Ending) (w' : World) : Prop :=
  ∃ (v : Value) (xs : List Value), e = .returned (.tuple #[v, .bool true]) ∧ w'.ownsRow w.heap.size 64 7 v (rdP (tokens (dec s.data.toList)).1 false).length xs ∧ RdRow s (rdP (tokens (dec s.data.toList)).1 false) xs ∧ Below w.heap.size w w'
set_option maxHeartbeats 3200000 in
set_option maxRecDepth 100000 in
theorem reads_true (s : ByteArray) (hs : (s.size : Int) ≤ 2147483647) (hp : isPlainB s.data.toList = true) (hc : (tokens (dec s.data.toList)).2.1 = 0) (ho : (tokens (dec s.data.toList)).2.2 = false) (hlen : (tokens (dec s.data.toList)).1.length ≤ 2147483647) (w : World) :
    Calls Tryz.prog 31 #[.string s] w (RetRd s w) := by
  have HS := Lib.hid hs
  have HPL : Hid ((s.size : Int) ≤ 140737488355328) := by show _ ≤ _; omega
  have HP := Lib.hid hp
  have HC := Lib.hid hc
  have HO := Lib.hid ho
  have HLEN := Lib.hid hlen
  clear hs hp hc ho hlen
  rename World => w0
  go_enter Tryz.func31, Tryz.ntmps31
  go_wp2_with (go_at_call 43; go_must (refine (plain_any _ HPL.out _).mono ?_; rintro e w' ⟨rfl, rfl⟩; rw [HP.out]))
  refine (tokens_any s HS.out _).mono ?_
  rintro e w1 ⟨out, A, c, xs, rfl, hown, hrow, hb⟩
  rw [HC.out, HO.out]
  generalize htl : (tokens (dec s.data.toList)).1 = tl at hown hrow HLEN
  have HTL := Lib.hid htl
  clear htl
  have HB := Lib.hid hb
  have HROW := Lib.hid hrow
  obtain ⟨Ao, co, hout⟩ := own_slice hown
  subst hout
  have HOWN := Lib.hid hown
  clear hb hown hrow
  have hln := HLEN.out
  go_wp2_with fail
  go_loopg [7, 8, 22] tl.length (fun k p7 p8 p22 wr => ∃ (i : Nat) (acc : List ((Tk × List Int × List Int) × Bool)) (sp : Bool), p22 = .int .i64 i ∧ i + k = tl.length ∧ p8 = .bool sp ∧ acc.length ≤ i ∧ Hid (Below w1.heap.size w1 wr) ∧ Hid (acc ++ rdP (tl.drop i) sp = rdP tl false) ∧ Hid (∃ ys, wr.ownsRow w1.heap.size 64 7 p7 acc.length ys ∧ RdRow s acc ys))
  case atStart => exact ⟨0, [], false, rfl, by omega, rfl, by simp, Below.refl _ _, rfl, [], World.ownsRow_nil _ _ _ _, .nil⟩
  case round =>
    obtain ⟨i, acc, sp, rfl, hik, rfl, hacc, HB1, HQ, HR⟩ := hrel
    have hi0 : (0 : Int) ≤ (i : Int) := by omega
    have hi1 : (i : Int) ≤ 2147483647 := by omega
    by_cases hlt : i < tl.length
    · have hlti : (i : Int) < (tl.length : Int) := by omega
      obtain ⟨x, hx⟩ : ∃ x, tl[i]? = some x := ⟨tl[i], List.getElem?_eq_getElem hlt⟩
      have hdrop : tl.drop i = x :: tl.drop (i + 1) := by
        obtain ⟨h1, e⟩ := List.getElem?_eq_some_iff.1 hx
        rw [← e]; exact List.drop_eq_getElem_cons h1
      obtain ⟨id, hcells⟩ := HROW.out.get hx
      obtain ⟨q, cap, hv, _, _⟩ := HOWN.out.form (by omega)
      have hA : Ao = some ⟨q, 0, none⟩ := by injection hv
      subst hA
      have hq : q < w1.heap.size := (own_lt HOWN.out rfl).1
      have hcc : ∀ j y, (tkCells s x id)[j]? = some y → wr.cell? ⟨q, i * 6 + j, none⟩ = some y := fun j y hy => by
        have h1 := HOWN.out.cells (g := q) rfl _ y (hcells j y hy)
        rw [addr_add0] at h1
        rw [World.cell?_of_block (w := w1) (a := ⟨q, i * 6 + j, none⟩) (HB1.out.block q hq)]; exact h1
      have hc0 : wr.cell? ⟨q, i * 6, none⟩ = some (.int .i64 x.1.kind) := hcc 0 _ rfl
      have hc1 : wr.cell? ⟨q, i * 6 + 1, none⟩ = some (.int .i64 (pos s x.2.1 : Nat)) := hcc 1 _ rfl
      have hc2 : wr.cell? ⟨q, i * 6 + 2, none⟩ = some (.int .i64 (pos s x.2.2 : Nat)) := hcc 2 _ rfl
      have hc3 : wr.cell? ⟨q, i * 6 + 3, none⟩ = some (.int .i64 (x.1.unit : Nat)) := hcc 3 _ rfl
      have hc4 : wr.cell? ⟨q, i * 6 + 4, none⟩ = some (.bool id) := hcc 4 _ rfl
      have hc5 : wr.cell? ⟨q, i * 6 + 5, none⟩ = some (.string (bsOf (enc x.1.text))) := hcc 5 _ rfl
      obtain ⟨ys, hy1, hy2⟩ := HR.out
      have HB2 := Lib.hid (HB1.out.alloc HB1.out.size (.cells #[.int .i64 x.1.kind, .int .i64 (pos s x.2.1 : Nat), .int .i64 (pos s x.2.2 : Nat), .int .i64 (x.1.unit : Nat), .bool id, .string (bsOf (enc x.1.text))] 62))
      have HY1 := Lib.hid (hy1.alloc (.cells #[.int .i64 x.1.kind, .int .i64 (pos s x.2.1 : Nat), .int .i64 (pos s x.2.2 : Nat), .int .i64 (x.1.unit : Nat), .bool id, .string (bsOf (enc x.1.text))] 62))
      have HY2 := Lib.hid hy2
      have HNE : Hid (some wr.heap.size ≠ u7.ownBlock) := by
        intro e
        have := (own_lt hy1 e.symm).1
        omega
      cases hk : (x.1.kind == 38)
      · have hk' : x.1.kind ≠ 38 := by simpa using hk
        have HQ2 : Hid ((acc ++ [(x, sp)]) ++ rdP (tl.drop (i + 1)) false = rdP tl false) := by
          show _ = _; rw [← HQ.out, hdrop]; simp [rdP, hk']
        have hsize : acc.length ≤ 2147483647 := by omega
        clear hdrop hcells hcc hy1 hy2 HQ hv hx HR
        go_wp2_with (at_builtin; go_must (refine wpList_app1 rfl _ _ 58 64 rfl Tryz.underlying58 info64 rfl (by decide) HY1.out HB2.out.size #[.int .i64 x.1.kind, .int .i64 (pos s x.2.1 : Nat), .int .i64 (pos s x.2.2 : Nat), .int .i64 (x.1.unit : Nat), .bool id, .string (bsOf (enc x.1.text)), .bool sp] rfl (rd_one s (x, sp) id) (by omega) (by unfold maxLen; omega) rfl (wr.heap.size + 1) (by simp) rfl ?_; intro v' w9 hw9 hg9 hb9 _; have HW9 := Lib.hid hw9; have HB9 := Lib.hid hb9; have k0 := cell_blk (keep_box hg9 HNE.out) 0; clear hw9 hg9 hb9))
        go_roundg (tl.length - (i + 1))
        case measure => omega
        case rel => exact ⟨i + 1, acc ++ [(x, sp)], false, by go_num, by omega, rfl, by rw [List.length_append]; simp; omega, HB2.out.trans HB9.out, HQ2.out, _, by rw [List.length_append]; exact HW9.out, .snoc _ _ (x, sp) id HY2.out⟩
      · have hk' : x.1.kind = 38 := by simpa using hk
        have HQ2 : Hid (acc ++ rdP (tl.drop (i + 1)) true = rdP tl false) := by
          show _ = _; rw [← HQ.out, hdrop]; simp [rdP, hk']
        clear hk' hdrop hcells hcc hy1 hy2 HQ hv hx HR
        go_wp2_with fail
        go_roundg (tl.length - (i + 1))
        case measure => omega
        case rel => exact ⟨i + 1, acc, true, by go_num, by omega, rfl, by omega, HB2.out, HQ2.out, ys, HY1.out, HY2.out⟩
    · have hle : (tl.length : Int) ≤ (i : Int) := by omega
      have hil : i = tl.length := by omega
      have HF : Hid (acc = rdP tl false) := by
        show _ = _; rw [← HQ.out, hil, List.drop_length]; simp [rdP]
      go_wp2_with fail
      go_ret2
      obtain ⟨ys, hy1, hy2⟩ := HR.out
      rw [HF.out] at hy1 hy2
      unfold RetRd
      rw [HTL.out]
      exact ⟨u7, ys, rfl, own_base HB.out.size hy1, hy2, below_then HB.out HB1.out⟩
end Go.Proofs.YtkfdcbdlcipmfaaGreatFmt
/- Walks: the statements: whether a text is read as items. -/
namespace Go.Proofs.YtkfdcbdlcipmfaaGreatFmt
open Go.RowKit Css
def iCells (x : RIt) : List Value := [.int .i64 x.kind, .int .i64 x.unit, .string ⟨⟨x.text⟩⟩, .int .i64 x.space]
def iRow (l : List RIt) : List Value := l.flatMap iCells
theorem iRow_len (l : List RIt) : (iRow l).length = l.length * 4 := by
  induction l with
  | nil => rfl
  | cons n r ih => show (iCells n ++ iRow r).length = _; rw [List.length_append, ih]; simp [iCells]; omega
theorem iRow_snoc (l : List RIt) (x : RIt) : iRow (l ++ [x]) = iRow l ++ iCells x := by unfold iRow; simp
theorem iRow_append (l r : List RIt) : iRow (l ++ r) = iRow l ++ iRow r := by unfold iRow; simp
theorem iRow_one (l : List RIt) : ∀ u ∈ iRow l, u.oneCell' = true := by
  intro u hu
  obtain ⟨n, _, hn⟩ := List.mem_flatMap.1 hu
  simp only [iCells, List.mem_cons, List.not_mem_nil, or_false] at hn
  rcases hn with rfl | rfl | rfl | rfl <;> rfl
theorem iRow_get {l : List RIt} {i : Nat} {n : RIt} (h : l[i]? = some n) (j : Nat) (hj : j < 4) : (iRow l)[i * 4 + j]? = (iCells n)[j]? := by
  induction l generalizing i with
  | nil => simp at h
  | cons a t ih =>
    have hl : (iCells a).length = 4 := rfl
    show (iCells a ++ iRow t)[i * 4 + j]? = _
    cases i with
    | zero =>
      simp at h
      subst h
      rw [List.getElem?_append_left (by omega)]; simp
    | succ i =>
      rw [List.getElem?_append_right (by omega), hl]
      have : (i + 1) * 4 + j - 4 = i * 4 + j := by omega
      rw [this]
      exact ih (by simpa using h)
/-- Items that lie in a slice. -/
structure ItemsAt (v : Value) (l : List RIt) (w : World) : Prop where
  form : ∃ A c, v = .slice A l.length c ∧ (l ≠ [] → ∃ q, A = some ⟨q, 0, none⟩ ∧ q < w.heap.size ∧ ∀ i x, (iRow l)[i]? = some x → w.cell? ⟨q, i, none⟩ = some x)
theorem own_items {w : World} {B : Nat} {v : Value} {l : List RIt} (h : w.ownsRow B 34 4 v l.length (iRow l)) : ItemsAt v l w := by
  obtain ⟨A, c, e⟩ := own_slice h
  refine ⟨A, c, e, fun hl => ?_⟩
  obtain ⟨q, cap, hv, hq, hlt⟩ := h.form (List.length_pos_iff.2 hl)
  refine ⟨q, by rw [e] at hv; injection hv, (own_lt h (by rw [hv]; rfl)).1, fun i x hx => ?_⟩
  have := h.cells (g := q) (by rw [hv]; rfl) i x hx
  rw [addr_add0] at this; exact this
/-- A token that was read fits an item. -/
structure HoldOk (s : ByteArray) (spb : Bool) (y : (Tk × List Int × List Int) × Bool) (x : RIt) : Prop where
  isb : IsB y.1.1.kind y.1.1.unit (enc y.1.1.text) (s.extract (pos s y.1.2.1) (pos s y.1.2.2)).data.toList x
  le : pos s y.1.2.1 ≤ pos s y.1.2.2
  len : x.text.length ≤ 2147483647
  sp : spb = true → 0 ≤ x.space → (x.space == 1) = y.2
set_option maxHeartbeats 6400000 in
set_option maxRecDepth 100000 in
theorem holds_true (s : ByteArray) (hs : (s.size : Int) ≤ 2147483647) (hp : isPlainB s.data.toList = true) (hc : (tokens (dec s.data.toList)).2.1 = 0) (ho : (tokens (dec s.data.toList)).2.2 = false) (hlen : (tokens (dec s.data.toList)).1.length ≤ 2147483647)
    (xs : List RIt) (v : Value) (spb : Bool) (w : World) (hi : ItemsAt v xs w) (hl2 : (rdP (tokens (dec s.data.toList)).1 false).length = xs.length)
    (hall : ∀ (i : Nat) (y : (Tk × List Int × List Int) × Bool) (x : RIt), (rdP (tokens (dec s.data.toList)).1 false)[i]? = some y → xs[i]? = some x → HoldOk s spb y x) :
    Calls Tryz.prog 17 #[.string s, v, .bool spb] w (RetBW true w) := by
  have HR := Lib.hid (fun w => reads_true s hs hp hc ho hlen w)
  have HS := Lib.hid hs
  have hgl : (rdP (tokens (dec s.data.toList)).1 false).length ≤ 2147483647 := Nat.le_trans (rdP_len _ _) hlen
  unfold RetRd at HR
  generalize rdP (tokens (dec s.data.toList)).1 false = gl at HR hl2 hall hgl
  have HALL := Lib.hid hall
  have HI := Lib.hid hi
  obtain ⟨A2, c2, hv2, _⟩ := hi.form
  subst hv2
  clear hs hp hc ho hlen hall hi
  rename World => w0
  go_enter Tryz.func17, Tryz.ntmps17
  go_wp2_with fail
  refine (HR.out _).mono ?_
  rintro e w1 ⟨out, ys, rfl, hown, hrow, hb⟩
  have HB := Lib.hid hb
  have HROW := Lib.hid hrow
  obtain ⟨Ao, co, hout⟩ := own_slice hown
  subst hout
  have HOWN := Lib.hid hown
  clear hb hown hrow HR
  have hle2 : ((gl.length : Int) == (xs.length : Int)) = true := by rw [hl2]; simp
  go_wp2_with fail
  go_loopg [9, 27] gl.length (fun k p9 p27 wr => ∃ i : Nat, p27 = .int .i64 i ∧ i + k = gl.length ∧ Hid (Below w1.heap.size w1 wr))
  case atStart => exact ⟨0, rfl, by omega, Below.refl _ _⟩
  case round =>
    obtain ⟨i, rfl, hik, HB1⟩ := hrel
    have hi0 : (0 : Int) ≤ (i : Int) := by omega
    have hi1 : (i : Int) ≤ 2147483647 := by omega
    by_cases hlt : i < gl.length
    · have hlti : (i : Int) < (gl.length : Int) := by omega
      have hltx : (i : Int) < (xs.length : Int) := by omega
      obtain ⟨y, hy⟩ : ∃ y, gl[i]? = some y := ⟨gl[i], List.getElem?_eq_getElem hlt⟩
      obtain ⟨x, hx⟩ : ∃ x, xs[i]? = some x := ⟨xs[i]'(by omega), List.getElem?_eq_getElem (by omega)⟩
      have HOK := Lib.hid (HALL.out i y x hy hx)
      obtain ⟨id, hcells⟩ := HROW.out.get hy
      obtain ⟨q, cap, hv, _, _⟩ := HOWN.out.form (by omega)
      have hA : Ao = some ⟨q, 0, none⟩ := by injection hv
      subst hA
      have hq : q < w1.heap.size := (own_lt HOWN.out rfl).1
      have hcc : ∀ j z, (rdCells s y id)[j]? = some z → wr.cell? ⟨q, i * 7 + j, none⟩ = some z := fun j z hz => by
        have h1 := HOWN.out.cells (g := q) rfl _ z (hcells j z hz)
        rw [addr_add0] at h1
        rw [World.cell?_of_block (w := w1) (a := ⟨q, i * 7 + j, none⟩) (HB1.out.block q hq)]; exact h1
      obtain ⟨A3, c3, hv3, hf3⟩ := HI.out.form
      injection hv3 with e1 _ e3
      subst e1
      subst e3
      obtain ⟨q2, hA2, hq2, hc2⟩ := hf3 (by intro e; subst e; simp at hx)
      subst hA2
      have hxx : ∀ j z, j < 4 → (iCells x)[j]? = some z → wr.cell? ⟨q2, i * 4 + j, none⟩ = some z := fun j z hj hz => by
        have h1 := hc2 (i * 4 + j) z (by rw [iRow_get hx j hj]; exact hz)
        have h2 : q2 < w1.heap.size := Nat.lt_of_lt_of_le hq2 HB.out.size
        rw [World.cell?_of_block (w := w1) (a := ⟨q2, i * 4 + j, none⟩) (HB1.out.block q2 h2), World.cell?_of_block (w := w0) (a := ⟨q2, i * 4 + j, none⟩) (HB.out.block q2 hq2)]; exact h1
      have a0 : wr.cell? ⟨q, i * 7, none⟩ = some (.int .i64 y.1.1.kind) := hcc 0 _ rfl
      have a1 : wr.cell? ⟨q, i * 7 + 1, none⟩ = some (.int .i64 (pos s y.1.2.1 : Nat)) := hcc 1 _ rfl
      have a2 : wr.cell? ⟨q, i * 7 + 2, none⟩ = some (.int .i64 (pos s y.1.2.2 : Nat)) := hcc 2 _ rfl
      have a3 : wr.cell? ⟨q, i * 7 + 3, none⟩ = some (.int .i64 (y.1.1.unit : Nat)) := hcc 3 _ rfl
      have a4 : wr.cell? ⟨q, i * 7 + 4, none⟩ = some (.bool id) := hcc 4 _ rfl
      have a5 : wr.cell? ⟨q, i * 7 + 5, none⟩ = some (.string (bsOf (enc y.1.1.text))) := hcc 5 _ rfl
      have a6 : wr.cell? ⟨q, i * 7 + 6, none⟩ = some (.bool y.2) := hcc 6 _ rfl
      have x0 : wr.cell? ⟨q2, i * 4, none⟩ = some (.int .i64 x.kind) := hxx 0 _ (by decide) rfl
      have x1 : wr.cell? ⟨q2, i * 4 + 1, none⟩ = some (.int .i64 x.unit) := hxx 1 _ (by decide) rfl
      have x2 : wr.cell? ⟨q2, i * 4 + 2, none⟩ = some (.string ⟨⟨x.text⟩⟩) := hxx 2 _ (by decide) rfl
      have x3 : wr.cell? ⟨q2, i * 4 + 3, none⟩ = some (.int .i64 x.space) := hxx 3 _ (by decide) rfl
      have HB2 := Lib.hid (HB1.out.alloc HB1.out.size (.cells #[.int .i64 y.1.1.kind, .int .i64 (pos s y.1.2.1 : Nat), .int .i64 (pos s y.1.2.2 : Nat), .int .i64 (y.1.1.unit : Nat), .bool id, .string (bsOf (enc y.1.1.text)), .bool y.2] 64))
      have HCALL := Lib.hid (fun w => is_true s (bsOf (enc y.1.1.text)) y.1.1.kind (pos s y.1.2.1) (pos s y.1.2.2) y.1.1.unit HOK.out.le pos_le (by have := HS.out; omega) x HOK.out.len HOK.out.isb id y.2 w)
      have HSP := Lib.hid HOK.out.sp
      clear hcells hcc hxx hc2 hf3 hv hy hx HOK
      generalize y.1.1.kind = yk at *
      generalize pos s y.1.2.1 = ya at *
      generalize pos s y.1.2.2 = yb at *
      generalize y.1.1.unit = yu at *
      generalize bsOf (enc y.1.1.text) = yt at *
      generalize y.2 = ysp at *
      have hcase : spb = false ∨ (spb = true ∧ decide (0 ≤ x.space) = false) ∨ (spb = true ∧ 0 ≤ x.space ∧ (x.space == 1) = ysp) := by
        cases spb
        · exact .inl rfl
        · by_cases h0 : 0 ≤ x.space
          · exact .inr (.inr ⟨rfl, h0, HSP.out rfl h0⟩)
          · exact .inr (.inl ⟨rfl, by simpa using h0⟩)
      clear HSP
      rcases hcase with h | ⟨h, hd0⟩ | ⟨h, hd0, hd1⟩ <;> subst h
      all_goals
        go_wp2_with fail
        generalize hW : wr.alloc (.cells #[.int .i64 yk, .int .i64 ya, .int .i64 yb, .int .i64 yu, .bool id, .string yt, .bool ysp] 64) = W
        have hWB : Below wr.heap.size wr W := by rw [← hW]; exact box_below _ _
        have hWb : W.heap[wr.heap.size]? = some (.cells #[.int .i64 yk, .int .i64 ya, .int .i64 yb, .int .i64 yu, .bool id, .string yt, .bool ysp] 64) := by rw [← hW]; exact heap_alloc_new wr _
        rw [hW] at HB2
        obtain ⟨Ix, hne, f, hf1, hf2⟩ := below_class W
        have k0 : ∀ n, (f n).cell? ⟨wr.heap.size, 0, none⟩ = some (.int .i64 yk) := fun n => class_cell hf1 (cell_blk hWb 0) n
        have k1 : ∀ n, (f n).cell? ⟨wr.heap.size, 1, none⟩ = some (.int .i64 (ya : Nat)) := fun n => class_cell hf1 (cell_blk hWb 1) n
        have k2 : ∀ n, (f n).cell? ⟨wr.heap.size, 2, none⟩ = some (.int .i64 (yb : Nat)) := fun n => class_cell hf1 (cell_blk hWb 2) n
        have k3 : ∀ n, (f n).cell? ⟨wr.heap.size, 3, none⟩ = some (.int .i64 (yu : Nat)) := fun n => class_cell hf1 (cell_blk hWb 3) n
        have k4 : ∀ n, (f n).cell? ⟨wr.heap.size, 4, none⟩ = some (.bool id) := fun n => class_cell hf1 (cell_blk hWb 4) n
        have k5 : ∀ n, (f n).cell? ⟨wr.heap.size, 5, none⟩ = some (.string yt) := fun n => class_cell hf1 (cell_blk hWb 5) n
        have k6 : ∀ n, (f n).cell? ⟨wr.heap.size, 6, none⟩ = some (.bool ysp) := fun n => class_cell hf1 (cell_blk hWb 6) n
        have z0 : ∀ n, (f n).cell? ⟨q2, i * 4, none⟩ = some (.int .i64 x.kind) := fun n => class_cell hf1 (below_cell hWB x0) n
        have z1 : ∀ n, (f n).cell? ⟨q2, i * 4 + 1, none⟩ = some (.int .i64 x.unit) := fun n => class_cell hf1 (below_cell hWB x1) n
        have z2 : ∀ n, (f n).cell? ⟨q2, i * 4 + 2, none⟩ = some (.string ⟨⟨x.text⟩⟩) := fun n => class_cell hf1 (below_cell hWB x2) n
        have z3 : ∀ n, (f n).cell? ⟨q2, i * 4 + 3, none⟩ = some (.int .i64 x.space) := fun n => class_cell hf1 (below_cell hWB x3) n
        have HF1 := Lib.hid hf1
        have HF2 := Lib.hid hf2
        clear hWB hWb hf1 hf2 hW
        refine wp_region_class (f := f) (by kernel_rfl) (by kernel_rfl) HF2.out ?_
        repeat (go_big_quiet_step ((go_at_call 32; exact (HCALL.out _).mono fun e w' h => ⟨h.1, class_next HF1.out HF2.out h.2⟩)))
        refine wpQuiet_nil ?_
        intro w9 hw9
        obtain ⟨nq, hw9⟩ := hw9
        subst hw9
        clear k0 k1 k2 k3 k4 k5 k6 z0 z1 z2 z3
        go_wp2_with fail
        go_roundg (gl.length - (i + 1))
        case measure => omega
        case rel => exact ⟨i + 1, by go_num, by omega, HB2.out.trans ((HF1.out nq).mono HB2.out.size)⟩
    · have hle : (gl.length : Int) ≤ (i : Int) := by omega
      go_wp2_with fail
      go_ret
      exact RetBW.mk' rfl (below_then HB.out HB1.out)
end Go.Proofs.YtkfdcbdlcipmfaaGreatFmt
/- Walks: the reference: the items of nodes. -/
namespace Go.Proofs.YtkfdcbdlcipmfaaGreatFmt
open Go.RowKit Css Go.Maps
theorem info34 : (Tryz.prog.info? 34).map (fun i => (i.zero, i.size, i.bytes)) = some (some (.agg #[.int .i64 0, .int .i64 0, .string ⟨#[]⟩, .int .i64 0]), 4, 40) := by kernel_rfl
theorem info3 : (Tryz.prog.info? 3).map (fun i => (i.zero, i.size, i.bytes)) = some (some (.int .i64 0), 1, 8) := by kernel_rfl
theorem zero4 (w : World) : (zeroValue 4).run Tryz.prog w = .ok (.bool false) w := by kernel_rfl
def opRow (op : List Int) : List Value := op.reverse.map fun k => .int .i64 k
/-- The state of Items. -/
structure IS (B b5 b6 n5 n6 : Nat) (acc : List RIt) (op : List Int) (la fr : Int → Bool) (vo vp : Value) (w : World) : Prop where
  out : w.ownsRow B 34 4 vo acc.length (iRow acc)
  opn : w.ownsRow B 3 1 vp op.length (opRow op)
  m5 : BM Tryz.prog 3 4 b5 n5 la w
  m6 : BM Tryz.prog 3 4 b6 n6 fr w
  ne : b5 ≠ b6
  low : B ≤ b5 ∧ B ≤ b6
theorem own_ty_ne {w : World} {B B' n n' : Nat} {e e' : TypeId} {s s' : Nat} {v v' : Value} {xs xs' : List Value} (h : w.ownsRow B e s v n xs) (h' : w.ownsRow B' e' s' v' n' xs') (hne : e ≠ e') : ∀ q, v.ownBlock = some q → v'.ownBlock ≠ some q := by
  intro q hq hq'
  obtain ⟨c1, f1, h1⟩ := (own_lt h hq).2.2
  obtain ⟨c2, f2, h2⟩ := (own_lt h' hq').2.2
  rw [h1] at h2
  injection h2 with h2
  injection h2 with _ h2 _
  exact hne h2
theorem IS.same {B b5 b6 n5 n6 : Nat} {acc : List RIt} {op : List Int} {la fr : Int → Bool} {vo vp : Value} {w w' : World} (h : IS B b5 b6 n5 n6 acc op la fr vo vp w) (hb : ∀ q, q < w.heap.size → w'.heap[q]? = w.heap[q]?) : IS B b5 b6 n5 n6 acc op la fr vo vp w' :=
  ⟨own_keep h.out fun q hq => hb q (own_lt h.out hq).1, own_keep h.opn fun q hq => hb q (own_lt h.opn hq).1, h.m5.same (hb _ h.m5.lt), h.m6.same (hb _ h.m6.lt), h.ne, h.low⟩
theorem IS.alloc {B b5 b6 n5 n6 : Nat} {acc : List RIt} {op : List Int} {la fr : Int → Bool} {vo vp : Value} {w : World} (h : IS B b5 b6 n5 n6 acc op la fr vo vp w) (o : Obj) : IS B b5 b6 n5 n6 acc op la fr vo vp (w.alloc o) := h.same fun q hq => Below.heap_alloc w o q hq
/-- An item more. -/
theorem IS.item {B b5 b6 n5 n6 : Nat} {acc : List RIt} {op : List Int} {la fr : Int → Bool} {vo vp v' : Value} {w w' : World} {O : Obj} {x : RIt} (h : IS B b5 b6 n5 n6 acc op la fr vo vp w) (hr : w'.ownsRow B 34 4 v' (acc.length + 1) (iRow acc ++ iCells x)) (hg : (w.alloc O).grownBy w' vo.ownBlock) : IS B b5 b6 n5 n6 (acc ++ [x]) op la fr v' vp w' := by
  have ha := h.alloc O
  refine ⟨by rw [iRow_snoc, List.length_append]; exact hr, own_keep ha.opn fun q hq => hg.block q (own_lt ha.opn hq).1 fun e => own_ty_ne ha.opn ha.out (by decide) q hq e.symm, ha.m5.kept hg (ha.m5.ne_own ha.out), ha.m6.kept hg (ha.m6.ne_own ha.out), h.ne, h.low⟩
theorem opRow_cons (k : Int) (op : List Int) : opRow (k :: op) = opRow op ++ [.int .i64 k] := by simp [opRow]
theorem opRow_len (op : List Int) : (opRow op).length = op.length := by simp [opRow]
/-- A kind more to close. -/
theorem IS.push {B b5 b6 n5 n6 : Nat} {acc : List RIt} {op : List Int} {la fr : Int → Bool} {vo vp v' : Value} {w w' : World} {O : Obj} {k : Int} (h : IS B b5 b6 n5 n6 acc op la fr vo vp w) (hr : w'.ownsRow B 3 1 v' (op.length + 1) (opRow op ++ [.int .i64 k])) (hg : (w.alloc O).grownBy w' vp.ownBlock) : IS B b5 b6 n5 n6 acc (k :: op) la fr vo v' w' := by
  have ha := h.alloc O
  refine ⟨own_keep ha.out fun q hq => hg.block q (own_lt ha.out hq).1 fun e => own_ty_ne ha.out ha.opn (by decide) q hq e.symm, by rw [opRow_cons, List.length_cons]; exact hr, ha.m5.kept hg (ha.m5.ne_own ha.opn), ha.m6.kept hg (ha.m6.ne_own ha.opn), h.ne, h.low⟩
/-- A kind less. -/
theorem IS.pop {B b5 b6 n5 n6 : Nat} {acc : List RIt} {k : Int} {op : List Int} {la fr : Int → Bool} {vo : Value} {A : Option Addr} {n c : Nat} {w : World} (h : IS B b5 b6 n5 n6 acc (k :: op) la fr vo (.slice A n c) w) : IS B b5 b6 n5 n6 acc op la fr vo (.slice A op.length c) w := by
  refine ⟨h.out, ?_, h.m5, h.m6, h.ne, h.low⟩
  have h2 := h.opn
  rw [opRow_cons, List.length_cons] at h2
  obtain ⟨h1, h2⟩ := h2
  refine ⟨opRow_len op ▸ (by rw [Nat.mul_one]), ?_⟩
  rcases h2 with ⟨_, h2⟩ | ⟨g, cap, cur, hv, hb, hh, hnc, hcm, hcs, ht⟩
  · simp at h2
  · injection hv with e1 e2 e3
    subst e1
    subst e3
    refine .inr ⟨g, c, cur, rfl, hb, hh, by omega, hcm, hcs, ?_⟩
    have h3 : (opRow op ++ [Value.int .i64 k]).take (op.length * 1) = opRow op := by rw [Nat.mul_one, ← opRow_len op, List.take_left']; rfl
    rw [← h3, ← ht, List.take_take]
    congr 1
    omega
theorem BM.look_run {b n : Nat} {f : Int → Bool} {w : World} (hown : BM Tryz.prog 3 4 b n f w) (i : Int) (hw : (Lit.int .i64 i).wf = true) : (Instr.lookup 55 (.map (some b)) (.int .i64 i) false).run Tryz.prog w = .ok (.bool (f i)) w := by
  obtain ⟨D, h1, h2, h3⟩ := hown.own
  obtain ⟨v, ps, hrun, hv⟩ := h1.lookup (int_keyed Tryz.underlying3) Tryz.underlying55 (zero4 w) (plainElem_bool Tryz.underlying4 false) (keyOf_int_mk Tryz.underlying3 hw)
  rw [h3 i] at hv
  obtain ⟨c, rfl, hc⟩ := plainElem_bool_inv Tryz.underlying4 hv
  simp only [Prod.mk.injEq, DataW.lit.injEq, Lit.bool.injEq] at hc
  rw [← hc.1] at hrun
  exact hrun
theorem IS.map_keep {B b5 b6 n5 n6 : Nat} {acc : List RIt} {op : List Int} {la fr : Int → Bool} {vo vp : Value} {w w' : World} (h : IS B b5 b6 n5 n6 acc op la fr vo vp w) {b n n' : Nat} {f : Int → Bool} (hm : BM Tryz.prog 3 4 b n f w) (hg : w.grownBy w' (some b)) : w'.ownsRow B 34 4 vo acc.length (iRow acc) ∧ w'.ownsRow B 3 1 vp op.length (opRow op) :=
  ⟨own_keep h.out fun q hq => hg.block q (own_lt h.out hq).1 fun e => hm.ne_own h.out (by rw [← e, hq]), own_keep h.opn fun q hq => hg.block q (own_lt h.opn hq).1 fun e => hm.ne_own h.opn (by rw [← e, hq])⟩
/-- What is noted of a depth. -/
theorem IS.mark6 {B b5 b6 n5 n6 : Nat} {acc : List RIt} {op : List Int} {la fr : Int → Bool} {vo vp : Value} {w : World} (h : IS B b5 b6 n5 n6 acc op la fr vo vp w) (hn : n6 < maxLen) (d : Int) (hw : (Lit.int .i64 d).wf = true) (x : Bool) :
    ∃ w2, (Instr.mapUpdate 55 (.map (some b6)) (.int .i64 d) (.bool x)).run Tryz.prog w = .ok () w2 ∧ IS B b5 b6 n5 (n6 + 1) acc op la (upd fr d x) vo vp w2 ∧ w.grownBy w2 (some b6) := by
  obtain ⟨w2, hr, hm, hg⟩ := h.m6.put_run (t := 55) Tryz.underlying3 Tryz.underlying55 Tryz.underlying4 hn d hw x
  obtain ⟨h1, h2⟩ := h.map_keep (n' := 0) h.m6 hg
  exact ⟨w2, hr, ⟨h1, h2, h.m5.kept hg (by have := h.ne; intro e; injection e; omega), hm, h.ne, h.low⟩, hg⟩
theorem IS.mark5 {B b5 b6 n5 n6 : Nat} {acc : List RIt} {op : List Int} {la fr : Int → Bool} {vo vp : Value} {w : World} (h : IS B b5 b6 n5 n6 acc op la fr vo vp w) (hn : n5 < maxLen) (d : Int) (hw : (Lit.int .i64 d).wf = true) (x : Bool) :
    ∃ w2, (Instr.mapUpdate 55 (.map (some b5)) (.int .i64 d) (.bool x)).run Tryz.prog w = .ok () w2 ∧ IS B b5 b6 (n5 + 1) n6 acc op (upd la d x) fr vo vp w2 ∧ w.grownBy w2 (some b5) := by
  obtain ⟨w2, hr, hm, hg⟩ := h.m5.put_run (t := 55) Tryz.underlying3 Tryz.underlying55 Tryz.underlying4 hn d hw x
  obtain ⟨h1, h2⟩ := h.map_keep (n' := 0) h.m5 hg
  exact ⟨w2, hr, ⟨h1, h2, hm, h.m6.kept hg (by have := h.ne; intro e; injection e; omega), h.ne, h.low⟩, hg⟩
theorem IS.put6 {B b5 b6 n5 n6 : Nat} {acc : List RIt} {op : List Int} {la fr : Int → Bool} {vo vp : Value} {w w2 : World} (h : IS B b5 b6 n5 n6 acc op la fr vo vp w) {d : Int} {x : Bool} (hm : BM Tryz.prog 3 4 b6 (n6 + 1) (upd fr d x) w2) (hg : w.grownBy w2 (some b6)) : IS B b5 b6 n5 (n6 + 1) acc op la (upd fr d x) vo vp w2 := by
  obtain ⟨h1, h2⟩ := h.map_keep (n' := 0) h.m6 hg
  exact ⟨h1, h2, h.m5.kept hg (by have := h.ne; intro e; injection e; omega), hm, h.ne, h.low⟩
theorem IS.mono {B b5 b6 n5 n6 m5 m6 : Nat} {acc : List RIt} {op : List Int} {la fr : Int → Bool} {vo vp : Value} {w : World} (h : IS B b5 b6 n5 n6 acc op la fr vo vp w) (h5 : n5 ≤ m5) (h6 : n6 ≤ m6) : IS B b5 b6 m5 m6 acc op la fr vo vp w :=
  ⟨h.out, h.opn, h.m5.ext rfl h5, h.m6.ext rfl h6, h.ne, h.low⟩
theorem IS.not_own {B b5 b6 n5 n6 : Nat} {acc : List RIt} {op : List Int} {la fr : Int → Bool} {vo vp : Value} {w : World} (h : IS B b5 b6 n5 n6 acc op la fr vo vp w) {b : Nat} {cs : Array Value} {f : Nat × Nat} (hb : w.heap[b]? = some (Obj.cells cs 50 f)) : some b ≠ vo.ownBlock ∧ some b ≠ vp.ownBlock := by
  constructor
  · intro e
    obtain ⟨c1, f1, h1⟩ := (own_lt h.out e.symm).2.2
    rw [hb] at h1
    injection h1 with h1
    injection h1 with _ h1 _
    exact absurd h1 (by decide)
  · intro e
    obtain ⟨c1, f1, h1⟩ := (own_lt h.opn e.symm).2.2
    rw [hb] at h1
    injection h1 with h1
    injection h1 with _ h1 _
    exact absurd h1 (by decide)
theorem IS.marks {B b5 b6 n5 n6 : Nat} {acc : List RIt} {op : List Int} {la fr : Int → Bool} {vo vp : Value} {w : World} (h : IS B b5 b6 n5 n6 acc op la fr vo vp w) (hB : B ≤ w.heap.size) (hn5 : n5 < maxLen) (hn6 : n6 < maxLen) (d : Int) (hw : (Lit.int .i64 d).wf = true) (x : Bool) :
    ∃ w2 w3, (Instr.mapUpdate 55 (.map (some b6)) (.int .i64 d) (.bool false)).run Tryz.prog w = .ok () w2 ∧ (Instr.mapUpdate 55 (.map (some b5)) (.int .i64 d) (.bool x)).run Tryz.prog w2 = .ok () w3 ∧ IS B b5 b6 (n5 + 1) (n6 + 1) acc op (upd la d x) (upd fr d false) vo vp w3 ∧ Below B w w3 ∧ w.heap.size ≤ w3.heap.size ∧
      (∀ (b : Nat) (cs : Array Value) (T : TypeId) (f : Nat × Nat), w.heap[b]? = some (Obj.cells cs T f) → w2.heap[b]? = some (Obj.cells cs T f) ∧ w3.heap[b]? = some (Obj.cells cs T f)) := by
  obtain ⟨w2, hr2, h2, hg2⟩ := h.mark6 hn6 d hw false
  obtain ⟨w3, hr3, h3, hg3⟩ := h2.mark5 hn5 d hw x
  have hb2 : Below B w w2 := (Below.refl _ _).grown hg2 hB (by intro k hk; injection hk with hk; subst hk; exact h.low.2)
  have hb3 : Below B w2 w3 := (Below.refl _ _).grown hg3 (Nat.le_trans hB hg2.size) (by intro k hk; injection hk with hk; subst hk; exact h.low.1)
  refine ⟨w2, w3, hr2, hr3, h3, hb2.trans hb3, Nat.le_trans hg2.size hg3.size, fun b cs T f hb => ?_⟩
  have hlt : b < w.heap.size := (Array.getElem?_eq_some_iff.1 hb).1
  have hne : ∀ {b' n : Nat} {g : Int → Bool} {W : World}, BM Tryz.prog 3 4 b' n g W → W.heap[b]? = some (Obj.cells cs T f) → some b ≠ some b' := by
    intro b' n g W hm hW e
    injection e with e
    subst e
    obtain ⟨D, ⟨es, clock, hb, _⟩, _, _⟩ := hm.own
    rw [hb] at hW
    injection hW with hW
    cases hW
  have e2 : w2.heap[b]? = some (Obj.cells cs T f) := by rw [hg2.block b hlt (hne h.m6 hb)]; exact hb
  exact ⟨e2, by rw [hg3.block b (Nat.lt_of_lt_of_le hlt hg2.size) (hne h2.m5 e2)]; exact e2⟩
theorem grown_keep {w w' : World} {O : Obj} {r : Option Nat} (hg : (w.alloc O).grownBy w' r) {b : Nat} (hb : b < w.heap.size) (hne : some b ≠ r) : w'.heap[b]? = w.heap[b]? := by
  rw [hg.block b (by simp; omega) hne]; exact Below.heap_alloc w O b hb
end Go.Proofs.YtkfdcbdlcipmfaaGreatFmt
