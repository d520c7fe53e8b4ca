/- Walks: printRuleBlock, of one rule. Printed by genQ7.py. -/
import Derived.Test.YtkfdcbdlcipmfaaGreatFmtG19
import Derived.Test.YtkfdcbdlcipmfaaGreatFmtG33
set_option linter.unusedVariables false
set_option linter.unusedSimpArgs false
namespace Go.Proofs.YtkfdcbdlcipmfaaGreatFmt
open Go.RowKit Css
variable {W0 : World}
set_option maxHeartbeats 8000000 in
set_option maxRecDepth 100000 in
theorem block_one (g q r : Nat) (mini asc : Bool) (t : TypeId) (w : World) (bs : List UInt8) (X : List UInt8 → Prop) (hq : w.heap[q]? = some (.cells #[.iface t (.pointer (some ⟨r, 0, none⟩)), .int .i32 0] 81 (0, 0))) (hqB : q < W0.heap.size) (hst : St W0.heap.size g mini asc bs w) (hl : bs.length + 100 ≤ 140737488355328)
    (hrule : ∀ W' bs', Ke W0.heap.size g w W' → St W0.heap.size g mini asc bs' W' → bs'.length ≤ bs.length + 2 → Calls Tryz.prog 56 #[.pointer (some ⟨g, 0, none⟩), .agg #[.iface t (.pointer (some ⟨r, 0, none⟩)), .int .i32 0], .int .i32 1, .bool mini] W' (fun e w' => e = .returned (.tuple #[]) ∧ ∃ out, X out ∧ out.length + bs.length + 200 ≤ 140737488355328 ∧ Put W0.heap.size g mini asc (bs' ++ out) W' w')) :
    Calls Tryz.prog 84 #[.pointer (some ⟨g, 0, none⟩), .slice (some ⟨q, 0, none⟩) 1 1, .int .i32 0, .agg #[.int .i32 0]] w (fun e w' => e = .returned (.tuple #[]) ∧ ∃ out, X out ∧ Put W0.heap.size g mini asc (bs ++ (if mini then [123] else [123, 10]) ++ out ++ [125]) w w') := by
  have HB0 := Lib.hid (box_below (.cells #[.int .i32 0] 71) w)
  have HS0 := Lib.hid hst
  have HPX : Hid (Put W0.heap.size g mini asc bs (w.alloc (.cells #[.int .i32 0] 71)) (w.alloc (.cells #[.int .i32 0] 71))) := Put.refl' (hst.grow HB0.out)
  have HR : Hid (∀ w', Ke W0.heap.size g (w.alloc (.cells #[.int .i32 0] 71)) w' → w'.cell? ⟨q, 0, none⟩ = some (.iface t (.pointer (some ⟨r, 0, none⟩))) ∧ w'.cell? ⟨q, 1, none⟩ = some (.int .i32 0)) := fun w' hk => by
    have e : w'.heap[q]? = some (.cells #[.iface t (.pointer (some ⟨r, 0, none⟩)), .int .i32 0] 81 (0, 0)) := (hk.low q hqB).trans (blk_below HB0.out hq)
    exact ⟨cell_blk e 0, cell_blk e 1⟩
  have HRULE : Hid (∀ W' bs', Ke W0.heap.size g (w.alloc (.cells #[.int .i32 0] 71)) W' → St W0.heap.size g mini asc bs' W' → bs'.length ≤ bs.length + 2 → Calls Tryz.prog 56 #[.pointer (some ⟨g, 0, none⟩), .agg #[.iface t (.pointer (some ⟨r, 0, none⟩)), .int .i32 0], .int .i32 1, .bool mini] W' (fun e w' => e = .returned (.tuple #[]) ∧ ∃ out, X out ∧ out.length + bs.length + 200 ≤ 140737488355328 ∧ Put W0.heap.size g mini asc (bs' ++ out) W' w')) :=
    fun W' bs' hk => hrule W' bs' ((Ke.of_below HB0.out hst.base).trans hk)
  have HL := Lib.hid hl
  obtain ⟨c0, c1⟩ := HR.out _ HPX.out.ke
  obtain ⟨vv, hatv⟩ := HPX.out.st.at_
  have hmini := hatv.pr.mini
  have hmaps := hatv.pr.maps
  clear hatv hq hst hl hrule
  go_enter Tryz.func84, Tryz.ntmps84
  go_upto_region 1 with fail
  change Code.wp _ _ _ _ (w.alloc (.cells #[.int .i32 0] 71))
  generalize w.alloc (.cells #[.int .i32 0] 71) = W at HB0 HPX HR HRULE c0 c1 hmini hmaps ⊢
  cases mini
  · go_upto_region 5 with (go_at_call 75; go_must (refine (print_any _ g false asc ⟨#[123, 10]⟩ _ _ HPX.out.st (by have := HL.out; show bs.length + 2 ≤ _; omega)).mono ?_; rintro e' w2 ⟨rfl, hp2⟩; have HPX := Lib.hid (HPX.out.trans hp2); clear hp2; obtain ⟨c0, c1⟩ := HR.out _ HPX.out.ke; obtain ⟨vv, hatv⟩ := HPX.out.st.at_; have hmini := hatv.pr.mini; have hmaps := hatv.pr.maps; clear hatv))
    rename World => W1
    go_loopg [8, 9, 10, 22] 1 (fun k p8 p9 p10 p22 wr => ∃ i : Nat, p22 = .int .i64 i ∧ i + k = 1 ∧ Hid ((i = 0 → wr = W1) ∧ (i = 1 → ∃ out, X out ∧ out.length + bs.length + 200 ≤ 140737488355328 ∧ Put W0.heap.size g false asc (bs ++ [123, 10] ++ out) W wr)))
    case atStart => exact ⟨0, rfl, rfl, ⟨fun _ => rfl, (fun h => by cases h)⟩⟩
    case round =>
      obtain ⟨i, rfl, hik, HI⟩ := hrel
      rcases Nat.eq_zero_or_pos i with hi | hi
      · subst hi
        have hwr := HI.out.1 rfl
        subst hwr
        have hgk : 0 < gk := by omega
        have HBX := Lib.hid (box_below (.cells #[.iface t (.pointer (some ⟨r, 0, none⟩)), .int .i32 0] 81) wr)
        have HST := Lib.hid (HPX.out.st.grow HBX.out)
        have HKX := Lib.hid (HPX.out.ke.trans (Ke.of_below HBX.out HPX.out.st.base))
        have HCALL := Lib.hid (HRULE.out _ _ HKX.out HST.out (by simp))
        have hmini2 : (wr.alloc (.cells #[.iface t (.pointer (some ⟨r, 0, none⟩)), .int .i32 0] 81)).cell? ⟨g, 6, none⟩ = some (.bool false) := below_cell HBX.out hmini
        go_wp2_with (go_at_call 56; go_must (refine HCALL.out.mono ?_; rintro e' w2 ⟨rfl, out, hX, hlen, hput⟩; have HX := Lib.hid hX; have HLEN := Lib.hid hlen; have HPT := Lib.hid hput; clear hX hlen hput))
        go_roundg 0
        case measure => exact hgk
        case rel => exact ⟨1, by go_num, rfl, ⟨(fun h => by cases h), fun _ => ⟨out, HX.out, HLEN.out, ⟨HPT.out.st, HKX.out.trans HPT.out.ke⟩⟩⟩⟩
      · have hi1 : i = 1 := by omega
        subst hi1
        obtain ⟨out, hX, hlen, hput⟩ := HI.out.2 rfl
        have HX := Lib.hid hX
        have HLO : Hid ((bs ++ [123, 10] ++ out).length + 100 ≤ 140737488355328) := by
          show _ ≤ _
          simp only [List.length_append, List.length_cons, List.length_nil]; omega
        have HPX := Lib.hid hput
        clear hX hlen hput c0 c1 hmini hmaps
        obtain ⟨vv, hatv⟩ := HPX.out.st.at_
        have hmini := hatv.pr.mini
        have hmaps := hatv.pr.maps
        clear hatv
        go_wp2_with (first | (go_at_call 75; go_must (refine (print1_any _ g false asc 125 _ _ HPX.out.st (by have := HLO.out; simp only [List.length_append, List.length_cons, List.length_nil] at this ⊢; omega)).mono ?_; rintro e' w2 ⟨rfl, hp2⟩; have HPX := Lib.hid (HPX.out.trans hp2); clear hp2; obtain ⟨c0, c1⟩ := HR.out _ HPX.out.ke; obtain ⟨vv, hatv⟩ := HPX.out.st.at_; have hmini := hatv.pr.mini; have hmaps := hatv.pr.maps; clear hatv)) | (go_at_call 74; go_must (refine (printIndent_any _ g false asc 0 (by omega) _ _ HPX.out.st (by have := HLO.out; simp only [List.length_append, List.length_cons, List.length_nil] at this ⊢; omega)).mono ?_; rintro e' w2 ⟨rfl, hp2⟩; rw [show List.replicate (2 * 0) (32 : UInt8) = [] from rfl, List.append_nil] at hp2; have HPX := Lib.hid (HPX.out.trans hp2); clear hp2; obtain ⟨c0, c1⟩ := HR.out _ HPX.out.ke; obtain ⟨vv, hatv⟩ := HPX.out.st.at_; have hmini := hatv.pr.mini; have hmaps := hatv.pr.maps; clear hatv)))
        go_end0
        refine ⟨rfl, out, HX.out, ?_⟩
        simpa [List.append_assoc] using Put.of_below HS0.out HB0.out HPX.out
  · go_upto_region 5 with (go_at_call 75; go_must (refine (print_any _ g true asc ⟨#[123]⟩ _ _ HPX.out.st (by have := HL.out; show bs.length + 1 ≤ _; omega)).mono ?_; rintro e' w2 ⟨rfl, hp2⟩; have HPX := Lib.hid (HPX.out.trans hp2); clear hp2; obtain ⟨c0, c1⟩ := HR.out _ HPX.out.ke; obtain ⟨vv, hatv⟩ := HPX.out.st.at_; have hmini := hatv.pr.mini; have hmaps := hatv.pr.maps; clear hatv))
    rename World => W1
    go_loopg [8, 9, 10, 22] 1 (fun k p8 p9 p10 p22 wr => ∃ i : Nat, p22 = .int .i64 i ∧ i + k = 1 ∧ Hid ((i = 0 → wr = W1) ∧ (i = 1 → ∃ out, X out ∧ out.length + bs.length + 200 ≤ 140737488355328 ∧ Put W0.heap.size g true asc (bs ++ [123] ++ out) W wr)))
    case atStart => exact ⟨0, rfl, rfl, ⟨fun _ => rfl, (fun h => by cases h)⟩⟩
    case round =>
      obtain ⟨i, rfl, hik, HI⟩ := hrel
      rcases Nat.eq_zero_or_pos i with hi | hi
      · subst hi
        have hwr := HI.out.1 rfl
        subst hwr
        have hgk : 0 < gk := by omega
        have HBX := Lib.hid (box_below (.cells #[.iface t (.pointer (some ⟨r, 0, none⟩)), .int .i32 0] 81) wr)
        have HST := Lib.hid (HPX.out.st.grow HBX.out)
        have HKX := Lib.hid (HPX.out.ke.trans (Ke.of_below HBX.out HPX.out.st.base))
        have HCALL := Lib.hid (HRULE.out _ _ HKX.out HST.out (by simp))
        have hmini2 : (wr.alloc (.cells #[.iface t (.pointer (some ⟨r, 0, none⟩)), .int .i32 0] 81)).cell? ⟨g, 6, none⟩ = some (.bool true) := below_cell HBX.out hmini
        go_wp2_with (go_at_call 56; go_must (refine HCALL.out.mono ?_; rintro e' w2 ⟨rfl, out, hX, hlen, hput⟩; have HX := Lib.hid hX; have HLEN := Lib.hid hlen; have HPT := Lib.hid hput; clear hX hlen hput))
        go_roundg 0
        case measure => exact hgk
        case rel => exact ⟨1, by go_num, rfl, ⟨(fun h => by cases h), fun _ => ⟨out, HX.out, HLEN.out, ⟨HPT.out.st, HKX.out.trans HPT.out.ke⟩⟩⟩⟩
      · have hi1 : i = 1 := by omega
        subst hi1
        obtain ⟨out, hX, hlen, hput⟩ := HI.out.2 rfl
        have HX := Lib.hid hX
        have HLO : Hid ((bs ++ [123] ++ out).length + 100 ≤ 140737488355328) := by
          show _ ≤ _
          simp only [List.length_append, List.length_cons, List.length_nil]; omega
        have HPX := Lib.hid hput
        clear hX hlen hput c0 c1 hmini hmaps
        obtain ⟨vv, hatv⟩ := HPX.out.st.at_
        have hmini := hatv.pr.mini
        have hmaps := hatv.pr.maps
        clear hatv
        go_wp2_with (first | (go_at_call 75; go_must (refine (print1_any _ g true asc 125 _ _ HPX.out.st (by have := HLO.out; simp only [List.length_append, List.length_cons, List.length_nil] at this ⊢; omega)).mono ?_; rintro e' w2 ⟨rfl, hp2⟩; have HPX := Lib.hid (HPX.out.trans hp2); clear hp2; obtain ⟨c0, c1⟩ := HR.out _ HPX.out.ke; obtain ⟨vv, hatv⟩ := HPX.out.st.at_; have hmini := hatv.pr.mini; have hmaps := hatv.pr.maps; clear hatv)) | (go_at_call 74; go_must (refine (printIndent_any _ g true asc 0 (by omega) _ _ HPX.out.st (by have := HLO.out; simp only [List.length_append, List.length_cons, List.length_nil] at this ⊢; omega)).mono ?_; rintro e' w2 ⟨rfl, hp2⟩; rw [show List.replicate (2 * 0) (32 : UInt8) = [] from rfl, List.append_nil] at hp2; have HPX := Lib.hid (HPX.out.trans hp2); clear hp2; obtain ⟨c0, c1⟩ := HR.out _ HPX.out.ke; obtain ⟨vv, hatv⟩ := HPX.out.st.at_; have hmini := hatv.pr.mini; have hmaps := hatv.pr.maps; clear hatv)))
        go_end0
        refine ⟨rfl, out, HX.out, ?_⟩
        simpa [List.append_assoc] using Put.of_below HS0.out HB0.out HPX.out
end Go.Proofs.YtkfdcbdlcipmfaaGreatFmt
/- Walks: printRule, of a rule with one declaration. -/
namespace Go.Proofs.YtkfdcbdlcipmfaaGreatFmt
open Go.RowKit Css
variable {F : Go.Stop.Interp} {W0 : World}
/-- What is printed of the declaration of a rule. -/
def InRule (mini asc : Bool) (nm : List Int) (vs : List T) (out : List UInt8) : Prop := ∃ vl, Prints asc vs (headBefore vs) vl ∧ (enc (flat vl)).length ≤ cost vs + 1 ∧ out = (if mini then [] else List.replicate (2 * 1) 32) ++ enc (flat (declCh asc nm vl false false (!mini) [])) ++ (if mini then [] else [10])
theorem xlen {mini asc : Bool} {nm : List Int} {vs : List T} {out : List UInt8} (hv : AllV nm) (h : InRule mini asc nm vs out) : out.length ≤ 16 * nm.length + cost vs + 100 := by
  obtain ⟨vl, h1, h2, rfl⟩ := h
  rw [decl_bytes]
  have h4 := ident_len (asc := asc) (may := false) (m := 0) hv
  have e : (enc (flat ([] : List Ch))).length = 0 := rfl
  simp only [List.length_append, e]
  cases mini <;> simp <;> omega
/-- What printing a rule with one declaration does. -/
def RetRuleQ (B g : Nat) (mini asc : Bool) (key : List Int) (ts vs : List T) (bs : List UInt8) (w : World) (e : Ending) (w' : World) : Prop :=
  e = .returned (.tuple #[]) ∧ ∃ cl has vl, Prints asc ts (headBefore ts) cl ∧ (enc (flat cl)).length ≤ cost ts + 1 ∧ Prints asc vs (headBefore vs) vl ∧ (enc (flat vl)).length ≤ cost vs + 1 ∧ Put B g mini asc (bs ++ enc (flat (ruleCh asc mini cl has key vl))) w w'
theorem rule_bytes (asc mini has : Bool) (key : List Int) (cl vl : List Ch) : enc (flat (ruleCh asc mini cl has key vl)) = enc (flat cl) ++ (if !has && !mini then [32] else []) ++ (if mini then [123] else [123, 10]) ++ ((if mini then [] else List.replicate (2 * 1) 32) ++ enc (flat (declCh asc key vl false false (!mini) [])) ++ (if mini then [] else [10])) ++ [125] ++ (if mini then [] else [10]) := by
  unfold ruleCh
  simp only [flat_append, flat_cons, enc_append, decl_bytes]
  cases mini <;> cases has <;> simp [flat_wsT, flat_wsF, enc_cons] <;> rfl
theorem as84_172 (v : Value) (w : World) : (Instr.typeAssert (.iface 84 v) 79 172 true).run Tryz.prog w = .ok (.tuple #[.pointer none, .bool false]) w := assert_no Tryz.underlying172 (by kernel_rfl) (by decide) w
theorem as84_183 (v : Value) (w : World) : (Instr.typeAssert (.iface 84 v) 79 183 true).run Tryz.prog w = .ok (.tuple #[.pointer none, .bool false]) w := assert_no Tryz.underlying183 (by kernel_rfl) (by decide) w
theorem as84_189 (v : Value) (w : World) : (Instr.typeAssert (.iface 84 v) 79 189 true).run Tryz.prog w = .ok (.tuple #[.pointer none, .bool false]) w := assert_no Tryz.underlying189 (by kernel_rfl) (by decide) w
theorem as84_220 (v : Value) (w : World) : (Instr.typeAssert (.iface 84 v) 79 220 true).run Tryz.prog w = .ok (.tuple #[.pointer none, .bool false]) w := assert_no Tryz.underlying220 (by kernel_rfl) (by decide) w
theorem as84_235 (v : Value) (w : World) : (Instr.typeAssert (.iface 84 v) 79 235 true).run Tryz.prog w = .ok (.tuple #[.pointer none, .bool false]) w := assert_no Tryz.underlying235 (by kernel_rfl) (by decide) w
theorem as84_87 (v : Value) (w : World) : (Instr.typeAssert (.iface 84 v) 79 87 true).run Tryz.prog w = .ok (.tuple #[.pointer none, .bool false]) w := assert_no Tryz.underlying87 (by kernel_rfl) (by decide) w
theorem as84_179 (v : Value) (w : World) : (Instr.typeAssert (.iface 84 v) 79 179 true).run Tryz.prog w = .ok (.tuple #[.pointer none, .bool false]) w := assert_no Tryz.underlying179 (by kernel_rfl) (by decide) w
theorem as84_84 (v : Value) (w : World) : (Instr.typeAssert (.iface 84 v) 79 84 true).run Tryz.prog w = .ok (.tuple #[v, .bool true]) w := assert_yes Tryz.underlying84 w
set_option maxHeartbeats 40000000 in
set_option maxRecDepth 100000 in
theorem printRule_qual (g r q r2 : Nat) (mini asc : Bool) (nm : List Int) (hv : AllV nm) (hlow : asc = true → ∀ c ∈ nm, c < 1048576) (s : ByteArray) (h : s.data.toList = enc nm) (hss : s.size ≤ 2147483647) (ts vs : List T) (v v2 : Value) (w : World) (bs : List UInt8) (hcost : cost ts ≤ 134217728) (hok : OKl asc ts) (hcost2 : cost vs ≤ 134217728) (hok2 : OKl asc vs)
    (htk : TksAt w (fun b => b < W0.heap.size) v ts) (htk2 : TksAt w (fun b => b < W0.heap.size) v2 vs) (hE : Env F W0 w) (hst : St W0.heap.size g mini asc bs w) (hl : bs.length + 16 * nm.length + cost ts + cost vs + 4194304 ≤ 140737488355328)
    (hr : r < W0.heap.size) (hrb : w.heap[r]? = some (.cells #[v, .slice (some ⟨q, 0, none⟩) 1 1, .int .i32 0] 86 (0, 0))) (hq : q < W0.heap.size) (hqb : w.heap[q]? = some (.cells #[.iface 69 (.pointer (some ⟨r2, 0, none⟩)), .int .i32 0] 81 (0, 0)))
    (hr2 : r2 < W0.heap.size) (cr : Array Value) (T : TypeId) (hrb2 : w.heap[r2]? = some (.cells cr T (0, 0))) (h0 : cr[0]? = some (.string s)) (h1 : cr[1]? = some v2) (h5 : cr[5]? = some (.bool false)) :
    Calls Tryz.prog 56 #[.pointer (some ⟨g, 0, none⟩), .agg #[.iface 84 (.pointer (some ⟨r, 0, none⟩)), .int .i32 0], .int .i32 0, .bool false] w (RetRuleQ W0.heap.size g mini asc nm ts vs bs w) := by
  obtain ⟨A, c, hve, hA⟩ := htk
  subst hve
  have htk : TksAt w (fun b => b < W0.heap.size) (.slice A ts.length c) ts := ⟨A, c, rfl, hA⟩
  have HBLK0 : Hid (∀ (bs' : List UInt8) (Wx Wc : World), Ke W0.heap.size g w Wx → St W0.heap.size g mini asc bs' Wx → Below Wx.heap.size Wx Wc → bs'.length + 16 * nm.length + cost vs + 3145728 ≤ 140737488355328 → Calls Tryz.prog 84 #[.pointer (some ⟨g, 0, none⟩), .slice (some ⟨q, 0, none⟩) 1 1, .int .i32 0, .agg #[.int .i32 0]] Wc (fun e w' => e = .returned (.tuple #[]) ∧ ∃ out, InRule mini asc nm vs out ∧ Put W0.heap.size g mini asc (bs' ++ (if mini then [123] else [123, 10]) ++ out ++ [125]) Wx w')) := by
    intro bs' Wx Wc hk hs hb hbound
    have hkc : Ke W0.heap.size g w Wc := hk.trans (Ke.of_below hb hs.base)
    refine (block_one (W0 := W0) g q r2 mini asc 69 Wc bs' (InRule mini asc nm vs) ((hkc.low q hq).trans hqb) hq (hs.grow hb) (by omega) fun W' bs2 hk2 hs2 hl2 => ?_).mono ?_
    · refine (printRule_decl (F := F) (W0 := W0) g r2 mini asc nm hv hlow s h hss vs v2 false mini 1 (by decide) W' bs2 hcost2 hok2 (tks_keep (hkc.trans hk2) htk2) (hE.ke (hkc.trans hk2)) hs2 (by omega) hr2 cr T (((hkc.trans hk2).low r2 hr2).trans hrb2) h0 h1 h5).mono ?_
      rintro e w' ⟨he, cl, sp, d1, d2, d3, d4⟩
      have hsp := d3 rfl
      subst hsp
      have hin : InRule mini asc nm vs ((if mini then [] else List.replicate (2 * 1) 32) ++ enc (flat (declCh asc nm cl false false (!mini) [])) ++ (if mini then [] else [10])) := ⟨cl, d1, d2, rfl⟩
      have hxl := xlen hv hin
      refine ⟨he, _, hin, by omega, ?_⟩
      rw [← List.append_assoc, ← List.append_assoc]
      exact d4
    · rintro e w' ⟨he, out, ho, hp⟩
      exact ⟨he, out, ho, Put.of_below hs hb hp⟩
  have HB0 := Lib.hid (box_below (.cells #[.iface 84 (.pointer (some ⟨r, 0, none⟩)), .int .i32 0] 81) w)
  have HPX : Hid (Put W0.heap.size g mini asc bs (w.alloc (.cells #[.iface 84 (.pointer (some ⟨r, 0, none⟩)), .int .i32 0] 81)) (w.alloc (.cells #[.iface 84 (.pointer (some ⟨r, 0, none⟩)), .int .i32 0] 81))) := Put.refl' (hst.grow HB0.out)
  have HR : Hid (∀ w', Ke W0.heap.size g (w.alloc (.cells #[.iface 84 (.pointer (some ⟨r, 0, none⟩)), .int .i32 0] 81)) w' → w'.cell? ⟨r, 0, none⟩ = some (.slice A ts.length c) ∧ w'.cell? ⟨r, 1, none⟩ = some (.slice (some ⟨q, 0, none⟩) 1 1) ∧ w'.cell? ⟨r, 2, none⟩ = some (.int .i32 0)) := fun w' hk => by
    have e : w'.heap[r]? = some (.cells #[.slice A ts.length c, .slice (some ⟨q, 0, none⟩) 1 1, .int .i32 0] 86 (0, 0)) := (hk.low r hr).trans (blk_below HB0.out hrb)
    exact ⟨cell_blk e 0, cell_blk e 1, cell_blk e 2⟩
  have HBLK : Hid (∀ (bs' : List UInt8) (Wx Wc : World), Put W0.heap.size g mini asc bs' (w.alloc (.cells #[.iface 84 (.pointer (some ⟨r, 0, none⟩)), .int .i32 0] 81)) Wx → Below Wx.heap.size Wx Wc → bs'.length + 16 * nm.length + cost vs + 3145728 ≤ 140737488355328 → Calls Tryz.prog 84 #[.pointer (some ⟨g, 0, none⟩), .slice (some ⟨q, 0, none⟩) 1 1, .int .i32 0, .agg #[.int .i32 0]] Wc (fun e w' => e = .returned (.tuple #[]) ∧ ∃ out, InRule mini asc nm vs out ∧ Put W0.heap.size g mini asc (bs' ++ (if mini then [123] else [123, 10]) ++ out ++ [125]) Wx w')) :=
    fun bs' Wx Wc hp hb hbound => HBLK0.out bs' Wx Wc ((Ke.of_below HB0.out hst.base).trans hp.ke) hp.st hb hbound
  obtain ⟨c0, c1, c2⟩ := HR.out _ HPX.out.ke
  obtain ⟨vv, hatv⟩ := HPX.out.st.at_
  have hlim := hatv.pr.lim
  have hmini := hatv.pr.mini
  have hmaps := hatv.pr.maps
  have hbx : (w.alloc (.cells #[.iface 84 (.pointer (some ⟨r, 0, none⟩)), .int .i32 0] 81)).heap[w.heap.size]? = some (.cells #[.iface 84 (.pointer (some ⟨r, 0, none⟩)), .int .i32 0] 81 (0, 0)) := heap_alloc_new w _
  have HBX := Lib.hid hbx
  have HGX : Hid (w.heap.size ≠ g) := by obtain ⟨⟨v, hp, _⟩, _⟩ := hst; have := hp.lt; show _ ≠ _; omega
  have HKL : Hid ((enc (flat [])).length ≤ cost ts + 1) := by show (0 : Nat) ≤ _; omega
  have HV := Lib.hid hv
  have HC := Lib.hid hcost
  have HOK := Lib.hid hok
  have HTK := Lib.hid (tks_keep (g := g) (Ke.of_below HB0.out hst.base) htk)
  have HE := Lib.hid (hE.below HB0.out)
  have HL := Lib.hid hl
  have HS0 := Lib.hid hst
  clear hv hlow h hss hcost hok hcost2 hok2 htk htk2 hE hst hl hrb hqb hrb2 h0 h1 h5 hatv hA hbx HBLK0 hr hq hr2
  go_enter Tryz.func56, Tryz.ntmps56
  refine wp_sym (fun T => T.size = 971 ∧ Sl T 0 (.pointer (some ⟨g, 0, none⟩)) ∧ Sl T 1 (.agg #[.iface 84 (.pointer (some ⟨r, 0, none⟩)), .int .i32 0]) ∧ Sl T 2 (.int .i32 0) ∧ Sl T 3 (.bool false)) ⟨rfl, rfl, rfl, rfl, rfl⟩ ?_
  rintro F0 ⟨hsz, h0, h1, h2, h3⟩
  have T0 := Lib.hid h0
  have t0 := h0.get
  clear h0
  have T1 := Lib.hid h1
  have t1 := h1.get
  clear h1
  have T2 := Lib.hid h2
  have t2 := h2.get
  clear h2
  have T3 := Lib.hid h3
  have t3 := h3.get
  clear h3
  go_upto_region 1 with (first | ((with_reducible refine wp_cond_w ?_); (conv => arg 1; simp [Act.eval, *]); first | refine condW_t ?_ | refine condW_f ?_) | ((with_reducible refine wpList_skip ?hw ?_); (case hw => simp [Region.wanted, yielded, Act.put, undef, hsz])))
  obtain ⟨bx, hbe⟩ : ∃ bx, w.heap.size = bx := ⟨_, rfl⟩
  have b0 := cell_blk HBX.out 0
  have b1 := cell_blk HBX.out 1
  generalize hW : w.alloc (.cells #[.iface 84 (.pointer (some ⟨r, 0, none⟩)), .int .i32 0] 81) = W at HPX HR HBLK HTK HE c0 c1 c2 hlim hmini hmaps b0 b1 HB0 HBX ⊢
  rw [hbe] at b0 b1 HBX HGX ⊢
  clear hW hbe
  have z172 := as84_172 (.pointer (some ⟨r, 0, none⟩))
  have z183 := as84_183 (.pointer (some ⟨r, 0, none⟩))
  have z189 := as84_189 (.pointer (some ⟨r, 0, none⟩))
  have z220 := as84_220 (.pointer (some ⟨r, 0, none⟩))
  have z235 := as84_235 (.pointer (some ⟨r, 0, none⟩))
  have z87 := as84_87 (.pointer (some ⟨r, 0, none⟩))
  have z179 := as84_179 (.pointer (some ⟨r, 0, none⟩))
  have z84 := as84_84 (.pointer (some ⟨r, 0, none⟩))
  go_upto_region 24 with (first | ((with_reducible refine wp_cond_w ?_); (conv => arg 1; simp [Act.eval, *]); first | refine condW_t ?_ | refine condW_f ?_) | ((with_reducible refine wpList_skip ?hw ?_); (case hw => simp [Region.wanted, yielded, Act.put, undef, hsz])))
  clear z172 hlim hmaps
  cases mini
  · go_upto_region 150 with (first | ((with_reducible refine wp_cond_w ?_); (conv => arg 1; simp [Act.eval, *]); first | refine condW_t ?_ | refine condW_f ?_) | ((with_reducible refine wpList_skip ?hw ?_); (case hw => simp [Region.wanted, yielded, Act.put, undef, hsz])) | (go_at_call 75; go_must (refine (print1_any _ g false asc _ _ _ HPX.out.st (by have h8 := HL.out; have h7 := HKL.out; (try simp only [List.length_append, List.length_cons, List.length_nil, List.length_replicate]); omega)).mono ?_; rintro e' w2 ⟨rfl, hp2⟩; have HPX := Lib.hid (HPX.out.trans hp2); clear hp2; obtain ⟨c0, c1, c2⟩ := HR.out _ HPX.out.ke; obtain ⟨vv, hatv⟩ := HPX.out.st.at_; have hmini := hatv.pr.mini; clear hatv; have b0 := cell_blk (ke_blk HPX.out.ke HBX.out (by decide) HGX.out) 0)) | (go_at_call 80; go_must (refine (printTokens_pre (F := F) g false asc (cost ts + 1) ts _ _ _ (by omega) HC.out HOK.out (tks_keep HPX.out.ke HTK.out) (HE.out.ke HPX.out.ke) HPX.out.st (by have h8 := HL.out; have h7 := HKL.out; (try simp only [List.length_append, List.length_cons, List.length_nil, List.length_replicate]); omega)).mono ?_; rintro e' w2 ⟨hasT, cl, rfl, hpr, hcl, hp2⟩; have HPR := Lib.hid hpr; have HKL := Lib.hid hcl; clear hpr hcl; have HPX := Lib.hid (HPX.out.trans hp2); clear hp2; obtain ⟨c0, c1, c2⟩ := HR.out _ HPX.out.ke; obtain ⟨vv, hatv⟩ := HPX.out.st.at_; have hmini := hatv.pr.mini; clear hatv; have b0 := cell_blk (ke_blk HPX.out.ke HBX.out (by decide) HGX.out) 0)) | (go_at_call 74; go_must (refine (printIndent_any _ g false asc 0 (by omega) _ _ HPX.out.st (by have h8 := HL.out; have h7 := HKL.out; (try simp only [List.length_append, List.length_cons, List.length_nil, List.length_replicate]); omega)).mono ?_; rintro e' w2 ⟨rfl, hp2⟩; rw [show List.replicate (2 * 0) (32 : UInt8) = [] from rfl, List.append_nil] at hp2; have HPX := Lib.hid (HPX.out.trans hp2); clear hp2; obtain ⟨c0, c1, c2⟩ := HR.out _ HPX.out.ke; obtain ⟨vv, hatv⟩ := HPX.out.st.at_; have hmini := hatv.pr.mini; clear hatv; have b0 := cell_blk (ke_blk HPX.out.ke HBX.out (by decide) HGX.out) 0)))
    cases hasT
    · go_upto_region 152 with (first | ((with_reducible refine wp_cond_w ?_); (conv => arg 1; simp [Act.eval, *]); first | refine condW_t ?_ | refine condW_f ?_) | ((with_reducible refine wpList_skip ?hw ?_); (case hw => simp [Region.wanted, yielded, Act.put, undef, hsz])) | (go_at_call 75; go_must (refine (print1_any _ g false asc _ _ _ HPX.out.st (by have h8 := HL.out; have h7 := HKL.out; (try simp only [List.length_append, List.length_cons, List.length_nil, List.length_replicate]); omega)).mono ?_; rintro e' w2 ⟨rfl, hp2⟩; have HPX := Lib.hid (HPX.out.trans hp2); clear hp2; obtain ⟨c0, c1, c2⟩ := HR.out _ HPX.out.ke; obtain ⟨vv, hatv⟩ := HPX.out.st.at_; have hmini := hatv.pr.mini; clear hatv; have b0 := cell_blk (ke_blk HPX.out.ke HBX.out (by decide) HGX.out) 0)) | (go_at_call 80; go_must (refine (printTokens_pre (F := F) g false asc (cost ts + 1) ts _ _ _ (by omega) HC.out HOK.out (tks_keep HPX.out.ke HTK.out) (HE.out.ke HPX.out.ke) HPX.out.st (by have h8 := HL.out; have h7 := HKL.out; (try simp only [List.length_append, List.length_cons, List.length_nil, List.length_replicate]); omega)).mono ?_; rintro e' w2 ⟨hasT, cl, rfl, hpr, hcl, hp2⟩; have HPR := Lib.hid hpr; have HKL := Lib.hid hcl; clear hpr hcl; have HPX := Lib.hid (HPX.out.trans hp2); clear hp2; obtain ⟨c0, c1, c2⟩ := HR.out _ HPX.out.ke; obtain ⟨vv, hatv⟩ := HPX.out.st.at_; have hmini := hatv.pr.mini; clear hatv; have b0 := cell_blk (ke_blk HPX.out.ke HBX.out (by decide) HGX.out) 0)) | (go_at_call 74; go_must (refine (printIndent_any _ g false asc 0 (by omega) _ _ HPX.out.st (by have h8 := HL.out; have h7 := HKL.out; (try simp only [List.length_append, List.length_cons, List.length_nil, List.length_replicate]); omega)).mono ?_; rintro e' w2 ⟨rfl, hp2⟩; rw [show List.replicate (2 * 0) (32 : UInt8) = [] from rfl, List.append_nil] at hp2; have HPX := Lib.hid (HPX.out.trans hp2); clear hp2; obtain ⟨c0, c1, c2⟩ := HR.out _ HPX.out.ke; obtain ⟨vv, hatv⟩ := HPX.out.st.at_; have hmini := hatv.pr.mini; clear hatv; have b0 := cell_blk (ke_blk HPX.out.ke HBX.out (by decide) HGX.out) 0)))
      go_region_with ((go_at_call 84; refine (HBLK.out _ _ _ HPX.out (Below.refl _ _).drew (by have h8 := HL.out; have h7 := HKL.out; (try simp only [List.length_append, List.length_cons, List.length_nil, List.length_replicate]); omega)).mono ?_; rintro e' w2 ⟨rfl, out, hX, hp2⟩; have HX := Lib.hid hX; clear hX; have HPX := Lib.hid (HPX.out.trans hp2); clear hp2; obtain ⟨c0, c1, c2⟩ := HR.out _ HPX.out.ke; obtain ⟨vv, hatv⟩ := HPX.out.st.at_; have hmini := hatv.pr.mini; clear hatv; have b0 := cell_blk (ke_blk HPX.out.ke HBX.out (by decide) HGX.out) 0))
      all_goals
        have HXL : Hid (out.length ≤ 16 * nm.length + cost vs + 100) := xlen HV.out HX.out
        go_upto_region 999 with (first | ((with_reducible refine wp_cond_w ?_); (conv => arg 1; simp [Act.eval, *]); first | refine condW_t ?_ | refine condW_f ?_) | ((with_reducible refine wpList_skip ?hw ?_); (case hw => simp [Region.wanted, yielded, Act.put, undef, hsz])) | (go_at_call 75; go_must (refine (print1_any _ g false asc _ _ _ HPX.out.st (by have h8 := HL.out; have h7 := HKL.out; have h6 := HXL.out; have h5 : (if false = true then ([123] : List UInt8) else [123, 10]).length ≤ 2 := (by decide); (try simp only [List.length_append, List.length_cons, List.length_nil, List.length_replicate]); omega)).mono ?_; rintro e' w2 ⟨rfl, hp2⟩; have HPX := Lib.hid (HPX.out.trans hp2); clear hp2; obtain ⟨c0, c1, c2⟩ := HR.out _ HPX.out.ke; obtain ⟨vv, hatv⟩ := HPX.out.st.at_; have hmini := hatv.pr.mini; clear hatv; have b0 := cell_blk (ke_blk HPX.out.ke HBX.out (by decide) HGX.out) 0)))
        go_end0
        obtain ⟨vl, x1, x2, x3⟩ := HX.out
        refine ⟨rfl, cl, false, vl, HPR.out, HKL.out, x1, x2, ?_⟩
        rw [rule_bytes]
        rw [x3] at HPX
        simpa [List.append_assoc, enc] using Put.of_below HS0.out HB0.out HPX.out
    · go_upto_region 152 with (first | ((with_reducible refine wp_cond_w ?_); (conv => arg 1; simp [Act.eval, *]); first | refine condW_t ?_ | refine condW_f ?_) | ((with_reducible refine wpList_skip ?hw ?_); (case hw => simp [Region.wanted, yielded, Act.put, undef, hsz])) | (go_at_call 75; go_must (refine (print1_any _ g false asc _ _ _ HPX.out.st (by have h8 := HL.out; have h7 := HKL.out; (try simp only [List.length_append, List.length_cons, List.length_nil, List.length_replicate]); omega)).mono ?_; rintro e' w2 ⟨rfl, hp2⟩; have HPX := Lib.hid (HPX.out.trans hp2); clear hp2; obtain ⟨c0, c1, c2⟩ := HR.out _ HPX.out.ke; obtain ⟨vv, hatv⟩ := HPX.out.st.at_; have hmini := hatv.pr.mini; clear hatv; have b0 := cell_blk (ke_blk HPX.out.ke HBX.out (by decide) HGX.out) 0)) | (go_at_call 80; go_must (refine (printTokens_pre (F := F) g false asc (cost ts + 1) ts _ _ _ (by omega) HC.out HOK.out (tks_keep HPX.out.ke HTK.out) (HE.out.ke HPX.out.ke) HPX.out.st (by have h8 := HL.out; have h7 := HKL.out; (try simp only [List.length_append, List.length_cons, List.length_nil, List.length_replicate]); omega)).mono ?_; rintro e' w2 ⟨hasT, cl, rfl, hpr, hcl, hp2⟩; have HPR := Lib.hid hpr; have HKL := Lib.hid hcl; clear hpr hcl; have HPX := Lib.hid (HPX.out.trans hp2); clear hp2; obtain ⟨c0, c1, c2⟩ := HR.out _ HPX.out.ke; obtain ⟨vv, hatv⟩ := HPX.out.st.at_; have hmini := hatv.pr.mini; clear hatv; have b0 := cell_blk (ke_blk HPX.out.ke HBX.out (by decide) HGX.out) 0)) | (go_at_call 74; go_must (refine (printIndent_any _ g false asc 0 (by omega) _ _ HPX.out.st (by have h8 := HL.out; have h7 := HKL.out; (try simp only [List.length_append, List.length_cons, List.length_nil, List.length_replicate]); omega)).mono ?_; rintro e' w2 ⟨rfl, hp2⟩; rw [show List.replicate (2 * 0) (32 : UInt8) = [] from rfl, List.append_nil] at hp2; have HPX := Lib.hid (HPX.out.trans hp2); clear hp2; obtain ⟨c0, c1, c2⟩ := HR.out _ HPX.out.ke; obtain ⟨vv, hatv⟩ := HPX.out.st.at_; have hmini := hatv.pr.mini; clear hatv; have b0 := cell_blk (ke_blk HPX.out.ke HBX.out (by decide) HGX.out) 0)))
      go_region_with ((go_at_call 84; refine (HBLK.out _ _ _ HPX.out (Below.refl _ _).drew (by have h8 := HL.out; have h7 := HKL.out; (try simp only [List.length_append, List.length_cons, List.length_nil, List.length_replicate]); omega)).mono ?_; rintro e' w2 ⟨rfl, out, hX, hp2⟩; have HX := Lib.hid hX; clear hX; have HPX := Lib.hid (HPX.out.trans hp2); clear hp2; obtain ⟨c0, c1, c2⟩ := HR.out _ HPX.out.ke; obtain ⟨vv, hatv⟩ := HPX.out.st.at_; have hmini := hatv.pr.mini; clear hatv; have b0 := cell_blk (ke_blk HPX.out.ke HBX.out (by decide) HGX.out) 0))
      all_goals
        have HXL : Hid (out.length ≤ 16 * nm.length + cost vs + 100) := xlen HV.out HX.out
        go_upto_region 999 with (first | ((with_reducible refine wp_cond_w ?_); (conv => arg 1; simp [Act.eval, *]); first | refine condW_t ?_ | refine condW_f ?_) | ((with_reducible refine wpList_skip ?hw ?_); (case hw => simp [Region.wanted, yielded, Act.put, undef, hsz])) | (go_at_call 75; go_must (refine (print1_any _ g false asc _ _ _ HPX.out.st (by have h8 := HL.out; have h7 := HKL.out; have h6 := HXL.out; have h5 : (if false = true then ([123] : List UInt8) else [123, 10]).length ≤ 2 := (by decide); (try simp only [List.length_append, List.length_cons, List.length_nil, List.length_replicate]); omega)).mono ?_; rintro e' w2 ⟨rfl, hp2⟩; have HPX := Lib.hid (HPX.out.trans hp2); clear hp2; obtain ⟨c0, c1, c2⟩ := HR.out _ HPX.out.ke; obtain ⟨vv, hatv⟩ := HPX.out.st.at_; have hmini := hatv.pr.mini; clear hatv; have b0 := cell_blk (ke_blk HPX.out.ke HBX.out (by decide) HGX.out) 0)))
        go_end0
        obtain ⟨vl, x1, x2, x3⟩ := HX.out
        refine ⟨rfl, cl, true, vl, HPR.out, HKL.out, x1, x2, ?_⟩
        rw [rule_bytes]
        rw [x3] at HPX
        simpa [List.append_assoc, enc] using Put.of_below HS0.out HB0.out HPX.out
  · go_upto_region 150 with (first | ((with_reducible refine wp_cond_w ?_); (conv => arg 1; simp [Act.eval, *]); first | refine condW_t ?_ | refine condW_f ?_) | ((with_reducible refine wpList_skip ?hw ?_); (case hw => simp [Region.wanted, yielded, Act.put, undef, hsz])) | (go_at_call 75; go_must (refine (print1_any _ g true asc _ _ _ HPX.out.st (by have h8 := HL.out; have h7 := HKL.out; (try simp only [List.length_append, List.length_cons, List.length_nil, List.length_replicate]); omega)).mono ?_; rintro e' w2 ⟨rfl, hp2⟩; have HPX := Lib.hid (HPX.out.trans hp2); clear hp2; obtain ⟨c0, c1, c2⟩ := HR.out _ HPX.out.ke; obtain ⟨vv, hatv⟩ := HPX.out.st.at_; have hmini := hatv.pr.mini; clear hatv; have b0 := cell_blk (ke_blk HPX.out.ke HBX.out (by decide) HGX.out) 0)) | (go_at_call 80; go_must (refine (printTokens_pre (F := F) g true asc (cost ts + 1) ts _ _ _ (by omega) HC.out HOK.out (tks_keep HPX.out.ke HTK.out) (HE.out.ke HPX.out.ke) HPX.out.st (by have h8 := HL.out; have h7 := HKL.out; (try simp only [List.length_append, List.length_cons, List.length_nil, List.length_replicate]); omega)).mono ?_; rintro e' w2 ⟨hasT, cl, rfl, hpr, hcl, hp2⟩; have HPR := Lib.hid hpr; have HKL := Lib.hid hcl; clear hpr hcl; have HPX := Lib.hid (HPX.out.trans hp2); clear hp2; obtain ⟨c0, c1, c2⟩ := HR.out _ HPX.out.ke; obtain ⟨vv, hatv⟩ := HPX.out.st.at_; have hmini := hatv.pr.mini; clear hatv; have b0 := cell_blk (ke_blk HPX.out.ke HBX.out (by decide) HGX.out) 0)) | (go_at_call 74; go_must (refine (printIndent_any _ g true asc 0 (by omega) _ _ HPX.out.st (by have h8 := HL.out; have h7 := HKL.out; (try simp only [List.length_append, List.length_cons, List.length_nil, List.length_replicate]); omega)).mono ?_; rintro e' w2 ⟨rfl, hp2⟩; rw [show List.replicate (2 * 0) (32 : UInt8) = [] from rfl, List.append_nil] at hp2; have HPX := Lib.hid (HPX.out.trans hp2); clear hp2; obtain ⟨c0, c1, c2⟩ := HR.out _ HPX.out.ke; obtain ⟨vv, hatv⟩ := HPX.out.st.at_; have hmini := hatv.pr.mini; clear hatv; have b0 := cell_blk (ke_blk HPX.out.ke HBX.out (by decide) HGX.out) 0)))
    cases hasT
    · go_upto_region 152 with (first | ((with_reducible refine wp_cond_w ?_); (conv => arg 1; simp [Act.eval, *]); first | refine condW_t ?_ | refine condW_f ?_) | ((with_reducible refine wpList_skip ?hw ?_); (case hw => simp [Region.wanted, yielded, Act.put, undef, hsz])) | (go_at_call 75; go_must (refine (print1_any _ g true asc _ _ _ HPX.out.st (by have h8 := HL.out; have h7 := HKL.out; (try simp only [List.length_append, List.length_cons, List.length_nil, List.length_replicate]); omega)).mono ?_; rintro e' w2 ⟨rfl, hp2⟩; have HPX := Lib.hid (HPX.out.trans hp2); clear hp2; obtain ⟨c0, c1, c2⟩ := HR.out _ HPX.out.ke; obtain ⟨vv, hatv⟩ := HPX.out.st.at_; have hmini := hatv.pr.mini; clear hatv; have b0 := cell_blk (ke_blk HPX.out.ke HBX.out (by decide) HGX.out) 0)) | (go_at_call 80; go_must (refine (printTokens_pre (F := F) g true asc (cost ts + 1) ts _ _ _ (by omega) HC.out HOK.out (tks_keep HPX.out.ke HTK.out) (HE.out.ke HPX.out.ke) HPX.out.st (by have h8 := HL.out; have h7 := HKL.out; (try simp only [List.length_append, List.length_cons, List.length_nil, List.length_replicate]); omega)).mono ?_; rintro e' w2 ⟨hasT, cl, rfl, hpr, hcl, hp2⟩; have HPR := Lib.hid hpr; have HKL := Lib.hid hcl; clear hpr hcl; have HPX := Lib.hid (HPX.out.trans hp2); clear hp2; obtain ⟨c0, c1, c2⟩ := HR.out _ HPX.out.ke; obtain ⟨vv, hatv⟩ := HPX.out.st.at_; have hmini := hatv.pr.mini; clear hatv; have b0 := cell_blk (ke_blk HPX.out.ke HBX.out (by decide) HGX.out) 0)) | (go_at_call 74; go_must (refine (printIndent_any _ g true asc 0 (by omega) _ _ HPX.out.st (by have h8 := HL.out; have h7 := HKL.out; (try simp only [List.length_append, List.length_cons, List.length_nil, List.length_replicate]); omega)).mono ?_; rintro e' w2 ⟨rfl, hp2⟩; rw [show List.replicate (2 * 0) (32 : UInt8) = [] from rfl, List.append_nil] at hp2; have HPX := Lib.hid (HPX.out.trans hp2); clear hp2; obtain ⟨c0, c1, c2⟩ := HR.out _ HPX.out.ke; obtain ⟨vv, hatv⟩ := HPX.out.st.at_; have hmini := hatv.pr.mini; clear hatv; have b0 := cell_blk (ke_blk HPX.out.ke HBX.out (by decide) HGX.out) 0)))
      go_region_with ((go_at_call 84; refine (HBLK.out _ _ _ HPX.out (Below.refl _ _).drew (by have h8 := HL.out; have h7 := HKL.out; (try simp only [List.length_append, List.length_cons, List.length_nil, List.length_replicate]); omega)).mono ?_; rintro e' w2 ⟨rfl, out, hX, hp2⟩; have HX := Lib.hid hX; clear hX; have HPX := Lib.hid (HPX.out.trans hp2); clear hp2; obtain ⟨c0, c1, c2⟩ := HR.out _ HPX.out.ke; obtain ⟨vv, hatv⟩ := HPX.out.st.at_; have hmini := hatv.pr.mini; clear hatv; have b0 := cell_blk (ke_blk HPX.out.ke HBX.out (by decide) HGX.out) 0))
      all_goals
        have HXL : Hid (out.length ≤ 16 * nm.length + cost vs + 100) := xlen HV.out HX.out
        go_upto_region 999 with (first | ((with_reducible refine wp_cond_w ?_); (conv => arg 1; simp [Act.eval, *]); first | refine condW_t ?_ | refine condW_f ?_) | ((with_reducible refine wpList_skip ?hw ?_); (case hw => simp [Region.wanted, yielded, Act.put, undef, hsz])) | (go_at_call 75; go_must (refine (print1_any _ g true asc _ _ _ HPX.out.st (by have h8 := HL.out; have h7 := HKL.out; have h6 := HXL.out; have h5 : (if true = true then ([123] : List UInt8) else [123, 10]).length ≤ 2 := (by decide); (try simp only [List.length_append, List.length_cons, List.length_nil, List.length_replicate]); omega)).mono ?_; rintro e' w2 ⟨rfl, hp2⟩; have HPX := Lib.hid (HPX.out.trans hp2); clear hp2; obtain ⟨c0, c1, c2⟩ := HR.out _ HPX.out.ke; obtain ⟨vv, hatv⟩ := HPX.out.st.at_; have hmini := hatv.pr.mini; clear hatv; have b0 := cell_blk (ke_blk HPX.out.ke HBX.out (by decide) HGX.out) 0)))
        go_end0
        obtain ⟨vl, x1, x2, x3⟩ := HX.out
        refine ⟨rfl, cl, false, vl, HPR.out, HKL.out, x1, x2, ?_⟩
        rw [rule_bytes]
        rw [x3] at HPX
        simpa [List.append_assoc, enc] using Put.of_below HS0.out HB0.out HPX.out
    · go_upto_region 152 with (first | ((with_reducible refine wp_cond_w ?_); (conv => arg 1; simp [Act.eval, *]); first | refine condW_t ?_ | refine condW_f ?_) | ((with_reducible refine wpList_skip ?hw ?_); (case hw => simp [Region.wanted, yielded, Act.put, undef, hsz])) | (go_at_call 75; go_must (refine (print1_any _ g true asc _ _ _ HPX.out.st (by have h8 := HL.out; have h7 := HKL.out; (try simp only [List.length_append, List.length_cons, List.length_nil, List.length_replicate]); omega)).mono ?_; rintro e' w2 ⟨rfl, hp2⟩; have HPX := Lib.hid (HPX.out.trans hp2); clear hp2; obtain ⟨c0, c1, c2⟩ := HR.out _ HPX.out.ke; obtain ⟨vv, hatv⟩ := HPX.out.st.at_; have hmini := hatv.pr.mini; clear hatv; have b0 := cell_blk (ke_blk HPX.out.ke HBX.out (by decide) HGX.out) 0)) | (go_at_call 80; go_must (refine (printTokens_pre (F := F) g true asc (cost ts + 1) ts _ _ _ (by omega) HC.out HOK.out (tks_keep HPX.out.ke HTK.out) (HE.out.ke HPX.out.ke) HPX.out.st (by have h8 := HL.out; have h7 := HKL.out; (try simp only [List.length_append, List.length_cons, List.length_nil, List.length_replicate]); omega)).mono ?_; rintro e' w2 ⟨hasT, cl, rfl, hpr, hcl, hp2⟩; have HPR := Lib.hid hpr; have HKL := Lib.hid hcl; clear hpr hcl; have HPX := Lib.hid (HPX.out.trans hp2); clear hp2; obtain ⟨c0, c1, c2⟩ := HR.out _ HPX.out.ke; obtain ⟨vv, hatv⟩ := HPX.out.st.at_; have hmini := hatv.pr.mini; clear hatv; have b0 := cell_blk (ke_blk HPX.out.ke HBX.out (by decide) HGX.out) 0)) | (go_at_call 74; go_must (refine (printIndent_any _ g true asc 0 (by omega) _ _ HPX.out.st (by have h8 := HL.out; have h7 := HKL.out; (try simp only [List.length_append, List.length_cons, List.length_nil, List.length_replicate]); omega)).mono ?_; rintro e' w2 ⟨rfl, hp2⟩; rw [show List.replicate (2 * 0) (32 : UInt8) = [] from rfl, List.append_nil] at hp2; have HPX := Lib.hid (HPX.out.trans hp2); clear hp2; obtain ⟨c0, c1, c2⟩ := HR.out _ HPX.out.ke; obtain ⟨vv, hatv⟩ := HPX.out.st.at_; have hmini := hatv.pr.mini; clear hatv; have b0 := cell_blk (ke_blk HPX.out.ke HBX.out (by decide) HGX.out) 0)))
      go_region_with ((go_at_call 84; refine (HBLK.out _ _ _ HPX.out (Below.refl _ _).drew (by have h8 := HL.out; have h7 := HKL.out; (try simp only [List.length_append, List.length_cons, List.length_nil, List.length_replicate]); omega)).mono ?_; rintro e' w2 ⟨rfl, out, hX, hp2⟩; have HX := Lib.hid hX; clear hX; have HPX := Lib.hid (HPX.out.trans hp2); clear hp2; obtain ⟨c0, c1, c2⟩ := HR.out _ HPX.out.ke; obtain ⟨vv, hatv⟩ := HPX.out.st.at_; have hmini := hatv.pr.mini; clear hatv; have b0 := cell_blk (ke_blk HPX.out.ke HBX.out (by decide) HGX.out) 0))
      all_goals
        have HXL : Hid (out.length ≤ 16 * nm.length + cost vs + 100) := xlen HV.out HX.out
        go_upto_region 999 with (first | ((with_reducible refine wp_cond_w ?_); (conv => arg 1; simp [Act.eval, *]); first | refine condW_t ?_ | refine condW_f ?_) | ((with_reducible refine wpList_skip ?hw ?_); (case hw => simp [Region.wanted, yielded, Act.put, undef, hsz])) | (go_at_call 75; go_must (refine (print1_any _ g true asc _ _ _ HPX.out.st (by have h8 := HL.out; have h7 := HKL.out; have h6 := HXL.out; have h5 : (if true = true then ([123] : List UInt8) else [123, 10]).length ≤ 2 := (by decide); (try simp only [List.length_append, List.length_cons, List.length_nil, List.length_replicate]); omega)).mono ?_; rintro e' w2 ⟨rfl, hp2⟩; have HPX := Lib.hid (HPX.out.trans hp2); clear hp2; obtain ⟨c0, c1, c2⟩ := HR.out _ HPX.out.ke; obtain ⟨vv, hatv⟩ := HPX.out.st.at_; have hmini := hatv.pr.mini; clear hatv; have b0 := cell_blk (ke_blk HPX.out.ke HBX.out (by decide) HGX.out) 0)))
        go_end0
        obtain ⟨vl, x1, x2, x3⟩ := HX.out
        refine ⟨rfl, cl, true, vl, HPR.out, HKL.out, x1, x2, ?_⟩
        rw [rule_bytes]
        rw [x3] at HPX
        simpa [List.append_assoc, enc] using Put.of_below HS0.out HB0.out HPX.out
end Go.Proofs.YtkfdcbdlcipmfaaGreatFmt
