/- Walks: printRule, of an at-rule that is not known. -/
import Derived.Test.YtkfdcbdlcipmfaaGreatFmtH20
import Derived.Test.YtkfdcbdlcipmfaaGreatFmtH05
set_option linter.unusedVariables false
set_option linter.unusedSimpArgs false
namespace Go.Proofs.YtkfdcbdlcipmfaaGreatFmt
open Go.RowKit Css
variable {F : Go.Stop.Interp} {W0 : World}
def RetAtRule (B g : Nat) (mini asc : Bool) (nm : List Int) (ts : List T) (bs : List UInt8) (w : World) (e : Ending) (w' : World) : Prop :=
  e = .returned (.tuple #[]) ∧ ∃ cl, Prints asc ts (headBefore ts) cl ∧ (enc (flat cl)).length ≤ cost ts + 1 ∧ Put B g mini asc (bs ++ enc (flat (atCh asc mini nm ts cl))) w w'
theorem flat_wsT (w : List Int) : flat (wsIf true w) = w := by simp [wsIf]
theorem flat_wsF (w : List Int) : flat (wsIf false w) = [] := by simp [wsIf]
theorem at_bytes (asc mini : Bool) (nm : List Int) (ts : List T) (cl : List Ch) : enc (flat (atCh asc mini nm ts cl)) = [64] ++ enc (ident asc (!ts.isEmpty) 0 nm) ++ (if ts.isEmpty then [] else [32]) ++ enc (flat cl) ++ [59] ++ (if mini then [] else [10]) := by
  unfold atCh
  cases mini <;> cases ts.isEmpty <;> simp [flat_append, enc_append, flat_wsT, flat_wsF, enc_cons] <;> rfl
theorem assert_no {P : Program} {t a e xT : TypeId} {v z : Value} (hu : P.underlying a = some (.pointer e)) (hz : (P.info? a).map (·.zero) = some (some z)) (hne : t ≠ a) (w : World) : (Instr.typeAssert (.iface t v) xT a true).run P w = .ok (.tuple #[z, .bool false]) w := by
  obtain ⟨j, hj, hz'⟩ := Option.map_eq_some_iff.1 hz
  simp [Instr.typeAssert, run_underlying hu, zeroValue, typeInfo, hj, hz', hne]
theorem assert_yes {P : Program} {a e xT : TypeId} {v : Value} (hu : P.underlying a = some (.pointer e)) (w : World) : (Instr.typeAssert (.iface a v) xT a true).run P w = .ok (.tuple #[v, .bool true]) w := by
  simp [Instr.typeAssert, run_underlying hu]
theorem as87_172 (v : Value) (w : World) : (Instr.typeAssert (.iface 87 v) 79 172 true).run Tryz.prog w = .ok (.tuple #[.pointer none, .bool false]) w := assert_no Tryz.underlying172 (by kernel_rfl) (by decide) w
theorem as87_179 (v : Value) (w : World) : (Instr.typeAssert (.iface 87 v) 79 179 true).run Tryz.prog w = .ok (.tuple #[.pointer none, .bool false]) w := assert_no Tryz.underlying179 (by kernel_rfl) (by decide) w
theorem as87_84 (v : Value) (w : World) : (Instr.typeAssert (.iface 87 v) 79 84 true).run Tryz.prog w = .ok (.tuple #[.pointer none, .bool false]) w := assert_no Tryz.underlying84 (by kernel_rfl) (by decide) w
theorem as87_180 (v : Value) (w : World) : (Instr.typeAssert (.iface 87 v) 79 180 true).run Tryz.prog w = .ok (.tuple #[.pointer none, .bool false]) w := assert_no Tryz.underlying180 (by kernel_rfl) (by decide) w
theorem as87_183 (v : Value) (w : World) : (Instr.typeAssert (.iface 87 v) 79 183 true).run Tryz.prog w = .ok (.tuple #[.pointer none, .bool false]) w := assert_no Tryz.underlying183 (by kernel_rfl) (by decide) w
theorem as87_189 (v : Value) (w : World) : (Instr.typeAssert (.iface 87 v) 79 189 true).run Tryz.prog w = .ok (.tuple #[.pointer none, .bool false]) w := assert_no Tryz.underlying189 (by kernel_rfl) (by decide) w
theorem as87_220 (v : Value) (w : World) : (Instr.typeAssert (.iface 87 v) 79 220 true).run Tryz.prog w = .ok (.tuple #[.pointer none, .bool false]) w := assert_no Tryz.underlying220 (by kernel_rfl) (by decide) w
theorem as87_235 (v : Value) (w : World) : (Instr.typeAssert (.iface 87 v) 79 235 true).run Tryz.prog w = .ok (.tuple #[.pointer none, .bool false]) w := assert_no Tryz.underlying235 (by kernel_rfl) (by decide) w
theorem as87_87 (v : Value) (w : World) : (Instr.typeAssert (.iface 87 v) 79 87 true).run Tryz.prog w = .ok (.tuple #[v, .bool true]) w := assert_yes Tryz.underlying87 w
set_option maxHeartbeats 40000000 in
set_option maxRecDepth 100000 in
theorem printRule_at (g r : Nat) (mini asc : Bool) (nm : List Int) (hv : AllV nm) (hlow : asc = true → ∀ c ∈ nm, c < 1048576) (s : ByteArray) (h : s.data.toList = enc nm) (hss : s.size ≤ 2147483647) (ts : List T) (v : Value) (w : World) (bs : List UInt8) (hcost : cost ts ≤ 134217728) (hok : OKl asc ts)
    (htk : TksAt w (fun b => b < W0.heap.size) v ts) (hE : Env F W0 w) (hst : St W0.heap.size g mini asc bs w) (hl : bs.length + 16 * nm.length + cost ts + 2097152 ≤ 140737488355328)
    (hr : r < W0.heap.size) (cr : Array Value) (T : TypeId) (hrb : w.heap[r]? = some (.cells cr T (0, 0))) (h0 : cr[0]? = some (.string s)) (h1 : cr[1]? = some v) (h2 : cr[2]? = some (.slice none 0 0)) :
    Calls Tryz.prog 56 #[.pointer (some ⟨g, 0, none⟩), .agg #[.iface 87 (.pointer (some ⟨r, 0, none⟩)), .int .i32 0], .int .i32 0, .bool false] w (RetAtRule W0.heap.size g mini asc nm ts bs w) := by
  obtain ⟨A, c, hve, hA⟩ := htk
  subst hve
  have htk : TksAt w (fun b => b < W0.heap.size) (.slice A ts.length c) ts := ⟨A, c, rfl, hA⟩
  have HB0 := Lib.hid (box_below (.cells #[.iface 87 (.pointer (some ⟨r, 0, none⟩)), .int .i32 0] 81) w)
  have HPX : Hid (Put W0.heap.size g mini asc bs (w.alloc (.cells #[.iface 87 (.pointer (some ⟨r, 0, none⟩)), .int .i32 0] 81)) (w.alloc (.cells #[.iface 87 (.pointer (some ⟨r, 0, none⟩)), .int .i32 0] 81))) := Put.refl' (hst.grow HB0.out)
  have HR : Hid (∀ w', Ke W0.heap.size g (w.alloc (.cells #[.iface 87 (.pointer (some ⟨r, 0, none⟩)), .int .i32 0] 81)) w' → w'.cell? ⟨r, 0, none⟩ = some (.string s) ∧ w'.cell? ⟨r, 1, none⟩ = some (.slice A ts.length c) ∧ w'.cell? ⟨r, 2, none⟩ = some (.slice none 0 0)) := fun w' hk => by
    have e : w'.heap[r]? = some (.cells cr T (0, 0)) := (hk.low r hr).trans (blk_below HB0.out hrb)
    exact ⟨(cell_blk e 0).trans h0, (cell_blk e 1).trans h1, (cell_blk e 2).trans h2⟩
  obtain ⟨c0, c1, c2⟩ := HR.out _ HPX.out.ke
  obtain ⟨vv, hatv⟩ := HPX.out.st.at_
  have hlim := hatv.pr.lim
  have hmini := hatv.pr.mini
  have hmaps := hatv.pr.maps
  have hbx : (w.alloc (.cells #[.iface 87 (.pointer (some ⟨r, 0, none⟩)), .int .i32 0] 81)).heap[w.heap.size]? = some (.cells #[.iface 87 (.pointer (some ⟨r, 0, none⟩)), .int .i32 0] 81 (0, 0)) := heap_alloc_new w _
  have HBX := Lib.hid hbx
  have HGX : Hid (w.heap.size ≠ g) := by obtain ⟨⟨v, hp, _⟩, _⟩ := hst; have := hp.lt; show _ ≠ _; omega
  have HIL : Hid (∀ may, (enc (ident asc may 0 nm)).length ≤ 16 * nm.length) := fun may => ident_len hv
  have HKL : Hid ((enc (flat [])).length ≤ cost ts + 1) := by show (0 : Nat) ≤ _; omega
  have HV := Lib.hid hv
  have HLOW := Lib.hid hlow
  have HH := Lib.hid h
  have HSS := Lib.hid hss
  have HC := Lib.hid hcost
  have HOK := Lib.hid hok
  have HTK := Lib.hid (tks_keep (g := g) (Ke.of_below HB0.out hst.base) htk)
  have HE := Lib.hid (hE.below HB0.out)
  have HL := Lib.hid hl
  have HS0 := Lib.hid hst
  clear hv hlow h hss hcost hok htk hE hst hl hrb h0 h1 h2 hatv hA hbx
  go_enter Tryz.func56, Tryz.ntmps56
  refine wp_sym (fun T => T.size = 971 ∧ Sl T 0 (.pointer (some ⟨g, 0, none⟩)) ∧ Sl T 1 (.agg #[.iface 87 (.pointer (some ⟨r, 0, none⟩)), .int .i32 0]) ∧ Sl T 2 (.int .i32 0) ∧ Sl T 3 (.bool false)) ⟨rfl, rfl, rfl, rfl, rfl⟩ ?_
  rintro F0 ⟨hsz, h0, h1, h2, h3⟩
  have T0 := Lib.hid h0
  have t0 := h0.get
  clear h0
  have T1 := Lib.hid h1
  have t1 := h1.get
  clear h1
  have T2 := Lib.hid h2
  have t2 := h2.get
  clear h2
  have T3 := Lib.hid h3
  have t3 := h3.get
  clear h3
  go_upto_region 1 with (first | ((with_reducible refine wp_cond_w ?_); (conv => arg 1; simp [Act.eval, *]); first | refine condW_t ?_ | refine condW_f ?_) | ((with_reducible refine wpList_skip ?hw ?_); (case hw => simp [Region.wanted, yielded, Act.put, undef, hsz])))
  obtain ⟨bx, hbe⟩ : ∃ bx, w.heap.size = bx := ⟨_, rfl⟩
  have b0 := cell_blk HBX.out 0
  have b1 := cell_blk HBX.out 1
  generalize hW : w.alloc (.cells #[.iface 87 (.pointer (some ⟨r, 0, none⟩)), .int .i32 0] 81) = W at HPX HR HTK HE c0 c1 c2 hlim hmini hmaps b0 b1 HB0 HBX ⊢
  rw [hbe] at b0 b1 HBX HGX ⊢
  clear hW hbe
  have z172 := as87_172 (.pointer (some ⟨r, 0, none⟩))
  have z179 := as87_179 (.pointer (some ⟨r, 0, none⟩))
  have z84 := as87_84 (.pointer (some ⟨r, 0, none⟩))
  have z180 := as87_180 (.pointer (some ⟨r, 0, none⟩))
  have z183 := as87_183 (.pointer (some ⟨r, 0, none⟩))
  have z189 := as87_189 (.pointer (some ⟨r, 0, none⟩))
  have z220 := as87_220 (.pointer (some ⟨r, 0, none⟩))
  have z235 := as87_235 (.pointer (some ⟨r, 0, none⟩))
  have z87 := as87_87 (.pointer (some ⟨r, 0, none⟩))
  go_upto_region 24 with (first | ((with_reducible refine wp_cond_w ?_); (conv => arg 1; simp [Act.eval, *]); first | refine condW_t ?_ | refine condW_f ?_) | ((with_reducible refine wpList_skip ?hw ?_); (case hw => simp [Region.wanted, yielded, Act.put, undef, hsz])))
  clear z172 z179 z84 z180 hlim hmaps
  have HEM0 : Hid (ts.length = 0 → ts.isEmpty = true) := fun hn => by rw [List.length_eq_zero_iff.1 hn]; exact rfl
  have HEM1 : Hid (0 < ts.length → ts.isEmpty = false) := fun hn => by
    cases ts with
    | nil => simp at hn
    | cons a b => rfl
  generalize hnn : ts.length = n at HR HTK HEM0 HEM1 c1 ⊢
  clear hnn
  rcases Nat.eq_zero_or_pos n with hn | hn
  · subst hn
    have HEM := Lib.hid (HEM0.out rfl)
    cases mini
    · go_upto_region 999 with (first | ((with_reducible refine wp_cond_w ?_); (conv => arg 1; simp [Act.eval, *]); first | refine condW_t ?_ | refine condW_f ?_) | ((with_reducible refine wpList_skip ?hw ?_); (case hw => simp [Region.wanted, yielded, Act.put, undef, hsz])) | (go_at_call 75; go_must (refine (print1_any _ g false asc _ _ _ HPX.out.st (by have h9 := HIL.out; have h8 := HL.out; have h7 := HKL.out; have h6 := h9 true; have h5 := h9 false; (try simp only [List.length_append, List.length_cons, List.length_nil, List.length_replicate]); omega)).mono ?_; rintro e' w2 ⟨rfl, hp2⟩; have HPX := Lib.hid (HPX.out.trans hp2); clear hp2; obtain ⟨c0, c1, c2⟩ := HR.out _ HPX.out.ke; obtain ⟨vv, hatv⟩ := HPX.out.st.at_; have hmini := hatv.pr.mini; clear hatv; have b0 := cell_blk (ke_blk HPX.out.ke HBX.out (by decide) HGX.out) 0)) | (go_at_call 82; go_must (refine (printIdent_any (F := F) g false asc false 0 (by decide) (by decide) 1 rfl nm HV.out HLOW.out s HH.out _ (HE.out.ke HPX.out.ke) _ HPX.out.st HSS.out (by have e9 : Int.toNat 0 = 0 := rfl; rw [e9]; have h9 := HIL.out; have h8 := HL.out; have h7 := HKL.out; have h6 := h9 true; have h5 := h9 false; (try simp only [List.length_append, List.length_cons, List.length_nil, List.length_replicate]); omega)).mono ?_; rintro e' w2 ⟨rfl, hp2⟩; rw [show Int.toNat 0 = 0 from rfl] at hp2; have HPX := Lib.hid (HPX.out.trans hp2); clear hp2; obtain ⟨c0, c1, c2⟩ := HR.out _ HPX.out.ke; obtain ⟨vv, hatv⟩ := HPX.out.st.at_; have hmini := hatv.pr.mini; clear hatv; have b0 := cell_blk (ke_blk HPX.out.ke HBX.out (by decide) HGX.out) 0)) | (go_at_call 80; go_must (refine (printTokens_pre (F := F) g false asc (cost ts + 1) ts _ _ _ (by omega) HC.out HOK.out (tks_keep HPX.out.ke HTK.out) (HE.out.ke HPX.out.ke) HPX.out.st (by have h9 := HIL.out; have h8 := HL.out; have h7 := HKL.out; have h6 := h9 true; have h5 := h9 false; (try simp only [List.length_append, List.length_cons, List.length_nil, List.length_replicate]); omega)).mono ?_; rintro e' w2 ⟨hasT, cl, rfl, hpr, hcl, hp2⟩; have HPX := Lib.hid (HPX.out.trans hp2); have HPR := Lib.hid hpr; have HKL := Lib.hid hcl; clear hp2 hpr hcl; obtain ⟨c0, c1, c2⟩ := HR.out _ HPX.out.ke; obtain ⟨vv, hatv⟩ := HPX.out.st.at_; have hmini := hatv.pr.mini; clear hatv; have b0 := cell_blk (ke_blk HPX.out.ke HBX.out (by decide) HGX.out) 0)) | (go_at_call 74; go_must (refine (printIndent_any _ g false asc 0 (by omega) _ _ HPX.out.st (by have h9 := HIL.out; have h8 := HL.out; have h7 := HKL.out; have h6 := h9 true; have h5 := h9 false; (try simp only [List.length_append, List.length_cons, List.length_nil, List.length_replicate]); omega)).mono ?_; rintro e' w2 ⟨rfl, hp2⟩; have HPX := Lib.hid (HPX.out.trans hp2); clear hp2; obtain ⟨c0, c1, c2⟩ := HR.out _ HPX.out.ke; obtain ⟨vv, hatv⟩ := HPX.out.st.at_; have hmini := hatv.pr.mini; clear hatv; have b0 := cell_blk (ke_blk HPX.out.ke HBX.out (by decide) HGX.out) 0)))
      go_end0
      refine ⟨rfl, cl, HPR.out, HKL.out, ?_⟩
      rw [at_bytes, show ts.isEmpty = true from HEM.out]
      simpa using Put.of_below HS0.out HB0.out HPX.out
    · go_upto_region 999 with (first | ((with_reducible refine wp_cond_w ?_); (conv => arg 1; simp [Act.eval, *]); first | refine condW_t ?_ | refine condW_f ?_) | ((with_reducible refine wpList_skip ?hw ?_); (case hw => simp [Region.wanted, yielded, Act.put, undef, hsz])) | (go_at_call 75; go_must (refine (print1_any _ g true asc _ _ _ HPX.out.st (by have h9 := HIL.out; have h8 := HL.out; have h7 := HKL.out; have h6 := h9 true; have h5 := h9 false; (try simp only [List.length_append, List.length_cons, List.length_nil, List.length_replicate]); omega)).mono ?_; rintro e' w2 ⟨rfl, hp2⟩; have HPX := Lib.hid (HPX.out.trans hp2); clear hp2; obtain ⟨c0, c1, c2⟩ := HR.out _ HPX.out.ke; obtain ⟨vv, hatv⟩ := HPX.out.st.at_; have hmini := hatv.pr.mini; clear hatv; have b0 := cell_blk (ke_blk HPX.out.ke HBX.out (by decide) HGX.out) 0)) | (go_at_call 82; go_must (refine (printIdent_any (F := F) g true asc false 0 (by decide) (by decide) 1 rfl nm HV.out HLOW.out s HH.out _ (HE.out.ke HPX.out.ke) _ HPX.out.st HSS.out (by have e9 : Int.toNat 0 = 0 := rfl; rw [e9]; have h9 := HIL.out; have h8 := HL.out; have h7 := HKL.out; have h6 := h9 true; have h5 := h9 false; (try simp only [List.length_append, List.length_cons, List.length_nil, List.length_replicate]); omega)).mono ?_; rintro e' w2 ⟨rfl, hp2⟩; rw [show Int.toNat 0 = 0 from rfl] at hp2; have HPX := Lib.hid (HPX.out.trans hp2); clear hp2; obtain ⟨c0, c1, c2⟩ := HR.out _ HPX.out.ke; obtain ⟨vv, hatv⟩ := HPX.out.st.at_; have hmini := hatv.pr.mini; clear hatv; have b0 := cell_blk (ke_blk HPX.out.ke HBX.out (by decide) HGX.out) 0)) | (go_at_call 80; go_must (refine (printTokens_pre (F := F) g true asc (cost ts + 1) ts _ _ _ (by omega) HC.out HOK.out (tks_keep HPX.out.ke HTK.out) (HE.out.ke HPX.out.ke) HPX.out.st (by have h9 := HIL.out; have h8 := HL.out; have h7 := HKL.out; have h6 := h9 true; have h5 := h9 false; (try simp only [List.length_append, List.length_cons, List.length_nil, List.length_replicate]); omega)).mono ?_; rintro e' w2 ⟨hasT, cl, rfl, hpr, hcl, hp2⟩; have HPX := Lib.hid (HPX.out.trans hp2); have HPR := Lib.hid hpr; have HKL := Lib.hid hcl; clear hp2 hpr hcl; obtain ⟨c0, c1, c2⟩ := HR.out _ HPX.out.ke; obtain ⟨vv, hatv⟩ := HPX.out.st.at_; have hmini := hatv.pr.mini; clear hatv; have b0 := cell_blk (ke_blk HPX.out.ke HBX.out (by decide) HGX.out) 0)) | (go_at_call 74; go_must (refine (printIndent_any _ g true asc 0 (by omega) _ _ HPX.out.st (by have h9 := HIL.out; have h8 := HL.out; have h7 := HKL.out; have h6 := h9 true; have h5 := h9 false; (try simp only [List.length_append, List.length_cons, List.length_nil, List.length_replicate]); omega)).mono ?_; rintro e' w2 ⟨rfl, hp2⟩; have HPX := Lib.hid (HPX.out.trans hp2); clear hp2; obtain ⟨c0, c1, c2⟩ := HR.out _ HPX.out.ke; obtain ⟨vv, hatv⟩ := HPX.out.st.at_; have hmini := hatv.pr.mini; clear hatv; have b0 := cell_blk (ke_blk HPX.out.ke HBX.out (by decide) HGX.out) 0)))
      go_end0
      refine ⟨rfl, cl, HPR.out, HKL.out, ?_⟩
      rw [at_bytes, show ts.isEmpty = true from HEM.out]
      simpa using Put.of_below HS0.out HB0.out HPX.out
  · have hn0 : ¬ n = 0 := by omega
    have hn1 : (0 : Int) < (n : Int) := by omega
    have hn2 : ((n : Int) == 0) = false := by rw [beq_eq_false_iff_ne]; omega
    have hn3 : (n == 0) = false := by rw [beq_eq_false_iff_ne]; omega
    have HEM := Lib.hid (HEM1.out hn)
    cases mini
    · go_upto_region 999 with (first | ((with_reducible refine wp_cond_w ?_); (conv => arg 1; simp [Act.eval, *]); first | refine condW_t ?_ | refine condW_f ?_) | ((with_reducible refine wpList_skip ?hw ?_); (case hw => simp [Region.wanted, yielded, Act.put, undef, hsz])) | (go_at_call 75; go_must (refine (print1_any _ g false asc _ _ _ HPX.out.st (by have h9 := HIL.out; have h8 := HL.out; have h7 := HKL.out; have h6 := h9 true; have h5 := h9 false; (try simp only [List.length_append, List.length_cons, List.length_nil, List.length_replicate]); omega)).mono ?_; rintro e' w2 ⟨rfl, hp2⟩; have HPX := Lib.hid (HPX.out.trans hp2); clear hp2; obtain ⟨c0, c1, c2⟩ := HR.out _ HPX.out.ke; obtain ⟨vv, hatv⟩ := HPX.out.st.at_; have hmini := hatv.pr.mini; clear hatv; have b0 := cell_blk (ke_blk HPX.out.ke HBX.out (by decide) HGX.out) 0)) | (go_at_call 82; go_must (refine (printIdent_any (F := F) g false asc true 0 (by decide) (by decide) 0 rfl nm HV.out HLOW.out s HH.out _ (HE.out.ke HPX.out.ke) _ HPX.out.st HSS.out (by have e9 : Int.toNat 0 = 0 := rfl; rw [e9]; have h9 := HIL.out; have h8 := HL.out; have h7 := HKL.out; have h6 := h9 true; have h5 := h9 false; (try simp only [List.length_append, List.length_cons, List.length_nil, List.length_replicate]); omega)).mono ?_; rintro e' w2 ⟨rfl, hp2⟩; rw [show Int.toNat 0 = 0 from rfl] at hp2; have HPX := Lib.hid (HPX.out.trans hp2); clear hp2; obtain ⟨c0, c1, c2⟩ := HR.out _ HPX.out.ke; obtain ⟨vv, hatv⟩ := HPX.out.st.at_; have hmini := hatv.pr.mini; clear hatv; have b0 := cell_blk (ke_blk HPX.out.ke HBX.out (by decide) HGX.out) 0)) | (go_at_call 80; go_must (refine (printTokens_pre (F := F) g false asc (cost ts + 1) ts _ _ _ (by omega) HC.out HOK.out (tks_keep HPX.out.ke HTK.out) (HE.out.ke HPX.out.ke) HPX.out.st (by have h9 := HIL.out; have h8 := HL.out; have h7 := HKL.out; have h6 := h9 true; have h5 := h9 false; (try simp only [List.length_append, List.length_cons, List.length_nil, List.length_replicate]); omega)).mono ?_; rintro e' w2 ⟨hasT, cl, rfl, hpr, hcl, hp2⟩; have HPX := Lib.hid (HPX.out.trans hp2); have HPR := Lib.hid hpr; have HKL := Lib.hid hcl; clear hp2 hpr hcl; obtain ⟨c0, c1, c2⟩ := HR.out _ HPX.out.ke; obtain ⟨vv, hatv⟩ := HPX.out.st.at_; have hmini := hatv.pr.mini; clear hatv; have b0 := cell_blk (ke_blk HPX.out.ke HBX.out (by decide) HGX.out) 0)) | (go_at_call 74; go_must (refine (printIndent_any _ g false asc 0 (by omega) _ _ HPX.out.st (by have h9 := HIL.out; have h8 := HL.out; have h7 := HKL.out; have h6 := h9 true; have h5 := h9 false; (try simp only [List.length_append, List.length_cons, List.length_nil, List.length_replicate]); omega)).mono ?_; rintro e' w2 ⟨rfl, hp2⟩; have HPX := Lib.hid (HPX.out.trans hp2); clear hp2; obtain ⟨c0, c1, c2⟩ := HR.out _ HPX.out.ke; obtain ⟨vv, hatv⟩ := HPX.out.st.at_; have hmini := hatv.pr.mini; clear hatv; have b0 := cell_blk (ke_blk HPX.out.ke HBX.out (by decide) HGX.out) 0)))
      go_end0
      refine ⟨rfl, cl, HPR.out, HKL.out, ?_⟩
      rw [at_bytes, show ts.isEmpty = false from HEM.out]
      simpa using Put.of_below HS0.out HB0.out HPX.out
    · go_upto_region 999 with (first | ((with_reducible refine wp_cond_w ?_); (conv => arg 1; simp [Act.eval, *]); first | refine condW_t ?_ | refine condW_f ?_) | ((with_reducible refine wpList_skip ?hw ?_); (case hw => simp [Region.wanted, yielded, Act.put, undef, hsz])) | (go_at_call 75; go_must (refine (print1_any _ g true asc _ _ _ HPX.out.st (by have h9 := HIL.out; have h8 := HL.out; have h7 := HKL.out; have h6 := h9 true; have h5 := h9 false; (try simp only [List.length_append, List.length_cons, List.length_nil, List.length_replicate]); omega)).mono ?_; rintro e' w2 ⟨rfl, hp2⟩; have HPX := Lib.hid (HPX.out.trans hp2); clear hp2; obtain ⟨c0, c1, c2⟩ := HR.out _ HPX.out.ke; obtain ⟨vv, hatv⟩ := HPX.out.st.at_; have hmini := hatv.pr.mini; clear hatv; have b0 := cell_blk (ke_blk HPX.out.ke HBX.out (by decide) HGX.out) 0)) | (go_at_call 82; go_must (refine (printIdent_any (F := F) g true asc true 0 (by decide) (by decide) 0 rfl nm HV.out HLOW.out s HH.out _ (HE.out.ke HPX.out.ke) _ HPX.out.st HSS.out (by have e9 : Int.toNat 0 = 0 := rfl; rw [e9]; have h9 := HIL.out; have h8 := HL.out; have h7 := HKL.out; have h6 := h9 true; have h5 := h9 false; (try simp only [List.length_append, List.length_cons, List.length_nil, List.length_replicate]); omega)).mono ?_; rintro e' w2 ⟨rfl, hp2⟩; rw [show Int.toNat 0 = 0 from rfl] at hp2; have HPX := Lib.hid (HPX.out.trans hp2); clear hp2; obtain ⟨c0, c1, c2⟩ := HR.out _ HPX.out.ke; obtain ⟨vv, hatv⟩ := HPX.out.st.at_; have hmini := hatv.pr.mini; clear hatv; have b0 := cell_blk (ke_blk HPX.out.ke HBX.out (by decide) HGX.out) 0)) | (go_at_call 80; go_must (refine (printTokens_pre (F := F) g true asc (cost ts + 1) ts _ _ _ (by omega) HC.out HOK.out (tks_keep HPX.out.ke HTK.out) (HE.out.ke HPX.out.ke) HPX.out.st (by have h9 := HIL.out; have h8 := HL.out; have h7 := HKL.out; have h6 := h9 true; have h5 := h9 false; (try simp only [List.length_append, List.length_cons, List.length_nil, List.length_replicate]); omega)).mono ?_; rintro e' w2 ⟨hasT, cl, rfl, hpr, hcl, hp2⟩; have HPX := Lib.hid (HPX.out.trans hp2); have HPR := Lib.hid hpr; have HKL := Lib.hid hcl; clear hp2 hpr hcl; obtain ⟨c0, c1, c2⟩ := HR.out _ HPX.out.ke; obtain ⟨vv, hatv⟩ := HPX.out.st.at_; have hmini := hatv.pr.mini; clear hatv; have b0 := cell_blk (ke_blk HPX.out.ke HBX.out (by decide) HGX.out) 0)) | (go_at_call 74; go_must (refine (printIndent_any _ g true asc 0 (by omega) _ _ HPX.out.st (by have h9 := HIL.out; have h8 := HL.out; have h7 := HKL.out; have h6 := h9 true; have h5 := h9 false; (try simp only [List.length_append, List.length_cons, List.length_nil, List.length_replicate]); omega)).mono ?_; rintro e' w2 ⟨rfl, hp2⟩; have HPX := Lib.hid (HPX.out.trans hp2); clear hp2; obtain ⟨c0, c1, c2⟩ := HR.out _ HPX.out.ke; obtain ⟨vv, hatv⟩ := HPX.out.st.at_; have hmini := hatv.pr.mini; clear hatv; have b0 := cell_blk (ke_blk HPX.out.ke HBX.out (by decide) HGX.out) 0)))
      go_end0
      refine ⟨rfl, cl, HPR.out, HKL.out, ?_⟩
      rw [at_bytes, show ts.isEmpty = false from HEM.out]
      simpa using Put.of_below HS0.out HB0.out HPX.out
end Go.Proofs.YtkfdcbdlcipmfaaGreatFmt
